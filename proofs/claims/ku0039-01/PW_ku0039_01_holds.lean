import PyProof.Rows.All
import Wide.All
import OpenK.AllK
import Wide.FinOn
import KE.KNestM
import PyProof.CompFree
import PyProof.AttrMissHeap
import PyProof.EqAt
import PyProof.EqKinds
import PyProof.NeKinds
import PyProof.RulesTry
import PyProof.Rows.SetFrom
import KE.KPar
import PyProof.GenQ
import KE.KRevIter
import PyProof.SliceStr2
import PyProof.StrBlockI
import PyProof.FString
import KE.KPop
import KE.KItemsList
import KE.KPairComp
import KE.KSortAsk
import KE.KSortTup
import KE.KSetDisp
import KE.KDictList
import KE.KLam
import PyProof.Rows.BitMore
import Lean
import PySem.Challenge.RW_ku0039_01
set_option Elab.async false
set_option tactic.hygienic false
set_option compiler.extract_closed false
set_option genSizeOf false
set_option genSizeOfSpec false
local macro_rules | `(tactic| omega) => `(tactic| lia)
section
set_option maxRecDepth 100000
set_option linter.unusedVariables false
namespace Mine
open PySem PySem.W
noncomputable def topRunT (tb : String → Option Builtin) (p : Program) (w : World) (n₀ : Nat) (ann : Option Value) : Nat → SharedT → Thread → Option SharedT
  | 0, _, _ => none
  | n + 1, s, t => match through t with
    | true => some s
    | false => match stepOk n₀ ann t with
      | false => none
      | true => match stepT (denote tb) p w s t with
        | some (s', t') => topRunT tb p w n₀ ann n s' t'
        | none => none
theorem topRun_of {tb : String → Option Builtin} {p : Program} {w : World} {n₀ : Nat} {ann : Option Value} {n : Nat} : ∀ {s s' : SharedT} {t : Thread}, topRunT tb p w n₀ ann n s t = some s' → topRun tb p w n₀ ann n s.abs t = some s'.abs := by
  induction n with
  | zero => intro s s' t h; cases h
  | succ n ih =>
    intro s s' t h
    unfold topRunT at h
    unfold topRun
    cases he : through t with
    | true => rw [he] at h; cases h; rfl
    | false =>
      rw [he] at h
      cases hk : stepOk n₀ ann t with
      | false => rw [hk] at h; cases h
      | true =>
        rw [hk] at h
        cases hs : stepT (denote tb) p w s t with
        | none => rw [hs] at h; cases h
        | some r => obtain ⟨s₂, t₂⟩ := r; rw [hs] at h; rw [stepT_spec hs]; exact ih h
noncomputable def treeGo : List Obj → Nat → BT → BT
  | [], _, t => t
  | o :: r, i, t => treeGo r (i + 1) (t.ins i o)
noncomputable def treeOf (h : Heap) : BT := treeGo h.objs.toList 0 .nil
noncomputable def topEnd (p : Program) (w : World) (N : Nat) : Option (Shared × SharedT) := (fencedOpening treeTable p w N).bind fun s₀ =>
  (topRunT treeTable p w s₀.heap.objs.size (s₀.heap.nsMap mainGlobals "__annotations__") N ⟨treeOf s₀.heap, s₀.heap.objs.size, s₀.heap.life, s₀.gens, s₀.drawn, s₀.toks, s₀.os⟩ (topStub p)).map fun s => (s₀, s)
theorem left_tree {p q : Program} {loose : List Str} {Xt : Shared → Bool} {α : Type} {Yf : Shared → α} {Ya : World → α} {N : Nat}
    (h1 : ∀ w : World, (fencedOpening treeTable p w N).map (fun s => (absHeap (treeOf s.heap) s.heap.objs.size s.heap.life, s.heap.isNs mainGlobals && s.gens.size == 0)) = (fencedOpening treeTable p w N).map fun s => (s.heap, true))
    (h2 : ∀ w : World, (topEnd p w N).map (fun x => ((staticsOk (importedModules p.main.body) x.1.heap x.2.abs.heap && namesBound p x.2.abs.heap && gensDone x.2.abs && laidKept x.1.heap x.2.abs.heap),
        openSeen q loose (importedModules p.main.body) Xt true x.2.abs, Yf x.2.abs)) = some (true, openGood q loose, Ya w)) : LeftO p q loose Xt Yf Ya N := fun w => by
  obtain ⟨⟨s₀, sT⟩, e, l⟩ := Option.map_eq_some_iff.mp (h2 w)
  unfold topEnd at e
  obtain ⟨s₁, e0, e⟩ := Option.bind_eq_some_iff.mp e
  obtain ⟨s₂, r, e⟩ := Option.map_eq_some_iff.mp e
  cases e
  obtain ⟨l1, l2, l3⟩ : _ ∧ _ ∧ _ := by simpa only [Prod.mk.injEq] using l
  have z := h1 w
  rw [e0] at z
  obtain ⟨z1, z2⟩ : _ ∧ _ := by simpa only [Option.map_some, Option.some.injEq, Prod.mk.injEq] using z
  have r := topRun_of r
  have ea : (SharedT.mk (treeOf s₀.heap) s₀.heap.objs.size s₀.heap.life s₀.gens s₀.drawn s₀.toks s₀.os).abs = s₀ := by
    show Shared.mk (absHeap _ _ _) _ _ _ _ = _
    rw [z1]
  rw [ea] at r
  have t : topFrom treeTable p w N s₀ = some sT.abs := by
    unfold topFrom
    rw [z2, r]
    show (match staticsOk (importedModules p.main.body) s₀.heap sT.abs.heap && namesBound p sT.abs.heap && gensDone sT.abs && laidKept s₀.heap sT.abs.heap with | true => _ | false => _) = _
    rw [l1]
  unfold openEnds
  rw [e0]
  show (topFrom treeTable p w N _).map _ = _
  rw [t]
  exact congrArg some (Prod.ext l2 l3)
theorem head_open {r : OpenRow} {q : Program} {loose : List Str} {Xt : Shared → Bool} {XP : (Str → Option Value) → Heap → Prop} {α : Type} {Yf : Shared → α} {Ya : World → α} {YP : World → Heap → Prop} {d : DefRec} {kwd : List (Str × Expr)} {N : Nat}
    (hY : ∀ w s, Yf s = Ya w → YP w s.heap) (hYk : ∀ w h h', YP w h → (∀ b o, h.get? b = some o → h'.get? b = some o) → YP w h')
    (hX : ∀ s, Xt s = true → XP (s.heap.nsMap mainGlobals) s.heap) (hXk : ∀ mg h h', XP mg h → (∀ b o, h.get? b = some o → h'.get? b = some o) → XP mg h')
    (hdef : defOf q r.name = some (d, kwd)) (hp : r.prog.theDef r.name = some (d.params, d.body, d.scope)) (hk : kwWritten? d.params.kwonlyargs d.params.kw_defaults = some kwd) (hRf : ∀ s, Xt s = true → RecFacts r.records s.heap) (hwr : (!r.writes || r.records.isEmpty) = true)
    (k1 : r.wellSaid = true) (ok : (chainsOk q && opensWell r.prog && (frees r.toRowW && r.within.isEmpty)) = true) (hb : r.prog.bare) (hw : r.toRowW.promised)
    (h : LeftO r.prog q loose Xt Yf Ya N ∧ WalkO q loose XP YP r.toRowW d kwd fun f vs => PySem.call f vs) : r.Holds :=
  holds_open h.1 hY hYk hX hXk hdef hp hk hRf hwr k1 ok hb hw h.2
end Mine
end
section
open PySem PySem.W PyProof.Rows
set_option maxRecDepth 100000
set_option maxHeartbeats 8000000
namespace Mine
noncomputable def vw : Program := view PySem.Challenge.pw_ku0039_01 [0, 1, 3, 4, 5, 6, 7, 8, 9, 11, 12, 14, 15, 16, 18, 19, 20, 21, 22, 23, 24, 25]
noncomputable def loose : List Str := [Str.ofString "_twin_re_1", Str.ofString "_namespace_map", Str.ofString "_looks_like_prefix_name", Str.ofString "C14NWriterTarget", Str.ofString "COMPILER_FLAG_NAMES", Str.ofString "_name_disallowed_re", Str.ofString "_value_disallowed_re"]
theorem said1 : PySem.Challenge.rw_ku0039_01.wellSaid = true := by decide +kernel
local macro_rules | `(tactic| o_law) => `(tactic| refine holds_law said1 fun said => ?_)
local macro_rules | `(tactic| o_head $H) => `(tactic|
  refine head_open (q := vw) (loose := loose) (Xt := fun s => xlAt vw [] s && recOk (RowW.records PySem.Challenge.rw_ku0039_01.row.toRowW) s) (XP := XL vw []) (Yf := Hook.obs $H) (Ya := Hook.val $H) (YP := Hook.says $H) (N := 4718) (Hook.of $H) (Hook.keeps $H)
    (fun s e => xl_of s (Bool.and_eq_true_iff.mp e).1) XL.keeps (by rfl) (by rfl) (by rfl) (fun s e => recFacts_of (Bool.and_eq_true_iff.mp e).2) (by rfl) (by assumption) (by decide +kernel) ⟨rfl, rfl, rfl, rfl, rfl, by decide +kernel⟩ ?hw ?hc)
open_top hd for PySem.Challenge.rw_ku0039_01
end Mine
end
section
open PySem PySem.W PyProof.Rows
set_option maxRecDepth 100000
set_option maxHeartbeats 8000000
namespace Mine
noncomputable def asL : List Addr := [2, 3, 32, 34, 35, 37, 38, 42, 43, 44, 45, 47, 48, 50, 51, 52, 60, 61, 63, 64, 66, 67, 68, 69, 71, 72, 74, 75, 76, 78, 79, 81, 82, 83, 84, 86, 87, 89, 90, 91, 93, 94, 96, 97, 98, 99, 100, 102, 103, 105, 106, 107, 109, 110, 112, 113, 114, 116, 117, 119, 120, 121, 122, 125, 126, 127, 129, 130, 132, 133, 134, 136, 137, 139, 140, 141, 143, 144, 146, 147, 148, 149, 150, 151, 152, 155, 157, 158, 160, 161, 162, 164, 165, 167, 168, 169, 170, 172, 173, 175, 176, 180, 181, 185, 186, 194, 195, 197, 198, 200, 201, 202, 204, 205, 207, 208, 209, 211, 212, 214, 215, 216, 218, 219, 221, 222, 223, 226, 227, 228, 230, 231, 233, 234, 235, 237, 238, 240, 241, 242, 244, 245, 247, 248, 249, 250, 252, 253, 255, 256, 257, 260, 261, 262, 265, 266, 267, 269, 270, 272, 273, 274, 276, 277, 279, 280, 281, 284, 285, 286, 288, 289, 291, 292, 293, 295, 296, 298, 299, 300, 302, 303, 305, 306, 307, 308, 309, 310, 311, 314, 317, 318, 319, 321, 322, 324, 325, 326, 329, 330, 331, 334, 335, 336, 339, 340, 341, 344, 345, 346, 348, 349, 351, 352, 353, 356, 357]
theorem asL_is (P : Params) : asL = (hd.heap_1 P).map (·.1) := by kernel_rfl
theorem open1 (w : World) : (fencedOpening treeTable PySem.Challenge.pw_ku0039_01 w 4718).map (fun s => (absHeap (treeOf s.heap) s.heap.objs.size s.heap.life, s.heap.isNs mainGlobals && s.gens.size == 0)) = (fencedOpening treeTable PySem.Challenge.pw_ku0039_01 w 4718).map fun s => (s.heap, true) := by kernel_rfl
noncomputable def atEnd (x : Shared × SharedT) := ((staticsOk (importedModules PySem.Challenge.pw_ku0039_01.main.body) x.1.heap x.2.abs.heap && namesBound PySem.Challenge.pw_ku0039_01 x.2.abs.heap && gensDone x.2.abs && laidKept x.1.heap x.2.abs.heap),
  openSeen vw loose (importedModules PySem.Challenge.pw_ku0039_01.main.body) (fun s => xlAt vw [] s && recOk (RowW.records PySem.Challenge.rw_ku0039_01.row.toRowW) s) true x.2.abs, Hook.obs (kmHook hd.heap_1 asL asL_is [123]) x.2.abs)
theorem endF (w : World) : (topEnd PySem.Challenge.pw_ku0039_01 (w.withFollow "special-get-raises" false) 4718).map atEnd = some (true, openGood vw loose, Hook.val (kmHook hd.heap_1 asL asL_is [123]) (w.withFollow "special-get-raises" false)) := by kernel_rfl
theorem endT (w : World) : (topEnd PySem.Challenge.pw_ku0039_01 (w.withFollow "special-get-raises" true) 4718).map atEnd = some (true, openGood vw loose, Hook.val (kmHook hd.heap_1 asL asL_is [123]) (w.withFollow "special-get-raises" true)) := by kernel_rfl
theorem left1 : LeftO PySem.Challenge.pw_ku0039_01 vw loose (fun s => xlAt vw [] s && recOk (RowW.records PySem.Challenge.rw_ku0039_01.row.toRowW) s) (Hook.obs (kmHook hd.heap_1 asL asL_is [123])) (Hook.val (kmHook hd.heap_1 asL asL_is [123])) 4718 :=
  left_tree open1 (byRow2 "special-get-raises" (P := fun w => (topEnd PySem.Challenge.pw_ku0039_01 w 4718).map atEnd = some (true, openGood vw loose, Hook.val (kmHook hd.heap_1 asL asL_is [123]) w)) endF endT)
end Mine
end
section
set_option maxRecDepth 100000
set_option linter.unusedVariables false
namespace Mine
open PySem PySem.Spec PySem.Calls PyProof.Rows PySem.W

inductive AV where
  | none
  | bool (b : Bool)
  | int (i : Int)
  | str (s : Str)
  | cst (v : Value)
  | obj (a : Addr)
  | tup (xs : List AV)
  | lst (xs : List AV)
  | recd (cls : String) (xs : List AV)
noncomputable abbrev AV.bm (id : String) (self : AV) : AV := .recd "builtin_function_or_method" [.cst (.builtin id), self]
noncomputable abbrev AV.meth (f : Addr) (self : AV) : AV := .recd "method" [.obj f, self]
noncomputable abbrev AV.rng (a b c : Int) : AV := .recd "range" [.int a, .int b, .int c]

noncomputable def frozenCls : List String := ["builtin_function_or_method", "method", "range", "slice", "dict_items", "code"]

noncomputable abbrev fldsOf (c : String) (vs : Array Value) : Obj := { cls := .type c, data := .fields vs }
mutual
inductive VR (g : Heap) : AV → Value → Prop
  | none : VR g .none .none
  | bool (b : Bool) : VR g (.bool b) (.bool b)
  | int (i : Int) (t : Tok) : VR g (.int i) (.int i t)
  | str (s : Str) (t : Tok) : VR g (.str s) (.str s t)
  | cst (v : Value) : VR g (.cst v) v
  | obj (a : Addr) : VR g (.obj a) (.ref a)
  | tup {xs : List AV} {vs : Array Value} {a : Addr} {o : Obj} {n : Nat} : g.get? a = some o → o.cls = .type "tuple" → o.data = .seq vs n → VRs g xs vs.toList → VR g (.tup xs) (.ref a)
  | lst {xs : List AV} {vs : Array Value} {a : Addr} {o : Obj} {n : Nat} : g.get? a = some o → o.cls = .type "list" → o.data = .seq vs n → VRs g xs vs.toList → VR g (.lst xs) (.ref a)
  | recd {cls : String} {xs : List AV} {vs : Array Value} {a : Addr} : cls ∈ frozenCls → g.get? a = some (fldsOf cls vs) → VRs g xs vs.toList → VR g (.recd cls xs) (.ref a)
inductive VRs (g : Heap) : List AV → List Value → Prop
  | nil : VRs g [] []
  | cons {x : AV} {v : Value} {xs : List AV} {vs : List Value} : VR g x v → VRs g xs vs → VRs g (x :: xs) (v :: vs)
end

noncomputable def Le (g g' : Heap) : Prop := ∀ b o, g.get? b = some o → g'.get? b = some o
theorem Le.refl (g : Heap) : Le g g := fun zz zz e => e
theorem Le.trans {g g' g'' : Heap} (x : Le g g') (y : Le g' g'') : Le g g'' := fun b o e => y b o (x b o e)

noncomputable def Dull (o : Obj) : Prop := (∃ es n, o.data = .dict es n) ∨ (∃ v, o.data = .cell v) ∨ (∃ vs c, o.data = .fields vs ∧ o.cls = .type c ∧ c ∉ frozenCls)

noncomputable def LeD (g g' : Heap) : Prop := ∀ b o, g.get? b = some o → Dull o ∨ g'.get? b = some o
theorem Le.d {g g' : Heap} (x : Le g g') : LeD g g' := fun b o e => .inr (x b o e)
theorem LeD.seq {g g' : Heap} (x : LeD g g') {a : Addr} {o : Obj} {vs : Array Value} {n : Nat} (e : g.get? a = some o) (hd : o.data = .seq vs n) : g'.get? a = some o := by
  rcases x a o e with (⟨_, _, h⟩ | ⟨_, h⟩ | ⟨_, _, h, _⟩) | h
  · rw [hd] at h; cases h
  · rw [hd] at h; cases h
  · rw [hd] at h; cases h
  · exact h
theorem LeD.fields {g g' : Heap} (x : LeD g g') {a : Addr} {o : Obj} {vs : Array Value} {c : String} (hc : c ∈ frozenCls) (e : g.get? a = some o) (hcl : o.cls = .type c) (hd : o.data = .fields vs) : g'.get? a = some o := by
  rcases x a o e with (⟨_, _, h⟩ | ⟨_, h⟩ | ⟨_, c', _, h, hn⟩) | h
  · rw [hd] at h; cases h
  · rw [hd] at h; cases h
  · rw [hcl] at h; cases h; exact absurd hc hn
  · exact h

theorem VR.monoD {g g' : Heap} (k : LeD g g') {x : AV} {v : Value} (h : VR g x v) : VR g' x v :=
  VR.rec (motive_1 := fun x v zz => VR g' x v) (motive_2 := fun xs vs zz => VRs g' xs vs) .none .bool .int .str .cst .obj
    (fun h1 h2 h3 zz h => .tup (k.seq h1 h3) h2 h3 h) (fun h1 h2 h3 zz h => .lst (k.seq h1 h3) h2 h3 h) (fun h0 h1 zz h => .recd h0 (k.fields h0 h1 rfl rfl) h) .nil (fun zz zz h1 h2 => .cons h1 h2) h
theorem VRs.ind {g : Heap} {P : List AV → List Value → Prop} (nil : P [] []) (cons : ∀ x v xs vs, VR g x v → VRs g xs vs → P xs vs → P (x :: xs) (v :: vs)) {xs : List AV} {vs : List Value} (h : VRs g xs vs) : P xs vs :=
  VRs.rec (motive_1 := fun zz zz zz => True) (motive_2 := fun xs vs zz => P xs vs) .intro (fun zz => .intro) (fun zz zz => .intro) (fun zz zz => .intro) (fun zz => .intro) (fun zz => .intro)
    (fun zz zz zz zz zz => .intro) (fun zz zz zz zz zz => .intro) (fun zz zz zz zz => .intro) nil (fun a b zz d => cons _ _ _ _ a b d) h
theorem VRs.monoD {g g' : Heap} (k : LeD g g') {xs : List AV} {vs : List Value} (h : VRs g xs vs) : VRs g' xs vs := h.ind .nil fun x v xs vs h1 h2 h3 => .cons (h1.monoD k) h3
theorem VR.mono {g g' : Heap} {x : AV} {v : Value} (h : VR g x v) (k : Le g g') : VR g' x v := h.monoD k.d
theorem VRs.mono {g g' : Heap} {xs : List AV} {vs : List Value} (h : VRs g xs vs) (k : Le g g') : VRs g' xs vs := h.monoD k.d
theorem VRs.length {g : Heap} {xs : List AV} {vs : List Value} (h : VRs g xs vs) : xs.length = vs.length := h.ind (P := fun xs vs => xs.length = vs.length) rfl fun zz zz zz zz zz zz h => congrArg (· + 1) h
section
variable {g : Heap} {v : Value} {vs : List Value} {x y z w : AV} {xs : List AV}
theorem VR.isObj {a : Addr} (h : VR g (.obj a) v) : v = .ref a := by cases h; rfl
theorem VR.isCst {u : Value} (h : VR g (.cst u) v) : v = u := by cases h; rfl
theorem VR.isNone (h : VR g .none v) : v = .none := by cases h; rfl
theorem VR.isBool {b : Bool} (h : VR g (.bool b) v) : v = .bool b := by cases h; rfl
theorem VR.isInt {i : Int} (h : VR g (.int i) v) : ∃ t, v = .int i t := by cases h; exact ⟨_, rfl⟩
theorem VR.isStr {i : Str} (h : VR g (.str i) v) : ∃ t, v = .str i t := by cases h; exact ⟨_, rfl⟩
inductive VSeq (g : Heap) (c : String) (xs : List AV) (v : Value) : Prop
  | mk (a : Addr) (o : Obj) (vs : Array Value) (n : Nat) (e : v = .ref a) (h1 : g.get? a = some o) (h2 : o.cls = .type c) (h3 : o.data = .seq vs n) (h4 : VRs g xs vs.toList)
inductive VRec (g : Heap) (c : String) (xs : List AV) (v : Value) : Prop
  | mk (a : Addr) (vs : Array Value) (e : v = .ref a) (h0 : c ∈ frozenCls) (h1 : g.get? a = some (fldsOf c vs)) (h4 : VRs g xs vs.toList)
theorem VR.isTup (h : VR g (.tup xs) v) : VSeq g "tuple" xs v := by cases h with | tup h1 h2 h3 h4 => exact ⟨_, _, _, _, rfl, h1, h2, h3, h4⟩
theorem VR.isLst (h : VR g (.lst xs) v) : VSeq g "list" xs v := by cases h with | lst h1 h2 h3 h4 => exact ⟨_, _, _, _, rfl, h1, h2, h3, h4⟩
theorem VR.isRecd {c : String} (h : VR g (.recd c xs) v) : VRec g c xs v := by cases h with | recd h0 h1 h4 => exact ⟨_, _, rfl, h0, h1, h4⟩
theorem VRs.isNil (h : VRs g [] vs) : vs = [] := by cases h; rfl
inductive VCons (g : Heap) (x : AV) (xs : List AV) (vs : List Value) : Prop
  | mk (v : Value) (us : List Value) (e : vs = v :: us) (h : VR g x v) (hs : VRs g xs us)
theorem VRs.isCons (h : VRs g (x :: xs) vs) : VCons g x xs vs := by cases h with | cons h1 h2 => exact ⟨_, _, rfl, h1, h2⟩
inductive VOne (g : Heap) (x : AV) (vs : List Value) : Prop
  | mk (v : Value) (e : vs = [v]) (h : VR g x v)
inductive VTwo (g : Heap) (x y : AV) (vs : List Value) : Prop
  | mk (v u : Value) (e : vs = [v, u]) (h1 : VR g x v) (h2 : VR g y u)
inductive VThree (g : Heap) (x y z : AV) (vs : List Value) : Prop
  | mk (v u w : Value) (e : vs = [v, u, w]) (h1 : VR g x v) (h2 : VR g y u) (h3 : VR g z w)
theorem VRs.one (h : VRs g [x] vs) : VOne g x vs := let ⟨v, _, e, h1, h⟩ := h.isCons; ⟨v, e.trans (congrArg (v :: ·) h.isNil), h1⟩
theorem VRs.two (h : VRs g [x, y] vs) : VTwo g x y vs := let ⟨v, _, e, h1, h⟩ := h.isCons; let ⟨u, e', h2⟩ := h.one; ⟨v, u, e.trans (congrArg (v :: ·) e'), h1, h2⟩
theorem VRs.three (h : VRs g [x, y, z] vs) : VThree g x y z vs := let ⟨v, _, e, h1, h⟩ := h.isCons; let ⟨u, w, e', h2, h3⟩ := h.two; ⟨v, u, w, e.trans (congrArg (v :: ·) e'), h1, h2, h3⟩
end
section
variable {g : Heap} {v u : Value} {vs : List Value} {x y z w : AV} {xs : List AV} {P : Value → Prop} {R : List Value → Prop}
theorem VR.eObj {a : Addr} (h : VR g (.obj a) v) (k : P (.ref a)) : P v := h.isObj ▸ k
theorem VR.eCst {u : Value} (h : VR g (.cst u) v) (k : P u) : P v := h.isCst ▸ k
theorem VR.eNone (h : VR g .none v) (k : P .none) : P v := h.isNone ▸ k
theorem VR.eBool {b : Bool} (h : VR g (.bool b) v) (k : P (.bool b)) : P v := h.isBool ▸ k
theorem VR.eInt {i : Int} (h : VR g (.int i) v) (k : ∀ t, P (.int i t)) : P v := let ⟨t, e⟩ := h.isInt; e ▸ k t
theorem VR.eStr {i : Str} (h : VR g (.str i) v) (k : ∀ t, P (.str i t)) : P v := let ⟨t, e⟩ := h.isStr; e ▸ k t
theorem VR.eInt2 {P : Value → Value → Prop} {i j : Int} (h : VR g (.int i) v) (h' : VR g (.int j) u) (k : ∀ t t', P (.int i t) (.int j t')) : P v u := VR.eInt (P := fun v => P v u) h fun t => VR.eInt (P := fun u => P (.int i t) u) h' fun t' => k t t'
theorem VR.eStr2 {P : Value → Value → Prop} {i j : Str} (h : VR g (.str i) v) (h' : VR g (.str j) u) (k : ∀ t t', P (.str i t) (.str j t')) : P v u := VR.eStr (P := fun v => P v u) h fun t => VR.eStr (P := fun u => P (.str i t) u) h' fun t' => k t t'
theorem VRs.eNil (h : VRs g [] vs) (k : R []) : R vs := h.isNil ▸ k
theorem VRs.eCons (h : VRs g (x :: xs) vs) (k : ∀ v us, VR g x v → VRs g xs us → R (v :: us)) : R vs := let ⟨v, us, e, h1, h2⟩ := h.isCons; e ▸ k v us h1 h2
theorem VRs.eOne (h : VRs g [x] vs) (k : ∀ v, VR g x v → R [v]) : R vs := h.eCons fun v us h1 h2 => h2.eNil (R := fun us => R (v :: us)) (k v h1)
theorem VRs.eTwo (h : VRs g [x, y] vs) (k : ∀ v u, VR g x v → VR g y u → R [v, u]) : R vs := h.eCons fun v us h1 h2 => h2.eOne (R := fun us => R (v :: us)) fun u q => k v u h1 q
theorem VRs.eThree (h : VRs g [x, y, z] vs) (k : ∀ v u w, VR g x v → VR g y u → VR g z w → R [v, u, w]) : R vs := h.eCons fun v us h1 h2 => h2.eTwo (R := fun us => R (v :: us)) fun u w q r => k v u w h1 q r
theorem VRs.eFour (h : VRs g [x, y, z, w] vs) (k : ∀ a b c d, VR g x a → VR g y b → VR g z c → VR g w d → R [a, b, c, d]) : R vs := h.eCons fun v us h1 h2 => h2.eThree (R := fun us => R (v :: us)) fun a b c q r s => k v a b c h1 q r s
end
section
variable {g : Heap} {v : Value} {x y z : AV} {P : Value → Prop} {R : Array Value → Prop} {ws : Array Value}
theorem VRs.aOne (h : VRs g [x] ws.toList) (k : ∀ v, VR g x v → R #[v]) : R ws := let ⟨v, e, q⟩ := h.one; (show ws = #[v] from Array.toList_inj.mp e) ▸ k v q
theorem VRs.aTwo (h : VRs g [x, y] ws.toList) (k : ∀ v u, VR g x v → VR g y u → R #[v, u]) : R ws := let ⟨v, u, e, q, r⟩ := h.two; (show ws = #[v, u] from Array.toList_inj.mp e) ▸ k v u q r
theorem VRs.aThree (h : VRs g [x, y, z] ws.toList) (k : ∀ v u w, VR g x v → VR g y u → VR g z w → R #[v, u, w]) : R ws := let ⟨v, u, w, e, q, r, s⟩ := h.three; (show ws = #[v, u, w] from Array.toList_inj.mp e) ▸ k v u w q r s
theorem VR.eRecd1 {c : String} (h : VR g (.recd c [x]) v) (k : ∀ a v1, g.get? a = some (fldsOf c #[v1]) → VR g x v1 → P (.ref a)) : P v :=
  let ⟨a, ws, e, _, h1, h2⟩ := h.isRecd; e ▸ h2.aOne (R := fun ws => g.get? a = some (fldsOf c ws) → P (.ref a)) (fun v q h1 => k a v h1 q) h1
theorem VR.eRecd2 {c : String} (h : VR g (.recd c [x, y]) v) (k : ∀ a v1 v2, g.get? a = some (fldsOf c #[v1, v2]) → VR g x v1 → VR g y v2 → P (.ref a)) : P v :=
  let ⟨a, ws, e, _, h1, h2⟩ := h.isRecd; e ▸ h2.aTwo (R := fun ws => g.get? a = some (fldsOf c ws) → P (.ref a)) (fun v u q r h1 => k a v u h1 q r) h1
theorem VR.eRecd3 {c : String} (h : VR g (.recd c [x, y, z]) v) (k : ∀ a v1 v2 v3, g.get? a = some (fldsOf c #[v1, v2, v3]) → VR g x v1 → VR g y v2 → VR g z v3 → P (.ref a)) : P v :=
  let ⟨a, ws, e, _, h1, h2⟩ := h.isRecd; e ▸ h2.aThree (R := fun ws => g.get? a = some (fldsOf c ws) → P (.ref a)) (fun v u w q r s h1 => k a v u w h1 q r s) h1
theorem VR.eTup2 (h : VR g (.tup [x, y]) v) (k : ∀ d o v1 v2 m, g.get? d = some o → o.cls = .type "tuple" → o.data = .seq #[v1, v2] m → VR g x v1 → VR g y v2 → P (.ref d)) : P v :=
  let ⟨a, o, ws, m, e, h1, h2, h3, h4⟩ := h.isTup; e ▸ h4.aTwo (R := fun ws => o.data = .seq ws m → P (.ref a)) (fun v u q r h3 => k a o v u m h1 h2 h3 q r) h3
theorem VR.eTup3 (h : VR g (.tup [x, y, z]) v) (k : ∀ d o v1 v2 v3 m, g.get? d = some o → o.cls = .type "tuple" → o.data = .seq #[v1, v2, v3] m → VR g x v1 → VR g y v2 → VR g z v3 → P (.ref d)) : P v :=
  let ⟨a, o, ws, m, e, h1, h2, h3, h4⟩ := h.isTup; e ▸ h4.aThree (R := fun ws => o.data = .seq ws m → P (.ref a)) (fun v u w q r s h3 => k a o v u w m h1 h2 h3 q r s) h3
end
inductive VAt (g : Heap) (vs : List Value) (i : Nat) (x : AV) : Prop
  | mk (v : Value) (e : vs[i]? = some v) (h : VR g x v)
theorem VRs.get {g : Heap} {xs : List AV} {vs : List Value} (h : VRs g xs vs) {i : Nat} {x : AV} (e : xs[i]? = some x) : VAt g vs i x :=
  h.ind (P := fun xs vs => ∀ i, xs[i]? = some x → VAt g vs i x) (fun i e => by simp at e) (fun y v xs vs h zz ih i e => by
    cases i with
    | zero => exact ⟨v, rfl, (Option.some.inj e : y = x) ▸ h⟩
    | succ i => obtain ⟨u, h1, h2⟩ := ih i e; exact ⟨u, h1, h2⟩) i e
theorem VRs.append {g : Heap} {xs ys : List AV} {vs us : List Value} (h : VRs g xs vs) (k : VRs g ys us) : VRs g (xs ++ ys) (vs ++ us) := h.ind (P := fun xs vs => VRs g (xs ++ ys) (vs ++ us)) k fun zz zz zz zz h zz ih => .cons h ih
theorem VRs.drop {g : Heap} (n : Nat) {xs : List AV} {vs : List Value} (h : VRs g xs vs) : VRs g (xs.drop n) (vs.drop n) :=
  h.ind (P := fun xs vs => ∀ n, VRs g (xs.drop n) (vs.drop n)) (fun n => by cases n <;> exact .nil) (fun zz zz zz zz h t ih n => by cases n with | zero => exact .cons h t | succ n => exact ih n) n
theorem VRs.take {g : Heap} (n : Nat) {xs : List AV} {vs : List Value} (h : VRs g xs vs) : VRs g (xs.take n) (vs.take n) :=
  h.ind (P := fun xs vs => ∀ n, VRs g (xs.take n) (vs.take n)) (fun n => by cases n <;> exact .nil) (fun zz zz zz zz h t ih n => by cases n with | zero => exact .nil | succ n => exact .cons h (ih n)) n
theorem VRs.set {g : Heap} {x : AV} {v : Value} (n : Nat) {xs : List AV} {vs : List Value} (h : VRs g xs vs) (h' : VR g x v) : VRs g (xs.set n x) (vs.set n v) :=
  h.ind (P := fun xs vs => ∀ n, VRs g (xs.set n x) (vs.set n v)) (fun n => by cases n <;> exact .nil) (fun zz zz zz zz h t ih n => by cases n with | zero => exact .cons h' t | succ n => exact .cons h (ih n)) n

inductive AO where
  | list (xs : List AV)
  | dict (es : List (Str × AV))
  | sset (xs : List Str)
  | iset (xs : List Int)
  | inst (C d : Addr)
  | raw (o : Obj)
  | tab (qual : Str)
  | gen (k : Nat) (st : GenState)
  | fn (fd : FuncData)
noncomputable abbrev Led := List (Addr × AO)
noncomputable def AO.genE : AO → Option (Nat × GenState)
  | .gen k st => some (k, st)
  | _ => none
noncomputable def genEs (L : Led) : List (Nat × GenState) := L.filterMap fun p => p.2.genE
theorem genEs_append (L P : Led) : genEs (L ++ P) = genEs L ++ genEs P := List.filterMap_append ..
theorem genEs_cons {a : Addr} {x : AO} (h : x.genE = none) (L : Led) : genEs ((a, x) :: L) = genEs L := by unfold genEs; rw [List.filterMap_cons, h]
theorem genEs_cons_le (p : Addr × AO) (L : Led) : List.Sublist (genEs L) (genEs (p :: L)) := (List.sublist_cons_self p L).filterMap _

structure Cx where
  prog : Program
  w : World
  hB : Heap
  K : Frag
  os : OsState
  mg : Str → Option Value
  mb : Str → Option Value
  pins : Led
noncomputable def GensOk (L : Led) (gens : Array GenState) : Prop := AllBare gens ∧ ((genEs L).map (fun zz => zz.1)).Nodup ∧ ∀ p ∈ genEs L, gens[p.1]? = some p.2
theorem GensOk.sub {L L' : Led} {gens : Array GenState} (h : GensOk L gens) (k : List.Sublist (genEs L') (genEs L)) : GensOk L' gens := ⟨h.1, (k.map _).nodup h.2.1, fun p hp => h.2.2 p (k.subset hp)⟩
theorem GensOk.cons {L : Led} {gens : Array GenState} (h : GensOk L gens) {a : Addr} {x : AO} (hx : x.genE = none) : GensOk ((a, x) :: L) gens := h.sub (by rw [genEs_cons hx]; exact List.Sublist.refl _)
noncomputable abbrev Cx.SK (C : Cx) : KeyKind C.prog C.w Str := strKind C.prog C.w
noncomputable abbrev Cx.IK (C : Cx) : KeyKind C.prog C.w Int := intKind C.prog C.w

inductive ORlist (g : Heap) (xs : List AV) (o : Obj) : Prop
  | mk (vs : Array Value) (n : Nat) (e : o = listOf vs n) (h : VRs g xs vs.toList)
inductive ORdict (prog : Program) (w : World) (g : Heap) (es : List (Str × AV)) (o : Obj) : Prop
  | mk (e0 : o.ExactDict) (cs : Array DictEntry) (ep : Nat) (kvs : List (Str × Value)) (e : o.data = .dict cs ep) (h1 : KeysOf (strKind prog w) cs) (h2 : Pairs (strKind prog w) cs.toList kvs) (h3 : (kvs.map (fun zz => zz.1)).Nodup) (h4 : kvs.map (fun zz => zz.1) = es.map (fun zz => zz.1)) (h5 : VRs g (es.map (fun zz => zz.2)) (kvs.map (fun zz => zz.2)))
inductive ORfn (g : Heap) (fd : FuncData) (o : Obj) : Prop
  | mk (e : o = { cls := .type "function", data := .func fd }) (c : Addr) (oc : Obj) (vs : Array Value) (x : Str) (t : Tok) (h0 : fd.code = .ref c) (h1 : g.get? c = some oc) (h2 : oc.cls = .type "code") (h3 : oc.data = .fields vs) (h4 : vs[1]? = some (.str x t))
noncomputable def OR (C : Cx) (g : Heap) : AO → Obj → Prop
  | .list xs, o => ORlist g xs o
  | .dict es, o => ORdict C.prog C.w g es o
  | .sset xs, o => xs.Nodup ∧ o.SetObjOf C.SK (fun k => decide (k ∈ xs)) xs.length
  | .iset xs, o => xs.Nodup ∧ o.SetObjOf C.IK (fun k => decide (k ∈ xs)) xs.length
  | .inst K d, o => ∃ sl, o = ⟨.ref K, some d, .plain, sl⟩
  | .raw o', o => o = o'
  | .fn fd, o => ORfn g fd o
  | .gen k _, o => o.cls = .type "generator" ∧ ∃ nm qn, o.data = .fields #[.int k 0, nm, qn] ∧ o.slots = #[]
  | .tab _, o => ∃ ps, o = tabObj ps ∧ TriplesOk ps.toList ∧ ∀ pos c, codeAmong pos ps.toList = some c → ∃ a oc vs, c = .ref a ∧ g.get? a = some oc ∧ oc.cls = .type "code" ∧ oc.data = .fields vs ∧ ∃ x t, vs[1]? = some (.str x t)
inductive At (C : Cx) (g h : Heap) (a : Addr) (x : AO) : Prop
  | mk (o : Obj) (e : h.get? a = some o) (r : OR C g x o)
theorem OR.monoD {C : Cx} {g g' : Heap} (k : LeD g g') {a : AO} {o : Obj} (h : OR C g a o) : OR C g' a o := by
  cases a with
  | list xs => obtain ⟨vs, n, e, h⟩ := h; exact ⟨vs, n, e, h.monoD k⟩
  | dict es => obtain ⟨e0, cs, n, kvs, e, h1, h2, h3, h4, h5⟩ := h; exact ⟨e0, cs, n, kvs, e, h1, h2, h3, h4, h5.monoD k⟩
  | fn fd => obtain ⟨e0, c, oc, vs, x, t, e, q1, q2, q3, q4⟩ := h; exact ⟨e0, c, oc, vs, x, t, e, k.fields (by decide) q1 q2 q3, q2, q3, q4⟩
  | tab q => obtain ⟨ps, e, h1, h2⟩ := h; exact ⟨ps, e, h1, fun pos c hc => let ⟨a, oc, vs, q1, q2, q3, q4, q5⟩ := h2 pos c hc; ⟨a, oc, vs, q1, k.fields (by decide) q2 q3 q4, q3, q4, q5⟩⟩
  | _ => exact h

structure Cx.Ok (C : Cx) : Prop where
  X : C.K.In C.hB
  g : C.hB.Ns mainGlobals C.mg
  b : C.hB.Ns builtinsNs C.mb
  nolimit : C.hB.NoLimit
  builtins : ∀ x : Str, x ≠ "__name__" → C.mb x = bootBuiltins x
noncomputable abbrev Cx.M (C : Cx) : Model := model C.prog C.w
noncomputable abbrev Cx.P (C : Cx) : Params := C.w.params

noncomputable abbrev ads (L : Led) : List Addr := L.map (fun zz => zz.1)
noncomputable abbrev Cx.all (C : Cx) (L : Led) : Led := L ++ C.pins
theorem Cx.inAll {C : Cx} {L : Led} {p : Addr × AO} (h : p ∈ L) : p ∈ C.all L := List.mem_append_left _ h
theorem Cx.pinAll {C : Cx} {L : Led} {p : Addr × AO} (h : p ∈ C.pins) : p ∈ C.all L := List.mem_append_right _ h

structure RepL (C : Cx) (g : Heap) (L : Led) (s : Shared) : Prop where
  ok : C.Ok
  base : Le C.hB g
  sub : Le g s.heap
  nd : (ads (C.all L)).Nodup
  free : ∀ a ∈ ads (C.all L), g.get? a = none
  led : ∀ p ∈ C.all L, At C g s.heap p.1 p.2
  os : s.os = C.os
  gens : GensOk (C.all L) s.gens

inductive GotG (C : Cx) (g : Heap) (L : Led) (s' : Shared) (a : Addr) (o : Obj) : Prop
  | mk (g' : Heap) (k : Le g g') (r : RepL C g' L s') (e : g'.get? a = some o)
namespace RepL
variable {C : Cx} {L : Led} {g : Heap} {s : Shared}
theorem X (R : RepL C g L s) : C.K.In g := fun a o e => R.base _ _ (R.ok.X a o e)
theorem Xs (R : RepL C g L s) : C.K.In s.heap := fun a o e => R.sub _ _ (R.X a o e)
theorem wide (R : RepL C g L s) : Le g (hideAll s.heap (ads (C.all L))) := fun b o e => hideAll_get _ (R.sub b o e) fun h => by rw [R.free b h] at e; cases e
theorem toWide (R : RepL C g L s) : RepL C (hideAll s.heap (ads (C.all L))) L s :=
  ⟨R.ok, R.base.trans R.wide, fun zz zz e => of_hideAll _ e, R.nd, fun zz h => hideAll_none _ h, fun p hp => let ⟨o, h1, h2⟩ := R.led p hp; ⟨o, h1, h2.monoD R.wide.d⟩, R.os, R.gens⟩
theorem fresh (R : RepL C g L s) : g.get? s.heap.objs.size = none := by
  cases e : g.get? s.heap.objs.size with
  | none => rfl
  | some o => exact absurd (Heap.lt_size (R.sub _ _ e)) (Nat.lt_irrefl _)
theorem freshL (R : RepL C g L s) : s.heap.objs.size ∉ ads (C.all L) := fun h => by
  obtain ⟨p, hp, e⟩ := List.mem_map.mp h
  obtain ⟨o, ho, _⟩ := R.led p hp
  rw [e] at ho
  exact absurd (Heap.lt_size ho) (Nat.lt_irrefl _)
theorem toks (R : RepL C g L s) (t : Nat) : RepL C g L { s with toks := t } := ⟨R.ok, R.base, R.sub, R.nd, R.free, R.led, R.os, R.gens⟩

theorem heap (R : RepL C g L s) {h' : Heap} (k : Le g h') (kl : ∀ p ∈ C.all L, ∀ o, s.heap.get? p.1 = some o → h'.get? p.1 = some o) (t : Nat) : RepL C g L { s with heap := h', toks := t } :=
  ⟨R.ok, R.base, k, R.nd, R.free, fun q hq => let ⟨o, h1, h2⟩ := R.led q hq; ⟨o, kl q hq o h1, h2⟩, R.os, R.gens⟩
theorem heapAll (R : RepL C g L s) {h' : Heap} (k : Le s.heap h') (t : Nat) : RepL C g L { s with heap := h', toks := t } :=
  R.heap (R.sub.trans k) (fun p zz o e => k _ _ e) t
theorem get (R : RepL C g L s) {a : Addr} {x : AO} (h : (a, x) ∈ L) : At C g s.heap a x := R.led _ (Cx.inAll h)

theorem grow (R : RepL C g L s) {g' : Heap} (k : Le g g') (ks : Le g' s.heap) (kf : ∀ a ∈ ads (C.all L), g'.get? a = none) : RepL C g' L s :=
  ⟨R.ok, R.base.trans k, ks, R.nd, kf, fun p hp => let ⟨o, h1, h2⟩ := R.led p hp; ⟨o, h1, h2.monoD k.d⟩, R.os, R.gens⟩

theorem alloc (R : RepL C g L s) {o : Obj} {x : AO} (hx : OR C g x o) (hf : o.isFreed = false) (t : Nat) (hng : x.genE = none := by rfl) : RepL C g ((s.heap.objs.size, x) :: L) { s with heap := s.heap.push o, toks := t } := by
  refine ⟨R.ok, R.base, fun b o' e => Heap.get?_push_of_some _ (R.sub b o' e), ?_, ?_, ?_, R.os, GensOk.cons (L := C.all L) R.gens hng⟩
  · exact List.nodup_cons.mpr ⟨R.freshL, R.nd⟩
  · intro a ha
    rcases List.mem_cons.mp ha with rfl | ha
    · exact R.fresh
    · exact R.free a ha
  · intro p hp
    rcases List.mem_cons.mp hp with rfl | hp
    · exact ⟨o, Heap.get?_push_size _ hf, hx⟩
    · obtain ⟨o', h1, h2⟩ := R.led p hp
      exact ⟨o', Heap.get?_push_of_some _ h1, h2⟩

theorem allocG (R : RepL C g L s) {o : Obj} (hf : o.isFreed = false) (t : Nat) :
    GotG C g L { s with heap := s.heap.push o, toks := t } s.heap.objs.size o := by
  have R' : RepL C g L { s with heap := s.heap.push o, toks := t } := R.heapAll (fun b o' e => Heap.get?_push_of_some _ e) t
  exact ⟨_, R'.wide, R'.toWide, hideAll_get _ (Heap.get?_push_size _ hf) R.freshL⟩
end RepL

inductive LSet (a : Addr) (x : AO) : Led → Led → Prop
  | here {y : AO} {L : Led} : LSet a x ((a, y) :: L) ((a, x) :: L)
  | there {p : Addr × AO} {L L' : Led} : LSet a x L L' → LSet a x (p :: L) (p :: L')
theorem LSet.ads {a : Addr} {x : AO} {L L' : Led} (h : LSet a x L L') : Mine.ads L' = Mine.ads L := by
  induction h with
  | here => rfl
  | @there p _ _ _ ih => exact congrArg (p.1 :: ·) ih
theorem LSet.mem {a : Addr} {x : AO} {L L' : Led} (h : LSet a x L L') : a ∈ Mine.ads L := by
  induction h with
  | here => exact List.mem_cons_self
  | there _ ih => exact List.mem_cons_of_mem _ ih
theorem LSet.split {a : Addr} {x : AO} {L L' : Led} (h : LSet a x L L') (hn : (Mine.ads L).Nodup) (p : Addr × AO) (hp : p ∈ L') : (p = (a, x)) ∨ (p ∈ L ∧ p.1 ≠ a) := by
  induction h with
  | here => exact (List.mem_cons.mp hp).imp id fun h => ⟨List.mem_cons_of_mem _ h, fun e => (List.nodup_cons.mp hn).1 (show a ∈ List.map (fun x : Addr × AO => x.1) _ from e ▸ List.mem_map_of_mem (f := fun x : Addr × AO => x.1) h)⟩
  | there h ih =>
    have hn' := List.nodup_cons.mp hn
    refine (List.mem_cons.mp hp).elim (fun e => ?_) fun hp => (ih hn'.2 hp).imp id fun h => ⟨List.mem_cons_of_mem _ h.1, h.2⟩
    subst e
    exact .inr ⟨List.mem_cons_self, fun e => hn'.1 (e ▸ h.mem : p.1 ∈ _)⟩
theorem LSet.gens {a : Addr} {x : AO} (hx : x.genE = none) {L L' : Led} (h : LSet a x L L') : List.Sublist (genEs L') (genEs L) := by
  induction h with
  | here => rw [genEs_cons hx]; exact genEs_cons_le _ _
  | @there p L L' _ ih => exact (show genEs (p :: L') = genEs [p] ++ genEs L' from genEs_append [p] L') ▸ (show genEs (p :: L) = genEs [p] ++ genEs L from genEs_append [p] L) ▸ ih.append_left _
theorem LSet.app {a : Addr} {x : AO} (P : Led) {L L' : Led} (h : LSet a x L L') : LSet a x (L ++ P) (L' ++ P) := by
  induction h with
  | here => exact .here
  | there _ ih => exact .there ih
theorem RepL.setK {C : Cx} {L L' : Led} {g : Heap} {s : Shared} {a : Addr} {x : AO} (R : RepL C g L s) (S0 : LSet a x L L') {h' : Heap} (hs : ∀ b o, b ≠ a → s.heap.get? b = some o → h'.get? b = some o)
    (ho : At C g h' a x) (t : Nat) (hng : x.genE = none := by rfl) : RepL C g L' { s with heap := h', toks := t } := by
  have S := S0.app C.pins
  have ha := R.free a S.mem
  refine ⟨R.ok, R.base, fun b o e => hs b o (fun q => by rw [q, ha] at e; cases e) (R.sub b o e), S.ads ▸ R.nd, S.ads ▸ R.free, fun p hp => ?_, R.os, R.gens.sub (S.gens hng)⟩
  rcases S.split R.nd p hp with rfl | ⟨h1, h2⟩
  · exact ho
  · obtain ⟨o, e1, e2⟩ := R.led p h1
    exact ⟨o, hs _ _ h2 e1, e2⟩
theorem RepL.set {C : Cx} {L L' : Led} {g : Heap} {s : Shared} {a : Addr} {x : AO} (R : RepL C g L s) (S0 : LSet a x L L') {h' : Heap} (hs : Heap.SameBut a s.heap h')
    (ho : At C g h' a x) (t : Nat) (hng : x.genE = none := by rfl) : RepL C g L' { s with heap := h', toks := t } := R.setK S0 (fun b o hb e => (hs.2 b hb).trans e) ho t hng

inductive LDel (a : Addr) (x : AO) : Led → Led → Prop
  | here {L : Led} : LDel a x ((a, x) :: L) L
  | there {p : Addr × AO} {L L' : Led} : LDel a x L L' → LDel a x (p :: L) (p :: L')
theorem RepL.less {C : Cx} {L L' : Led} {g : Heap} {s : Shared} (R : RepL C g L s) (S0 : List.Sublist L' L) : RepL C g L' s :=
  have S : List.Sublist (C.all L') (C.all L) := S0.append (List.Sublist.refl _)
  ⟨R.ok, R.base, R.sub, (S.map _).nodup R.nd, fun a h => R.free a ((S.map _).subset h), fun p hp => R.led p (S.subset hp), R.os, R.gens.sub (S.filterMap _)⟩
end Mine
end
local macro_rules | `(tactic| cases $h:ident) => `(tactic| first | apply Mine.VR.eObj $h | apply Mine.VR.eCst $h | (apply Mine.VR.eInt $h; intro t) | (apply Mine.VR.eStr $h; intro t) | apply Mine.VR.eBool $h | apply Mine.VR.eNone $h | apply Mine.VRs.eNil $h | fail)
section
set_option maxRecDepth 100000
set_option linter.unusedVariables false
namespace Mine
open PySem PySem.Spec PySem.Calls PyProof.Rows PySem.W

structure SF where
  scope : Scope
  code : Value
  n : Nat
  fn : Bool
  oc : List Str
noncomputable def OwnC (env : Env) (x : Str) : Prop := env.func ≠ none ∨ ∃ c, env.cells.lookup x = some c ∧ env.locals < c
structure EnvIs (F : SF) (env : Env) : Prop where
  scope : env.scope = F.scope
  kind : F.scope.kind = .function
  globals : env.globals = mainGlobals
  builtins : env.builtins = builtinsNs
  code : env.code = F.code
  fn : F.fn = true → env.func ≠ none
  oc : ∀ x ∈ F.oc, OwnC env x
theorem EnvIs.kindE {F : SF} {env : Env} (h : EnvIs F env) : env.scope.kind = .function := h.scope ▸ h.kind
theorem EnvIs.kindOf {F : SF} {env : Env} (h : EnvIs F env) (x : Str) : env.kindOf x = F.scope.names.lookup x := by unfold Env.kindOf; rw [h.scope]

structure Room (A : Around) (n : Nat) : Prop where
  handled : A.handled = none
  depth : A.depth ≤ 301 + 3 * n
  units : A.units ≤ 4 + 12 * n

noncomputable abbrev Vars := List (Str × AV)

noncomputable def VarAt (P : Led) (env : Env) (own : List Addr) (m : Str → Option Value) (g h : Heap) (x : Str) (v : Value) : Prop :=
  (env.kindOf x = some .local ∧ m x = some v) ∨
  (env.kindOf x = some .cell ∧ ∃ c, env.cells.lookup x = some c ∧ c ∈ own ∧ h.IsCell c (some v)) ∨
  (env.kindOf x = some .free ∧ ∃ c, env.cells.lookup x = some c ∧ g.IsCell c (some v)) ∨
  ((env.kindOf x = some .cell ∨ env.kindOf x = some .free) ∧ ∃ c o, env.cells.lookup x = some c ∧ (c, AO.raw o) ∈ P ∧ o.data = .cell (some v))

inductive DullAt (h : Heap) (a : Addr) : Prop
  | mk (o : Obj) (e : h.get? a = some o) (d : Dull o)
inductive LocAt (P : Led) (env : Env) (own : List Addr) (m : Str → Option Value) (g h : Heap) (x : Str) (av : AV) : Prop
  | mk (v : Value) (h1 : VarAt P env own m g h x v) (h2 : VR g av v)
inductive NsAt (P : Led) (env : Env) (own : List Addr) (ρ : Vars) (g h : Heap) : Prop
  | mk (m : Str → Option Value) (h1 : h.Ns env.locals m) (h2 : ∀ x av, ρ.lookup x = some av → LocAt P env own m g h x av)
inductive CellAt (env : Env) (own : List Addr) (h : Heap) (x : Str) : Prop
  | mk (c : Addr) (v : Option Value) (h1 : env.cells.lookup x = some c) (h2 : c ∈ own) (h3 : h.IsCell c v)
structure FrameOk (C : Cx) (env : Env) (own : List Addr) (ρ : Vars) (g : Heap) (L : Led) (s : Shared) : Prop where
  rep : RepL C g L s
  ownFree : ∀ a ∈ own, g.get? a = none ∧ a ∉ ads (C.all L)
  loc : env.locals ∈ own
  ownDull : ∀ a ∈ own, DullAt s.heap a
  ns : NsAt C.pins env own ρ g s.heap
  cells : ∀ x, OwnC env x → env.kindOf x = some .cell → CellAt env own s.heap x
  apart : ∀ x y c, env.cells.lookup x = some c → env.cells.lookup y = some c → x = y

theorem VarAt.move {P : Led} {env : Env} {own : List Addr} {m : Str → Option Value} {g g' h h' : Heap} {x : Str} {v : Value} (hx : VarAt P env own m g h x v) (k1 : ∀ c ∈ own, ∀ o, h.get? c = some o → h'.get? c = some o)
    (k2 : ∀ c, g.IsCell c (some v) → g'.IsCell c (some v)) : VarAt P env own m g' h' x v := by
  rcases hx with h | ⟨h, c, c1, c2, o, c3, c4⟩ | ⟨h, c, c1, c2⟩ | h
  · exact .inl h
  · exact .inr (.inl ⟨h, c, c1, c2, o, k1 c c2 o c3, c4⟩)
  · exact .inr (.inr (.inl ⟨h, c, c1, k2 c c2⟩))
  · exact .inr (.inr (.inr h))
noncomputable abbrev Never : Value → Shared → Prop := fun zz zz => False

inductive P5 {α : Type} (X : Heap → Led → Shared → Prop) (g : Heap) (Y : Heap → α → Led → Prop) (v : α) (s' : Shared) : Prop
  | mk (g' : Heap) (L' : Led) (k : Le g g') (x : X g' L' s') (y : Y g' v L')
inductive VK (Q : AV → Led → Prop) (g : Heap) (v : Value) (L : Led) : Prop
  | mk (av : AV) (h : VR g av v) (q : Q av L)
inductive LK (Q : List AV → Led → Prop) (g : Heap) (vs : List Value) (L : Led) : Prop
  | mk (xs : List AV) (h : VRs g xs vs) (q : Q xs L)
inductive MK (Q : AV → List AV → Led → Prop) (g : Heap) (p : Value × List Value) (L : Led) : Prop
  | mk (f : AV) (xs : List AV) (h1 : VR g f p.1) (h2 : VRs g xs p.2) (q : Q f xs L)
inductive AsPost (C : Cx) (env : Env) (own : List Addr) (g : Heap) (Q : Vars → Led → Prop) (s' : Shared) : Prop
  | mk (g' : Heap) (ρ' : Vars) (L' : Led) (k : Le g g') (x : FrameOk C env own ρ' g' L' s') (y : Q ρ' L')
inductive RtPost (C : Cx) (env : Env) (own : List Addr) (g : Heap) (Q : AV → Led → Prop) (v : Value) (s' : Shared) : Prop
  | mk (g' : Heap) (ρ' : Vars) (L' : Led) (k : Le g g') (x : FrameOk C env own ρ' g' L' s') (av : AV) (h : VR g' av v) (y : Q av L')
noncomputable abbrev OpL {α : Type} (C : Cx) (A : Around) (t : Sem α) (g : Heap) (s : Shared) (K : Heap → α → Led → Prop) : Prop :=
  wpAny C.M A t (P5 (RepL C) g K) Never s
noncomputable abbrev FrL {α : Type} (C : Cx) (A : Around) (env : Env) (own : List Addr) (ρ : Vars) (t : Sem α) (g : Heap) (s : Shared) (K : Heap → α → Led → Prop) : Prop :=
  wpAny C.M A t (P5 (FrameOk C env own ρ) g K) Never s

noncomputable abbrev EK {α : Type} (Q : α → Led → Prop) : Heap → α → Led → Prop := fun zz b L => Q b L

section
variable {M : Model} {A : Around} {α : Type} {t : Sem α} {s : Shared} {g : Heap} {R : α → Shared → Prop}
theorem P5.le {X : Heap → Led → Shared → Prop} {Y : Heap → α → Led → Prop} {g0 : Heap} {v : α} (k : Le g0 g) (h : P5 X g Y v s) : P5 X g0 Y v s :=
  let ⟨g', L', k', x, y⟩ := h; ⟨g', L', k.trans k', x, y⟩
theorem onP {X : Heap → Led → Shared → Prop} {Y : Heap → α → Led → Prop} {g0 : Heap} (h : wpAny M A t (P5 X g Y) Never s) (k : Le g0 g) : wpAny M A t (P5 X g0 Y) Never s :=
  wpAny_mono h (fun zz zz x => x.le k) fun zz zz f => f
theorem on5 {X : Heap → Led → Shared → Prop} {Y : Heap → α → Led → Prop} (h : wpAny M A t (P5 X g Y) Never s) (k : ∀ v s' g' L', Le g g' → X g' L' s' → Y g' v L' → R v s') : wpAny M A t R Never s :=
  wpAny_mono h (fun v s' h => let ⟨g', L', k1, x, y⟩ := h; k v s' g' L' k1 x y) fun zz zz f => f
theorem AsPost.le {C : Cx} {env : Env} {own : List Addr} {Q : Vars → Led → Prop} {g0 : Heap} (k : Le g0 g) (h : AsPost C env own g Q s) : AsPost C env own g0 Q s :=
  let ⟨g', ρ', L', k', x, y⟩ := h; ⟨g', ρ', L', k.trans k', x, y⟩
theorem on6 {C : Cx} {env : Env} {own : List Addr} {Q : Vars → Led → Prop} (h : wpAny M A t (fun zz s' => AsPost C env own g Q s') Never s) (k : ∀ v s' g' ρ' L', Le g g' → FrameOk C env own ρ' g' L' s' → Q ρ' L' → R v s') : wpAny M A t R Never s :=
  wpAny_mono h (fun v s' h => let ⟨g', ρ', L', k1, x, y⟩ := h; k v s' g' ρ' L' k1 x y) fun zz zz f => f
theorem onL {t : Sem (List Value)} {R : List Value → Shared → Prop} {X : Heap → Led → Shared → Prop} {K : List AV → Led → Prop} (h : wpAny M A t (P5 X g (LK K)) Never s) (k : ∀ v s' g' L', Le g g' → X g' L' s' → ∀ xs, VRs g' xs v → K xs L' → R v s') : wpAny M A t R Never s :=
  on5 h fun v s' g' L' k1 x h => let ⟨av, hv, y⟩ := h; k v s' g' L' k1 x av hv y
theorem onV {t : Sem Value} {R : Value → Shared → Prop} {X : Heap → Led → Shared → Prop} {K : AV → Led → Prop} (h : wpAny M A t (P5 X g (VK K)) Never s) (k : ∀ v s' g' L', Le g g' → X g' L' s' → ∀ av, VR g' av v → K av L' → R v s') : wpAny M A t R Never s :=
  on5 h fun v s' g' L' k1 x h => let ⟨av, hv, y⟩ := h; k v s' g' L' k1 x av hv y
end

section
variable {C : Cx} {A : Around} {env : Env} {own : List Addr} {ρ : Vars} {L : Led} {g : Heap} {s : Shared} {α β : Type}

theorem _root_.PySem.Heap.Ns.at_ {h h' : Heap} {a : Addr} {m : Str → Option Value} (x : h.Ns a m) (k : ∀ o, h.get? a = some o → h'.get? a = some o) : h'.Ns a m :=
  let ⟨o, es, ep, e, r⟩ := x; ⟨o, es, ep, k _ e, r⟩

theorem FrameOk.lift {t : Sem α} {K K' : Heap → α → Led → Prop} (Fo : FrameOk C env own ρ g L s)
    (h : ∀ g₁, Le g g₁ → RepL C g₁ L s → OpL C A t g₁ s K) (hK : ∀ g' g'' a L', LeD g' g'' → K g' a L' → K' g'' a L') : FrL C A env own ρ t g s K' := by
  refine on5 (h _ Fo.rep.wide Fo.rep.toWide) (fun a s' g' L' h1 R' h3 => ?_)
  have inG : ∀ b ∈ own, ∀ o, s.heap.get? b = some o → g'.get? b = some o := fun b hb o e => h1 b o (hideAll_get _ e (Fo.ownFree b hb).2)
  have hd : LeD g' (hideAll g' own) := fun b o e => by
    by_cases hb : b ∈ own
    · obtain ⟨o', e1, d⟩ := Fo.ownDull b hb
      have := inG b hb o' e1
      rw [e] at this; cases this
      exact .inl d
    · exact .inr (hideAll_get _ e hb)
  have hle : Le g (hideAll g' own) := fun b o e => hideAll_get _ (h1 b o (Fo.rep.wide b o e)) fun hb => by rw [(Fo.ownFree b hb).1] at e; cases e
  have hs : ∀ b ∈ own, ∀ o, s.heap.get? b = some o → s'.heap.get? b = some o := fun b hb o e => R'.sub _ _ (inG b hb o e)
  refine ⟨hideAll g' own, L', hle, ⟨⟨R'.ok, ?_, fun b o e => R'.sub _ _ (of_hideAll _ e), R'.nd, ?_, fun p hp => ?_, R'.os, R'.gens⟩, ?_, Fo.loc, ?_, ?_, ?_, Fo.apart⟩, hK _ _ _ _ hd h3⟩
  · exact Fo.rep.base.trans hle
  · intro a ha
    cases e : (hideAll g' own).get? a with
    | none => rfl
    | some o => have := of_hideAll _ e; rw [R'.free a ha] at this; cases this
  · obtain ⟨o, e1, e2⟩ := R'.led p hp
    exact ⟨o, e1, e2.monoD hd⟩
  · intro a ha
    refine ⟨hideAll_none _ ha, fun hl => ?_⟩
    obtain ⟨o, e, _⟩ := Fo.ownDull a ha
    have := inG a ha o e
    rw [R'.free a hl] at this; cases this
  · intro a ha
    obtain ⟨o, e, d⟩ := Fo.ownDull a ha
    exact ⟨o, hs a ha o e, d⟩
  · obtain ⟨m, hm, hv⟩ := Fo.ns
    refine ⟨m, hm.at_ (hs _ Fo.loc), fun x av e => ?_⟩
    obtain ⟨v, hx, hr⟩ := hv x av e
    exact ⟨v, hx.move hs fun c ⟨o, c3, c4⟩ => ⟨o, hle _ _ c3, c4⟩, hr.mono hle⟩
  · intro x hfn hx
    obtain ⟨c, v, c1, c2, o, c3, c4⟩ := Fo.cells x hfn hx
    exact ⟨c, v, c1, c2, o, hs c c2 o c3, c4⟩

theorem FrL.bind {t : Sem α} {f : α → Sem β} {K : Heap → α → Led → Prop} {K' : Heap → β → Led → Prop} (h : FrL C A env own ρ t g s K)
    (hf : ∀ g' a L' s', Le g g' → FrameOk C env own ρ g' L' s' → K g' a L' → FrL C A env own ρ (f a) g' s' K') : FrL C A env own ρ (t >>= f) g s K' :=
  wpAny_bind (on5 h (fun a s' g' L' h1 h2 h3 => on5 (hf g' a L' s' h1 h2 h3) (fun b s'' g'' L'' k1 k2 k3 => ⟨g'', L'', h1.trans k1, k2, k3⟩)))
theorem FrL.bindV {t : Sem Value} {f : Value → Sem β} {Q : AV → Led → Prop} {K' : Heap → β → Led → Prop} (h : FrL C A env own ρ t g s (VK Q))
    (hf : ∀ g' a L' s', Le g g' → FrameOk C env own ρ g' L' s' → ∀ av, VR g' av a → Q av L' → FrL C A env own ρ (f a) g' s' K') : FrL C A env own ρ (t >>= f) g s K' :=
  h.bind fun g' a L' s' k Fo x => let ⟨av, h1, h2⟩ := x; hf g' a L' s' k Fo av h1 h2
theorem FrL.pure {a : α} {K : Heap → α → Led → Prop} (Fo : FrameOk C env own ρ g L s) (h : K g a L) : FrL C A env own ρ (Pure.pure a) g s K := wpAny_pure ⟨g, L, .refl g, Fo, h⟩
theorem FrL.mono {t : Sem α} {K K' : Heap → α → Led → Prop} (h : FrL C A env own ρ t g s K) (k : ∀ g' a L', K g' a L' → K' g' a L') : FrL C A env own ρ t g s K' :=
  on5 h (fun zz zz g' L' h1 h2 h3 => ⟨g', L', h1, h2, k _ _ _ h3⟩)
theorem OpL.mono {t : Sem α} {K K' : Heap → α → Led → Prop} (h : OpL C A t g s K) (k : ∀ g' a L', K g' a L' → K' g' a L') : OpL C A t g s K' :=
  on5 h (fun zz zz g' L' h1 h2 h3 => ⟨g', L', h1, h2, k _ _ _ h3⟩)
theorem FrL.holding {vs : List Value} {t : Sem α} {K : Heap → α → Led → Prop} (h : FrL C A env own ρ t g s K) : FrL C A env own ρ (PySem.holding vs t) g s K := wpAny_holding h
theorem FrL.stand {p : Pos} {t : Sem α} {K : Heap → α → Led → Prop} (h : FrL C A env own ρ t g s K) : FrL C A env own ρ (standAt p >>= fun zz => t) g s K := wpAny_bind (wpAny_standAt h)
theorem VK.d {Q : AV → Led → Prop} : ∀ (g' g'' : Heap) (a : Value) (L' : Led), LeD g' g'' → VK Q g' a L' → VK Q g'' a L' := fun _ _ _ _ k ⟨av, h1, h2⟩ => ⟨av, h1.monoD k, h2⟩
theorem EK.d {Q : α → Led → Prop} : ∀ (g' g'' : Heap) (a : α) (L' : Led), LeD g' g'' → EK Q g' a L' → EK Q g'' a L' := fun zz zz zz zz zz h => h
theorem FrameOk.liftV {t : Sem Value} {Q : AV → Led → Prop} (Fo : FrameOk C env own ρ g L s) (h : ∀ g₁, Le g g₁ → RepL C g₁ L s → OpL C A t g₁ s (VK Q)) : FrL C A env own ρ t g s (VK Q) := Fo.lift h VK.d
theorem FrameOk.liftE {t : Sem α} {Q : α → Led → Prop} (Fo : FrameOk C env own ρ g L s) (h : ∀ g₁, Le g g₁ → RepL C g₁ L s → OpL C A t g₁ s (EK Q)) : FrL C A env own ρ t g s (EK Q) := Fo.lift h EK.d

theorem FrameOk.wide (Fo : FrameOk C env own ρ g L s) : Le g (hideAll s.heap (ads (C.all L) ++ own)) ∧ FrameOk C env own ρ (hideAll s.heap (ads (C.all L) ++ own)) L s := by
  have hle : Le g (hideAll s.heap (ads (C.all L) ++ own)) := fun b o e => hideAll_get _ (Fo.rep.sub b o e) fun h => by
    rcases List.mem_append.mp h with h | h
    · rw [Fo.rep.free b h] at e; cases e
    · rw [(Fo.ownFree b h).1] at e; cases e
  refine ⟨hle, Fo.rep.grow hle (fun zz zz e => of_hideAll _ e) fun a ha => hideAll_none _ (List.mem_append_left _ ha), fun a ha => ⟨hideAll_none _ (List.mem_append_right _ ha), (Fo.ownFree a ha).2⟩, Fo.loc, Fo.ownDull, ?_, Fo.cells, Fo.apart⟩
  obtain ⟨m, hm, hv⟩ := Fo.ns
  refine ⟨m, hm, fun x av e => ?_⟩
  obtain ⟨v, hx, hr⟩ := hv x av e
  exact ⟨v, hx.move (fun zz zz zz e => e) fun c ⟨o, c3, c4⟩ => ⟨o, hle _ _ c3, c4⟩, hr.mono hle⟩
theorem FrameOk.hideD {a : Addr} {o : Obj} (Fo : FrameOk C env own ρ g L s) (ho : g.get? a = some o) (hd : Dull o) (hc : ∀ v, o.data ≠ .cell v) (hb : C.hB.get? a = none) :
    FrameOk C env own ρ (g.hide a) L s := by
  have hld : LeD g (g.hide a) := fun b o' e => by
    by_cases q : b = a
    · subst q; rw [ho] at e; cases e; exact .inl hd
    · exact .inr ((Heap.hide_ne g q).trans e)
  refine ⟨⟨Fo.rep.ok, fun b o' e => (Heap.hide_ne g fun q => by rw [q, hb] at e; cases e).trans (Fo.rep.base b o' e), fun b o' e => Fo.rep.sub b o' (Heap.of_hide e), Fo.rep.nd, fun b h => ?_, fun p hp => let ⟨o', h1, h2⟩ := Fo.rep.led p hp; ⟨o', h1, h2.monoD hld⟩, Fo.rep.os, Fo.rep.gens⟩, fun b h => ⟨?_, (Fo.ownFree b h).2⟩, Fo.loc, Fo.ownDull, ?_, Fo.cells, Fo.apart⟩
  · cases q : (g.hide a).get? b with
    | none => rfl
    | some o' => have := Heap.of_hide q; rw [Fo.rep.free b h] at this; cases this
  · cases q : (g.hide a).get? b with
    | none => rfl
    | some o' => have := Heap.of_hide q; rw [(Fo.ownFree b h).1] at this; cases this
  · obtain ⟨m, hm, hv⟩ := Fo.ns
    refine ⟨m, hm, fun x av e => ?_⟩
    obtain ⟨v, hx, hr⟩ := hv x av e
    refine ⟨v, hx.move (fun zz zz zz e => e) fun c' ⟨o', c3, c4⟩ => ⟨o', (Heap.hide_ne g fun q => ?_).trans c3, c4⟩, hr.monoD hld⟩
    subst q; rw [ho] at c3; cases c3; exact hc _ c4

theorem FrameOk.hide {a : Addr} {o : Obj} {vs : Array Value} {c : String} (Fo : FrameOk C env own ρ g L s) (ho : g.get? a = some o) (hd : o.data = .fields vs) (hc : o.cls = .type c) (hn : c ∉ frozenCls) (hb : C.hB.get? a = none) :
    FrameOk C env own ρ (g.hide a) L s := Fo.hideD ho (.inr (.inr ⟨vs, c, hd, hc, hn⟩)) (fun zz q => nomatch hd.symm.trans q) hb
theorem FrameOk.heap {h' : Heap} {a : Addr} {t : Nat} (Fo : FrameOk C env own ρ g L s) (hs : Heap.ExtBut a s.heap h') (hg : g.get? a = none) (hl : a ∉ ads (C.all L)) (ho : a ∉ own) : FrameOk C env own ρ g L { s with heap := h', toks := t } := by
  have kg : Le g h' := fun b o e => hs b o (fun q => by rw [q, hg] at e; cases e) (Fo.rep.sub b o e)
  refine ⟨Fo.rep.heap kg (fun p hp o e => hs _ o (fun q => hl (q ▸ List.mem_map_of_mem hp)) e) t, Fo.ownFree, Fo.loc, fun b hb => let ⟨o, e, d⟩ := Fo.ownDull b hb; ⟨o, hs b o (fun q => ho (q ▸ hb)) e, d⟩, ?_, fun x hfn hx => let ⟨c, v, c1, c2, o, e, d⟩ := Fo.cells x hfn hx; ⟨c, v, c1, c2, o, hs c o (fun q => ho (q ▸ c2)) e, d⟩, Fo.apart⟩
  obtain ⟨m, hm, hv⟩ := Fo.ns
  refine ⟨m, hm.at_ fun o e => hs _ o (fun q => ho (q ▸ Fo.loc)) e, fun x av e => ?_⟩
  obtain ⟨v, hx, hr⟩ := hv x av e
  exact ⟨v, hx.move (fun c c2 o c3 => hs c o (fun q => ho (q ▸ c2)) c3) fun zz e => e, hr⟩

theorem FrameOk.toks (Fo : FrameOk C env own ρ g L s) (t : Nat) : FrameOk C env own ρ g L { s with toks := t } :=
  ⟨Fo.rep.toks t, Fo.ownFree, Fo.loc, Fo.ownDull, Fo.ns, Fo.cells, Fo.apart⟩
end

noncomputable def setV : Vars → Str → AV → Vars
  | [], x, v => [(x, v)]
  | (y, w) :: r, x, v => if (y == x) = true then (x, v) :: r else (y, w) :: setV r x v
theorem setV_nil {x : Str} {v : AV} : setV [] x v = [(x, v)] := rfl
theorem setV_here {x : Str} {v w : AV} {r : Vars} : setV ((x, w) :: r) x v = (x, v) :: r := by simp [setV]
theorem setV_there {x y : Str} {v w : AV} {r r' : Vars} (h : (y == x) = false) (hr : setV r x v = r') : setV ((y, w) :: r) x v = (y, w) :: r' := by simp [setV, h, hr]
set_option tactic.hygienic true in
theorem lookup_setV : ∀ {ρ : Vars} {x : Str} {v : AV} (y : Str), (setV ρ x v).lookup y = if (y == x) = true then some v else ρ.lookup y
  | [], x, v, y => by
    simp only [setV, List.lookup_cons, List.lookup_nil]
    cases h : y == x <;> simp
  | (z, w) :: r, x, v, y => by
    have ih := @lookup_setV r x v y
    simp only [setV]
    split
    · rename_i hz
      have hz := eq_of_beq hz
      subst hz
      simp only [List.lookup_cons]
      cases h : y == z <;> simp
    · rename_i hz
      simp only [List.lookup_cons, ih]
      cases h : y == z with
      | true =>
        have := eq_of_beq h
        subst this
        simp only [Bool.not_eq_true] at hz
        simp [hz]
      | false => simp
theorem look_here {x : Str} {v : AV} {r : Vars} : List.lookup x ((x, v) :: r) = some v := by simp
theorem look_there {x y : Str} {v w : AV} {r : Vars} (h : (x == y) = false) (hr : List.lookup x r = some v) : List.lookup x ((y, w) :: r) = some v := by simp [List.lookup_cons, h, hr]

section
variable {C : Cx} {A : Around} {env : Env} {own : List Addr} {ρ : Vars} {L : Led} {g : Heap} {s : Shared}

theorem FrameOk.store {F : SF} {x : Str} {av : AV} {v : Value} {Q : Unit → Shared → Prop} (hE : EnvIs F env) (Fo : FrameOk C env own ρ g L s) (hv : VR g av v)
    (hk : F.scope.names.lookup x = some .local ∨ (F.scope.names.lookup x = some .cell ∧ (F.fn = true ∨ x ∈ F.oc))) (h : ∀ s', FrameOk C env own (setV ρ x av) g L s' → Q () s') : wpAny C.M A (storeName env x v) Q Never s := by
  have key : ∀ (a : Addr) (h' : Heap) (t : Nat), a ∈ own → Heap.SameBut a s.heap h' → RepL C g L { s with heap := h', toks := t } := fun a h' t ha hs =>
    Fo.rep.heap (fun b o e => (hs.2 b fun q => by rw [q, (Fo.ownFree a ha).1] at e; cases e).trans (Fo.rep.sub b o e))
      (fun p hp o e => (hs.2 _ fun q => (Fo.ownFree a ha).2 (q ▸ List.mem_map_of_mem hp)).trans e) t
  obtain ⟨m, hm, hvs⟩ := Fo.ns
  have hkE : env.scope.kind = .function := hE.kindE
  rcases hk with hk | ⟨hk, hfn⟩
  · rw [← hE.kindOf] at hk
    refine wpAny_storeName_local hk hm (fun h' hn hs => h _ ⟨key _ _ _ Fo.loc hs, Fo.ownFree, Fo.loc, fun a ha => ?_, ⟨_, hn, fun y aw e => ?_⟩, fun y hfn hy => ?_, Fo.apart⟩) (by rw [hkE]; rfl)
    · by_cases hal : a = env.locals
      · subst hal
        obtain ⟨o, es, ep, h1, h2, _⟩ := hn
        exact ⟨o, h1, .inl ⟨es, ep, h2⟩⟩
      · obtain ⟨o, e, d⟩ := Fo.ownDull a ha
        exact ⟨o, (hs.2 a hal).trans e, d⟩
    · rw [lookup_setV] at e
      cases hyx : y == x with
      | true =>
        have := eq_of_beq hyx
        subst this
        simp at e
        subst e
        exact ⟨v, .inl ⟨hk, by simp⟩, hv⟩
      | false =>
        simp [hyx] at e
        obtain ⟨u, hu, hr⟩ := hvs y aw e
        have hne : y ≠ x := fun q => by subst q; simp at hyx
        refine ⟨u, ?_, hr⟩
        rcases hu with ⟨a1, a2⟩ | ⟨a1, c, a2, a3, a4⟩ | h | h
        · exact .inl ⟨a1, by simp [hne, a2]⟩
        · refine .inr (.inl ⟨a1, c, a2, a3, a4.sameBut hs fun q => ?_⟩)
          subst q
          obtain ⟨o, es, ep, h1, h2, _⟩ := hm
          obtain ⟨o', h1', h2'⟩ := a4
          rw [h1] at h1'; cases h1'; rw [h2] at h2'; cases h2'
        · exact .inr (.inr (.inl h))
        · exact .inr (.inr (.inr h))
    · obtain ⟨c, u, c1, c2, c3⟩ := Fo.cells y hfn hy
      refine ⟨c, u, c1, c2, c3.sameBut hs fun q => ?_⟩
      subst q
      obtain ⟨o, es, ep, h1, h2, _⟩ := hm
      obtain ⟨o', h1', h2'⟩ := c3
      rw [h1] at h1'; cases h1'; rw [h2] at h2'; cases h2'
  · rw [← hE.kindOf] at hk
    obtain ⟨c, u, c1, c2, c3⟩ := Fo.cells x (hfn.elim (fun q => .inl (hE.fn q)) (hE.oc x)) hk
    have hcl : env.locals ≠ c := fun q => by
      subst q
      obtain ⟨o, es, ep, h1, h2, _⟩ := hm
      obtain ⟨o', h1', h2'⟩ := c3
      rw [h1] at h1'; cases h1'; rw [h2] at h2'; cases h2'
    refine wpAny_storeName_cell hkE hk c1 c3 fun h' hc' hs => h _ ⟨key _ _ _ c2 hs, Fo.ownFree, Fo.loc, fun a ha => ?_, ⟨_, hm.sameBut hs hcl, fun y aw e => ?_⟩, fun y hfn hy => ?_, Fo.apart⟩
    · by_cases hal : a = c
      · subst hal
        obtain ⟨o, h1, h2⟩ := hc'
        exact ⟨o, h1, .inr (.inl ⟨_, h2⟩)⟩
      · obtain ⟨o, e, d⟩ := Fo.ownDull a ha
        exact ⟨o, (hs.2 a hal).trans e, d⟩
    · rw [lookup_setV] at e
      cases hyx : y == x with
      | true =>
        have := eq_of_beq hyx
        subst this
        simp at e
        subst e
        exact ⟨v, .inr (.inl ⟨hk, c, c1, c2, hc'⟩), hv⟩
      | false =>
        simp [hyx] at e
        obtain ⟨u, hu, hr⟩ := hvs y aw e
        have hne : y ≠ x := fun q => by subst q; simp at hyx
        refine ⟨u, ?_, hr⟩
        rcases hu with ⟨a1, a2⟩ | ⟨a1, c', a2, a3, a4⟩ | h | h
        · exact .inl ⟨a1, a2⟩
        · refine .inr (.inl ⟨a1, c', a2, a3, a4.sameBut hs fun q => hne ?_⟩)
          subst q
          exact Fo.apart _ _ _ a2 c1
        · exact .inr (.inr (.inl h))
        · exact .inr (.inr (.inr h))
    · obtain ⟨c', u, d1, d2, d3⟩ := Fo.cells y hfn hy
      by_cases hy' : c' = c
      · subst hy'; exact ⟨c', _, d1, d2, hc'⟩
      · exact ⟨c', u, d1, d2, d3.sameBut hs hy'⟩

noncomputable def locOk (F : SF) (x : Str) : Bool := match F.scope.names.lookup x with
  | some .local => true
  | some .cell => F.fn || F.oc.contains x
  | _ => false
set_option tactic.hygienic true in
theorem locOk_of {F : SF} {x : Str} (h : locOk F x = true) : F.scope.names.lookup x = some .local ∨ (F.scope.names.lookup x = some .cell ∧ (F.fn = true ∨ x ∈ F.oc)) := by
  unfold locOk at h
  split at h
  · rename_i q; exact .inl q
  · rename_i q; exact .inr ⟨q, by simpa using h⟩
  · cases h
theorem FrameOk.load {F : SF} {x : Str} {av : AV} {Q : Value → Shared → Prop} (hE : EnvIs F env) (Fo : FrameOk C env own ρ g L s) (hl : ρ.lookup x = some av)
    (h : ∀ v, VR g av v → Q v s) (hn : (x == ("__classdict__" : Str)) = false) : wpAny C.M A (loadName env x) Q Never s := by
  obtain ⟨m, hm, hvs⟩ := Fo.ns
  obtain ⟨v, hx, hr⟩ := hvs x av hl
  have hkE : env.scope.kind = .function := hE.kindE
  rcases hx with ⟨a1, a2⟩ | ⟨a1, c, a2, a3, a4⟩ | ⟨a1, c, a2, a3⟩ | ⟨a1, c, o, a2, a3, a4⟩
  · exact wpAny_loadName_local hkE a1 hm a2 (h v hr)
  · exact wpAny_loadName_cell hkE a1 a2 a4 (h v hr)
  · obtain ⟨o, b1, b2⟩ := a3
    exact wpAny_loadName_free hkE a1 a2 ⟨o, Fo.rep.sub _ _ b1, b2⟩ (h v hr) hn
  · obtain ⟨o', b1, b2⟩ := Fo.rep.led _ (Cx.pinAll a3)
    have b2 : o' = o := b2
    subst b2
    rcases a1 with a1 | a1
    · exact wpAny_loadName_cell hkE a1 a2 ⟨_, b1, a4⟩ (h v hr)
    · exact wpAny_loadName_free hkE a1 a2 ⟨_, b1, a4⟩ (h v hr) hn
end
end Mine
end
section
set_option maxRecDepth 100000
set_option linter.unusedVariables false
namespace Mine
open PySem PySem.Spec PySem.Calls PyProof.Rows PySem.W

noncomputable def EV (C : Cx) (F : SF) (ρ : Vars) (L : Led) (e : Expr) (Q : AV → Led → Prop) : Prop :=
  ∀ A env own g s, Room A F.n → EnvIs F env → FrameOk C env own ρ g L s → FrL C A env own ρ (eval e env) g s (VK Q)
noncomputable def ET (C : Cx) (F : SF) (ρ : Vars) (L : Led) (e : Expr) (Q : Bool → Led → Prop) : Prop :=
  ∀ A env own g s, Room A F.n → EnvIs F env → FrameOk C env own ρ g L s → FrL C A env own ρ (isTrue e env (eval e env)) g s (EK Q)
noncomputable def EVL (C : Cx) (F : SF) (ρ : Vars) (L : Led) (es : List Expr) (Q : List AV → Led → Prop) : Prop :=
  ∀ A env own g s pos, Room A F.n → EnvIs F env → FrameOk C env own ρ g L s → FrL C A env own ρ (spliced (backTo pos (starEach es env))) g s (LK Q)
noncomputable def EVK (C : Cx) (F : SF) (ρ : Vars) (L : Led) (ks : List Keyword) (Q : List AV → Led → Prop) : Prop :=
  ∀ A env own g s pos, Room A F.n → EnvIs F env → FrameOk C env own ρ g L s → FrL C A env own ρ (evalAll ((backToKw pos (keywordEach ks env)).map (fun zz => zz.2))) g s (LK Q)

structure XQ where
  nx : Vars → Led → Prop
  bk : Vars → Led → Prop
  ct : Vars → Led → Prop
  rt : AV → Led → Prop
noncomputable def XPost (C : Cx) (env : Env) (own : List Addr) (g : Heap) (Q : XQ) (f : Flow) (s' : Shared) : Prop :=
  match f with
  | .next => AsPost C env own g Q.nx s'
  | .brk => AsPost C env own g Q.bk s'
  | .cont => AsPost C env own g Q.ct s'
  | .ret v => RtPost C env own g Q.rt v s'
noncomputable def EX1 (C : Cx) (F : SF) (ρ : Vars) (L : Led) (st : Stmt) (Q : XQ) : Prop :=
  ∀ A env own g s, Room A F.n → EnvIs F env → FrameOk C env own ρ g L s → wpAny C.M A (exec st env) (XPost C env own g Q) Never s
noncomputable def EX (C : Cx) (F : SF) (ρ : Vars) (L : Led) (sts : List Stmt) (Q : XQ) : Prop :=
  ∀ A env own g s, Room A F.n → EnvIs F env → FrameOk C env own ρ g L s → wpAny C.M A (execs sts env) (XPost C env own g Q) Never s
noncomputable def ASG (C : Cx) (F : SF) (ρ : Vars) (L : Led) (t : Expr) (av : AV) (Q : Vars → Led → Prop) : Prop :=
  ∀ A env own g s v, Room A F.n → EnvIs F env → FrameOk C env own ρ g L s → VR g av v → wpAny C.M A (assign t env v) (fun zz s' => AsPost C env own g Q s') Never s

noncomputable def OP1 (C : Cx) (n : Nat) (t : Value → Sem Value) (a : AV) (L : Led) (Q : AV → Led → Prop) : Prop :=
  ∀ A g s v, Room A n → RepL C g L s → VR g a v → OpL C A (t v) g s (VK Q)
noncomputable def OP2 (C : Cx) (n : Nat) (t : Value → Value → Sem Value) (a b : AV) (L : Led) (Q : AV → Led → Prop) : Prop :=
  ∀ A g s v u, Room A n → RepL C g L s → VR g a v → VR g b u → OpL C A (t v u) g s (VK Q)
noncomputable def OPB (C : Cx) (n : Nat) (t : Value → Sem Bool) (a : AV) (L : Led) (Q : Bool → Led → Prop) : Prop :=
  ∀ A g s v, Room A n → RepL C g L s → VR g a v → OpL C A (t v) g s (EK Q)
noncomputable def OP3U (C : Cx) (n : Nat) (t : Value → Value → Value → Sem Unit) (a b c : AV) (L : Led) (Q : Led → Prop) : Prop :=
  ∀ A g s v u x, Room A n → RepL C g L s → VR g a v → VR g b u → VR g c x → OpL C A (t v u x) g s (EK fun zz L' => Q L')
noncomputable def OPL (C : Cx) (n : Nat) (t : List Value → Sem Value) (xs : List AV) (L : Led) (Q : AV → Led → Prop) : Prop :=
  ∀ A g s vs, Room A n → RepL C g L s → VRs g xs vs → OpL C A (t vs) g s (VK Q)
noncomputable def CALL (C : Cx) (n : Nat) (f : AV) (xs : List AV) (ks : List (Str × AV)) (L : Led) (Q : AV → Led → Prop) : Prop :=
  ∀ A g s vf vs kv, Room A n → RepL C g L s → VR g f vf → VRs g xs vs → VRs g (ks.map (fun zz => zz.2)) kv → OpL C A (call vf vs ((ks.map (fun zz => zz.1)).zip kv)) g s (VK Q)
noncomputable def GETM (C : Cx) (n : Nat) (a : AV) (name : Str) (L : Led) (Q : AV → List AV → Led → Prop) : Prop :=
  ∀ A g s v (pl : Sem Bool), Room A n → RepL C g L s → VR g a v → OpL C A (getMethod v name pl) g s (MK Q)
noncomputable def KEEP (C : Cx) (f : AV) : Prop := ∀ A g s L v (Q : Keeper → Shared → Prop), RepL C g L s → VR g f v → (∀ k, Q k s) → wpAny C.M A (keeperOf v) Q Never s

theorem MK.d {Q : AV → List AV → Led → Prop} : ∀ (g' g'' : Heap) (a : Value × List Value) (L' : Led), LeD g' g'' → MK Q g' a L' → MK Q g'' a L' :=
  fun _ _ _ _ k ⟨f, xs, h1, h2, h3⟩ => ⟨f, xs, h1.monoD k, h2.monoD k, h3⟩

section
variable {C : Cx} {F : SF} {ρ : Vars} {L : Led} {Q : AV → Led → Prop}

theorem EV.mono {e : Expr} {Q' : AV → Led → Prop} (h : EV C F ρ L e Q) (k : ∀ v L', Q v L' → Q' v L') : EV C F ρ L e Q' :=
  fun A env own g s r e f => (h A env own g s r e f).mono fun _ _ _ ⟨av, h1, h2⟩ => ⟨av, h1, k _ _ h2⟩
theorem ev_int {i : Int} {k : Nat} {pos : Pos} (h : Q (.int i) L) : EV C F ρ L (.Constant (.int i) k pos) Q :=
  fun A env own g s zz zz Fo => wpAny_Constant_int ⟨g, L, .refl g, Fo.toks _, _, .int _ _, h⟩
theorem ev_str {x : Str} {k : Nat} {pos : Pos} (h : Q (.str x) L) : EV C F ρ L (.Constant (.str x) k pos) Q :=
  fun A env own g s zz zz Fo => Constant_str ⟨g, L, .refl g, Fo.toks _, _, .str _ _, h⟩
theorem ev_bool {b : Bool} {k : Nat} {pos : Pos} (h : Q (.bool b) L) : EV C F ρ L (.Constant (.bool b) k pos) Q :=
  fun A env own g s zz zz Fo => fun zz zz zz => ⟨g, L, .refl g, Fo, _, .bool _, h⟩
theorem ev_none {k : Nat} {pos : Pos} (h : Q .none L) : EV C F ρ L (.Constant .none k pos) Q :=
  fun A env own g s zz zz Fo => fun zz zz zz => ⟨g, L, .refl g, Fo, _, .none, h⟩
theorem ev_name {x : Str} {pos : Pos} {av : AV} (hl : ρ.lookup x = some av) (h : Q av L) (hd : (x == ("__debug__" : Str)) = false) (hn : (x == ("__classdict__" : Str)) = false) :
    EV C F ρ L (.Name x pos) Q :=
  fun A env own g s zz hE Fo => wpAny_Name (Fo.load hE hl (fun v hv => ⟨g, L, .refl g, Fo, av, hv, h⟩) hn) hd

noncomputable def avOf : Value → AV
  | .ref a => .obj a
  | v => .cst v
theorem VR.avOf (g : Heap) (v : Value) : VR g (Mine.avOf v) v := by cases v <;> first | exact .obj _ | exact .cst _

theorem ev_glob {x : Str} {pos : Pos} {v : Value} (hx : F.scope.names.lookup x = some .globalImplicit) (e : nsIn C.K mainGlobals x = some (some v)) (h : Q (avOf v) L) (hd : (x == ("__debug__" : Str)) = false) :
    EV C F ρ L (.Name x pos) Q := fun A env own g s zz hE Fo => by
  have hm := mg_of Fo.rep.X (Fo.rep.ok.g.keeps Fo.rep.base) e
  refine wpAny_Name ?_ hd
  unfold loadName
  have hk := hE.kindE
  have hx' : env.kindOf x = some .globalImplicit := (hE.kindOf x).trans hx
  simp only [Env.blockKind, hk, hx', ScopeKind.isAnnotationScope, Bool.false_and, Bool.false_eq_true, if_false]
  unfold loadGlobal
  rw [hE.globals]
  have hn : s.heap.Ns mainGlobals C.mg := Fo.rep.ok.g.keeps (Fo.rep.base.trans Fo.rep.sub)
  exact wpAny_bind (wpAny_nsGet hn (by rw [hm]; exact wpAny_pure ⟨g, L, .refl g, Fo, _, VR.avOf _ _, h⟩))
theorem ev_bltn {x : Str} {pos : Pos} {v : Value} (hx : F.scope.names.lookup x = some .globalImplicit) (e : nsIn C.K mainGlobals x = some none) (hv : bootBuiltins x = some v) (hn : x ≠ "__name__") (h : Q (avOf v) L)
    (hd : (x == ("__debug__" : Str)) = false) : EV C F ρ L (.Name x pos) Q := fun A env own g s zz hE Fo => by
  have hm := mg_none_of Fo.rep.X (Fo.rep.ok.g.keeps Fo.rep.base) e
  refine wpAny_Name ?_ hd
  unfold loadName
  have hk := hE.kindE
  have hx' : env.kindOf x = some .globalImplicit := (hE.kindOf x).trans hx
  simp only [Env.blockKind, hk, hx', ScopeKind.isAnnotationScope, Bool.false_and, Bool.false_eq_true, if_false]
  unfold loadGlobal
  rw [hE.globals, hE.builtins]
  have h1 : s.heap.Ns mainGlobals C.mg := Fo.rep.ok.g.keeps (Fo.rep.base.trans Fo.rep.sub)
  have h2 : s.heap.Ns builtinsNs C.mb := Fo.rep.ok.b.keeps (Fo.rep.base.trans Fo.rep.sub)
  refine wpAny_bind (wpAny_nsGet h1 ?_)
  rw [hm]
  refine wpAny_bind (wpAny_nsGet h2 ?_)
  rw [Fo.rep.ok.builtins x hn, hv]
  exact wpAny_pure ⟨g, L, .refl g, Fo, _, VR.avOf _ _, h⟩

theorem ev_BinOp {l r : Expr} {op : Operator} {pos : Pos} (h : EV C F ρ L l fun a L1 => EV C F ρ L1 r fun b L2 => OP2 C F.n (binaryOp op) a b L2 Q) : EV C F ρ L (.BinOp l op r pos) Q :=
  fun A env own g s r0 hE Fo => wpAny_BinOp (onV (h A env own g s r0 hE Fo) (fun v s1 g1 L1 k1 Fo1 a ha h1 =>
    onV (h1 A env own g1 s1 r0 hE Fo1) (fun u s2 g2 L2 k2 Fo2 b hb h2 =>
      onP (Fo2.liftV fun g₁ k R => h2 A g₁ s2 v u r0 R ((ha.mono k2).mono k) (hb.mono k)) (k1.trans k2))))
theorem ev_UnaryOp {x : Expr} {op : UnaryOp} {pos : Pos} (h : EV C F ρ L x fun a L1 => OP1 C F.n (unaryOp op) a L1 Q) : EV C F ρ L (.UnaryOp op x pos) Q :=
  fun A env own g s r0 hE Fo => by
    show FrL C A env own ρ (eval x env >>= fun v => standAt pos >>= fun zz => holding [v] (unaryOp op v)) g s _
    exact (h A env own g s r0 hE Fo).bindV fun g1 v L1 s1 k1 Fo1 a ha h1 => .stand (.holding (Fo1.liftV fun g₁ k R => h1 A g₁ s1 v r0 R (ha.mono k)))
theorem ev_Cmp {l r : Expr} {op : CmpOp} {pos : Pos} (h : EV C F ρ L l fun a L1 => EV C F ρ L1 r fun b L2 => OP2 C F.n (compareOp op) a b L2 Q) (hm : behindInMarks op r = false) :
    EV C F ρ L (.Compare l [op] [r] pos) Q :=
  fun A env own g s r0 hE Fo => wpAny_Compare1 (onV (h A env own g s r0 hE Fo) (fun v s1 g1 L1 k1 Fo1 a ha h1 =>
    onV (h1 A env own g1 s1 r0 hE Fo1) (fun u s2 g2 L2 k2 Fo2 b hb h2 =>
      onP (Fo2.liftV fun g₁ k R => h2 A g₁ s2 v u r0 R ((ha.mono k2).mono k) (hb.mono k)) (k1.trans k2)))) hm

theorem et_Not {x : Expr} {pos : Pos} {Q : Bool → Led → Prop} (h : ET C F ρ L x fun b L1 => Q (!b) L1) : ET C F ρ L (.UnaryOp .Not x pos) Q :=
  fun A env own g s r0 hE Fo => by
    show FrL C A env own ρ (isTrue x env (eval x env) >>= fun b => pure (!b)) g s _
    exact (h A env own g s r0 hE Fo).bind fun g1 b L1 s1 k1 Fo1 h1 => .pure Fo1 h1
theorem et_Cmp {l r : Expr} {op : CmpOp} {pos : Pos} {Q : Bool → Led → Prop} (h : EV C F ρ L l fun a L1 => EV C F ρ L1 r fun b L2 => OP2 C F.n (compareOp op) a b L2 fun c L3 => OPB C F.n truthy c L3 Q)
    (hm : behindInMarks op r = false) : ET C F ρ L (.Compare l [op] [r] pos) Q :=
  fun A env own g s r0 hE Fo => wpAny_isTrue_Compare1 (onV (h A env own g s r0 hE Fo) (fun v s1 g1 L1 k1 Fo1 a ha h1 =>
    onV (h1 A env own g1 s1 r0 hE Fo1) (fun u s2 g2 L2 k2 Fo2 b hb h2 =>
      onV (Fo2.liftV fun g₁ k R => h2 A g₁ s2 v u r0 R ((ha.mono k2).mono k) (hb.mono k)) (fun w s3 g3 L3 k3 Fo3 c hc h3 =>
        onP (Fo3.liftE fun g₁ k R => h3 A g₁ s3 w r0 R (hc.mono k)) ((k1.trans k2).trans k3))))) hm
theorem et_val {e : Expr} {Q : Bool → Led → Prop} (he : ∀ env whole, isTrue e env whole = (do let v ← whole; standAt e.pos; holding [v] (truthy v))) (h : EV C F ρ L e fun a L1 => OPB C F.n truthy a L1 Q) : ET C F ρ L e Q :=
  fun A env own g s r0 hE Fo => by
    rw [he]
    exact (h A env own g s r0 hE Fo).bindV fun g1 v L1 s1 k1 Fo1 a ha h1 => .stand (.holding (Fo1.liftE fun g₁ k R => h1 A g₁ s1 v r0 R (ha.mono k)))
theorem et_And {x y : Expr} {pos : Pos} {Q : Bool → Led → Prop} (h : ET C F ρ L x fun b L1 => if b = true then ET C F ρ L1 y Q else Q false L1) : ET C F ρ L (.BoolOp .And [x, y] pos) Q :=
  fun A env own g s r0 hE Fo => by
    show FrL C A env own ρ (allTrue .And [x, y] env) g s _
    show FrL C A env own ρ (isTrue x env (eval x env) >>= fun b => match BoolOp.And, b with | .And, false => pure false | .Or, true => pure true | _, _ => allTrue .And [y] env) g s _
    refine (h A env own g s r0 hE Fo).bind fun g1 b L1 s1 k1 Fo1 h1 => ?_
    cases b with
    | false => exact .pure Fo1 h1
    | true =>
      show FrL C A env own ρ (isTrue y env (eval y env) >>= fun b => match BoolOp.And, b with | .And, false => pure false | .Or, true => pure true | _, _ => pure (BoolOp.And == .And)) g1 s1 _
      refine ((by simpa [EK] using h1 : ET C F ρ L1 y Q) A env own g1 s1 r0 hE Fo1).bind fun g2 b L2 s2 k2 Fo2 h2 => ?_
      cases b <;> exact .pure Fo2 h2
theorem et_Or {x y : Expr} {pos : Pos} {Q : Bool → Led → Prop} (h : ET C F ρ L x fun b L1 => if b = true then Q true L1 else ET C F ρ L1 y Q) : ET C F ρ L (.BoolOp .Or [x, y] pos) Q :=
  fun A env own g s r0 hE Fo => by
    show FrL C A env own ρ (isTrue x env (eval x env) >>= fun b => match BoolOp.Or, b with | .And, false => pure false | .Or, true => pure true | _, _ => allTrue .Or [y] env) g s _
    refine (h A env own g s r0 hE Fo).bind fun g1 b L1 s1 k1 Fo1 h1 => ?_
    cases b with
    | true => exact .pure Fo1 h1
    | false =>
      show FrL C A env own ρ (isTrue y env (eval y env) >>= fun b => match BoolOp.Or, b with | .And, false => pure false | .Or, true => pure true | _, _ => pure (BoolOp.Or == .And)) g1 s1 _
      refine ((by simpa [EK] using h1 : ET C F ρ L1 y Q) A env own g1 s1 r0 hE Fo1).bind fun g2 b L2 s2 k2 Fo2 h2 => ?_
      cases b <;> exact .pure Fo2 h2
theorem ev_Or {x y : Expr} {pos : Pos} (h : EV C F ρ L x fun a L1 => OPB C F.n truthy a L1 fun b L2 => if b = true then Q a L2 else EV C F ρ L2 y Q) : EV C F ρ L (.BoolOp .Or [x, y] pos) Q :=
  fun A env own g s r0 hE Fo => by
    show FrL C A env own ρ (eval x env >>= fun v => standAt pos >>= fun zz => holding [v] (truthy v) >>= fun t => match BoolOp.Or, t with | .And, false | .Or, true => pure v | _, _ => eval y env) g s _
    refine (h A env own g s r0 hE Fo).bindV fun g1 v L1 s1 k1 Fo1 a ha h1 => .stand (FrL.bind (.holding (Fo1.liftE fun g₁ k R => h1 A g₁ s1 v r0 R (ha.mono k))) fun g2 b L2 s2 k2 Fo2 h2 => ?_)
    cases b with
    | true => exact .pure Fo2 ⟨a, ha.mono k2, h2⟩
    | false => exact (by simpa [EK] using h2 : EV C F ρ L2 y Q) A env own g2 s2 r0 hE Fo2
theorem ev_IfExp {t b o : Expr} {pos : Pos} (h : ET C F ρ L t fun c L1 => if c = true then EV C F ρ L1 b Q else EV C F ρ L1 o Q) : EV C F ρ L (.IfExp t b o pos) Q :=
  fun A env own g s r0 hE Fo => by
    show FrL C A env own ρ (isTrue t env (eval t env) >>= fun c => if c = true then eval b env else eval o env) g s _
    refine (h A env own g s r0 hE Fo).bind fun g1 c L1 s1 k1 Fo1 h1 => ?_
    cases c with
    | true => exact (by simpa [EK] using h1 : EV C F ρ L1 b Q) A env own g1 s1 r0 hE Fo1
    | false => exact (by simpa [EK] using h1 : EV C F ρ L1 o Q) A env own g1 s1 r0 hE Fo1

theorem evl_nil {Q : List AV → Led → Prop} (h : Q [] L) : EVL C F ρ L [] Q := fun A env own g s pos zz zz Fo => spliced_nil ⟨g, L, .refl g, Fo, [], .nil, h⟩
theorem evl_cons {e : Expr} {es : List Expr} {Q : List AV → Led → Prop} (h : EV C F ρ L e fun a L1 => EVL C F ρ L1 es fun xs L2 => Q (a :: xs) L2)
    (he : ∀ env, starEach (e :: es) env = (false, eval e env) :: starEach es env) : EVL C F ρ L (e :: es) Q := fun A env own g s pos r0 hE Fo => by
  rw [he]
  refine spliced_cons (onV (h A env own g s r0 hE Fo) (fun v s1 g1 L1 k1 Fo1 a ha h1 =>
    onL (h1 A env own g1 s1 pos r0 hE Fo1) (fun vs s2 g2 L2 k2 Fo2 xs hxs h2 => ⟨g2, L2, k1.trans k2, Fo2, a :: xs, .cons (ha.mono k2) hxs, h2⟩)))
theorem evk_nil {Q : List AV → Led → Prop} (h : Q [] L) : EVK C F ρ L [] Q := fun A env own g s pos zz zz Fo => wpAny_evalAll_nil ⟨g, L, .refl g, Fo, [], .nil, h⟩
theorem evk_cons {nm : Option Str} {e : Expr} {p : Pos} {ks : List Keyword} {Q : List AV → Led → Prop} (h : EV C F ρ L e fun a L1 => EVK C F ρ L1 ks fun xs L2 => Q (a :: xs) L2) : EVK C F ρ L (⟨nm, e, p⟩ :: ks) Q :=
  fun A env own g s pos r0 hE Fo => by
    refine wpAny_evalAll_cons (x := eval e env >>= fun v => standAt pos >>= fun zz => pure v) (wpAny_bind (onV (h A env own g s r0 hE Fo) (fun v s1 g1 L1 k1 Fo1 a ha h1 => wpAny_bind (wpAny_standAt (wpAny_pure ?_)))))
    exact onL (h1 A env own g1 s1 pos r0 hE Fo1) (fun vs s2 g2 L2 k2 Fo2 xs hxs h2 => ⟨g2, L2, k1.trans k2, Fo2, a :: xs, .cons (ha.mono k2) hxs, h2⟩)

theorem ev_List {es : List Expr} {pos : Pos} (h : EVL C F ρ L es fun xs L1 => OPL C F.n newList xs L1 Q) : EV C F ρ L (.List es pos) Q := fun A env own g s r0 hE Fo => by
  show FrL C A env own ρ (standAt pos >>= fun zz => spliced (backTo pos (starEach es env)) >>= fun vs => newList vs) g s _
  exact .stand ((h A env own g s pos r0 hE Fo).bind fun g1 vs L1 s1 k1 Fo1 ⟨xs, hx, h1⟩ => Fo1.liftV fun g₁ k R => h1 A g₁ s1 vs r0 R (hx.mono k))
theorem ev_Tuple {es : List Expr} {k0 : Nat} {pos : Pos} (h : EVL C F ρ L es fun xs L1 => OPL C F.n newTuple xs L1 Q) : EV C F ρ L (.Tuple es k0 pos) Q := fun A env own g s r0 hE Fo => by
  show FrL C A env own ρ (standAt pos >>= fun zz => spliced (backTo pos (starEach es env)) >>= fun vs => newTuple vs) g s _
  exact .stand ((h A env own g s pos r0 hE Fo).bind fun g1 vs L1 s1 k1 Fo1 ⟨xs, hx, h1⟩ => Fo1.liftV fun g₁ k R => h1 A g₁ s1 vs r0 R (hx.mono k))

inductive ArgsPost (C : Cx) (F : SF) (env : Env) (own : List Addr) (ρ : Vars) (g : Heap) (f : AV) (first : List AV) (ns : List Str) (Q : AV → Led → Prop) (a : Args) (s2 : Shared) : Prop
  | mk (g2 : Heap) (L2 : Led) (xs kv : List AV) (vs kvs : List Value) (k : Le g g2) (Fo : FrameOk C env own ρ g2 L2 s2) (e : a = ⟨vs, ns.zip kvs⟩) (hx : VRs g2 xs vs) (hk : VRs g2 kv kvs) (h : CALL C F.n f (first ++ xs) (ns.zip kv) L2 Q)
set_option tactic.hygienic true in
theorem callWith_frame {A : Around} {env : Env} {own : List Addr} {g : Heap} {s : Shared} {f : AV} {fv : Value} {first : List AV} {fvs : List Value} {es : List Expr} {ks : List Keyword} {pos : Pos}
    (r0 : Room A F.n) (hE : EnvIs F env) (Fo : FrameOk C env own ρ g L s) (hf : VR g f fv) (hfs : VRs g first fvs) (hK : KEEP C f) (hstar : ((starEach es env).any (fun zz => zz.1) || (keywordEach ks env).any (·.1.isNone)) = false)
    (h : EVL C F ρ L es fun xs L1 => EVK C F ρ L1 ks fun kv L2 => CALL C F.n f (first ++ xs) ((ks.filterMap (·.arg)).zip kv) L2 Q)
    (hl : ((keywordEach ks env).all (·.1.isSome)) = true) (hkn : (keywordEach ks env).filterMap (fun zz => zz.1) = ks.filterMap (·.arg)) :
    FrL C A env own ρ (callWith pos fv fvs (backTo pos (starEach es env)) (backToKw pos (keywordEach ks env))) g s (VK Q) := by
  have hs2 : ((backTo pos (starEach es env)).any (fun zz => zz.1) || (backToKw pos (keywordEach ks env)).any (·.1.isNone)) = false := by
    rw [← hstar]
    unfold backTo backToKw
    simp only [List.any_map]
    rfl
  have hl2 : ((backToKw pos (keywordEach ks env)).all (·.1.isSome)) = true := by
    rw [← hl]
    unfold backToKw
    simp only [List.all_map]
    rfl
  have hkn2 : (backToKw pos (keywordEach ks env)).filterMap (fun zz => zz.1) = ks.filterMap (·.arg) := by
    rw [← hkn]
    unfold backToKw
    simp only [List.filterMap_map]
    rfl
  unfold callWith
  have hargs : wpAny C.M A (evalArgs fv true (backTo pos (starEach es env)) (backToKw pos (keywordEach ks env))) (ArgsPost C F env own ρ g f first (ks.filterMap (·.arg)) Q) Never s := by
    unfold evalArgs
    have hsp : ∀ (x : Bool × Sem Value), x ∈ backTo pos (starEach es env) → x.1 = false := fun x hx => by
      have := (Bool.or_eq_false_iff.mp hs2).1
      simpa using (List.any_eq_false.mp this) x hx
    dsimp only
    split
    · rename_i x _ hx
      have := hsp (true, x) (by rw [hx]; simp)
      cases this
    refine wpAny_bind (onL (h A env own g s pos r0 hE Fo) (fun vs s1 g1 L1 k1 Fo1 xs hxs h1 => wpAny_bind (wpAny_pure ?_)))
    dsimp only
    refine wpAny_holding ?_
    simp only [hl2, if_true]
    refine wpAny_bind (onL (h1 A env own g1 s1 pos r0 hE Fo1) (fun kvs s2 g2 L2 k2 Fo2 kv hkv h2 => ?_))
    refine wpAny_bind (wpAny_pure (wpAny_pure ?_))
    exact ⟨g2, L2, xs, kv, vs, kvs, k1.trans k2, Fo2, by rw [hkn2], hxs.mono k2, hkv, h2⟩
  refine wpAny_bind (wpAny_holding (wpAny_mono hargs (fun a s2 hz => ?_) fun zz zz f => f))
  obtain ⟨g2, L2, xs, kv, vs, kvs, k2, Fo2, rfl, hxs, hkv, h2⟩ := hz
  refine wpAny_bind (wpAny_standAt ?_)
  simp only [hs2]
  refine wpAny_bind (hK A g2 s2 L2 fv _ Fo2.rep (hf.mono k2) fun k => ?_)
  have hlen : kv.length = kvs.length := hkv.length
  have hmap : ∀ (ns : List Str) (kv : List AV) (kvs : List Value) (g0 : Heap), VRs g0 kv kvs → VRs g0 ((ns.zip kv).map (fun zz => zz.2)) (kvs.take ns.length) := fun ns => by
    induction ns with
    | nil => intro kv kvs g0 _; simp; exact .nil
    | cons n ns ih =>
      intro kv kvs g0 hk
      cases hk with
      | nil => simp; exact .nil
      | cons a b => simpa using VRs.cons a (ih _ _ _ b)
  have hzip : ∀ (ns : List Str) (kv : List AV) (kvs : List Value), kv.length = kvs.length → ((ns.zip kv).map (fun zz => zz.1)).zip (kvs.take ns.length) = ns.zip kvs := fun ns => by
    induction ns with
    | nil => intro kv kvs _; simp
    | cons n ns ih =>
      intro kv kvs e
      cases kv with
      | nil => cases kvs with | nil => simp | cons => cases e
      | cons a b => cases kvs with
        | nil => cases e
        | cons c d => simp at e; simp; exact ih _ _ e
  have base : wpAny C.M A (call fv (fvs ++ vs) ((ks.filterMap (·.arg)).zip kvs)) (P5 (FrameOk C env own ρ) g (VK Q)) Never s2 := by
    have hc : FrL C A env own ρ (call fv (fvs ++ vs) ((ks.filterMap (·.arg)).zip kvs)) g2 s2 (VK Q) := by
      refine Fo2.liftV fun g₁ k R => ?_
      have := h2 A g₁ s2 fv (fvs ++ vs) (kvs.take (ks.filterMap (·.arg)).length) r0 R ((hf.mono k2).mono k) (((hfs.mono k2).mono k).append (hxs.mono k)) (hmap _ _ _ _ (hkv.mono k))
      rwa [hzip _ _ _ hlen] at this
    exact onP hc k2
  have tail : ∀ {t : Sem Value}, wpAny C.M A t (P5 (FrameOk C env own ρ) g (VK Q)) Never s2 →
      wpAny C.M A (t >>= fun r => holding [r] point >>= fun zz => pure r) (P5 (FrameOk C env own ρ) g (VK Q)) Never s2 :=
    fun ht => wpAny_bind (wpAny_mono ht (fun r s₂ hr => wpAny_bind (wpAny_holding (wpAny_point (wpAny_pure hr)))) fun zz zz x => x)
  have marked (mk : Value) : wpAny C.M A (callMarked mk fv (fvs ++ vs) ((ks.filterMap (·.arg)).zip kvs)) (P5 (FrameOk C env own ρ) g (VK Q)) Never s2 := by
    unfold callMarked; exact Calls.wpAny_keep base
  have oper : ∀ vs', wpAny C.M A (operate vs' (call fv (fvs ++ vs) ((ks.filterMap (·.arg)).zip kvs))) (P5 (FrameOk C env own ρ) g (VK Q)) Never s2 :=
    fun vs' Γ p hΓ => by rw [Sem.wp_operate]; exact base Γ p hΓ
  cases k <;> dsimp only <;> first | exact tail base | exact tail (oper _) | (split <;> first | exact tail base | exact tail (marked _) | exact tail (oper _))

theorem ev_Call {fn : Expr} {es : List Expr} {ks : List Keyword} {pos : Pos}
    (h : EV C F ρ L fn fun f L1 => KEEP C f ∧ EVL C F ρ L1 es fun xs L2 => EVK C F ρ L2 ks fun kv L3 => CALL C F.n f xs ((ks.filterMap (·.arg)).zip kv) L3 Q)
    (hev : ∀ env, eval (.Call fn es ks pos) env = (do callWith pos (← eval fn env) [] (backTo pos (starEach es env)) (backToKw pos (keywordEach ks env))))
    (hstar : ∀ env, ((starEach es env).any (fun zz => zz.1) || (keywordEach ks env).any (·.1.isNone)) = false)
    (hl : ∀ env, ((keywordEach ks env).all (·.1.isSome)) = true) (hkn : ∀ env, (keywordEach ks env).filterMap (fun zz => zz.1) = ks.filterMap (·.arg)) :
    EV C F ρ L (.Call fn es ks pos) Q := fun A env own g s r0 hE Fo => by
  rw [hev]
  exact (h A env own g s r0 hE Fo).bindV fun g1 v L1 s1 k1 Fo1 f hf h1 => callWith_frame (first := []) r0 hE Fo1 hf .nil h1.1 (hstar env) h1.2 (hl env) (hkn env)

theorem ev_Method {o : Expr} {name : Str} {apos : Pos} {es : List Expr} {ks : List Keyword} {pos : Pos}
    (h : EV C F ρ L o fun a L1 => GETM C F.n a name L1 fun f first L2 => KEEP C f ∧ EVL C F ρ L2 es fun xs L3 => EVK C F ρ L3 ks fun kv L4 => CALL C F.n f (first ++ xs) ((ks.filterMap (·.arg)).zip kv) L4 Q)
    (hb : ∀ env whole, attributeBase o name env whole = whole) (hline : (apos.endLine == pos.line) = true)
    (hfew : ∀ env, methodCallForm (es.length + ks.length) (backTo pos (starEach es env)) (backToKw pos (keywordEach ks env)) = true)
    (hstar : ∀ env, ((starEach es env).any (fun zz => zz.1) || (keywordEach ks env).any (·.1.isNone)) = false)
    (hl : ∀ env, ((keywordEach ks env).all (·.1.isSome)) = true) (hkn : ∀ env, (keywordEach ks env).filterMap (fun zz => zz.1) = ks.filterMap (·.arg)) :
    EV C F ρ L (.Call (.Attribute o name apos) es ks pos) Q := fun A env own g s r0 hE Fo => by
  show FrL C A env own ρ (attributeBase o name env (eval o env) >>= fun ov => standAt apos.atName >>= fun zz => methodCall o name apos pos env ov (es.length + ks.length) (backTo pos (starEach es env)) (backToKw pos (keywordEach ks env))) g s _
  rw [hb]
  refine (h A env own g s r0 hE Fo).bindV fun g1 v L1 s1 k1 Fo1 a ha h1 => .stand ?_
  unfold methodCall
  rw [hfew]
  show FrL C A env own ρ (holding [v] (getMethod v name _) >>= _) g1 s1 _
  refine FrL.bind (.holding (Fo1.lift (fun g₁ k R => h1 A g₁ s1 v _ r0 R (ha.mono k)) MK.d)) fun g2 p L2 s2 k2 Fo2 hz => ?_
  obtain ⟨f, first, hf, hfs, hK, h2⟩ := hz
  obtain ⟨fv, fvs⟩ := p
  have hp : methodCallPos true o env apos pos = pure pos := by unfold methodCallPos; simp [hline]
  dsimp only
  rw [hp]
  refine wpAny_bind (wpAny_pure ?_)
  exact callWith_frame r0 hE Fo2 hf hfs hK (hstar env) h2 (hl env) (hkn env)

variable {X : XQ}
theorem XPost.trans {env : Env} {own : List Addr} {g g' : Heap} {f : Flow} {s' : Shared} (k : Le g g') (h : XPost C env own g' X f s') : XPost C env own g X f s' := by
  cases f with
  | ret v => exact let ⟨g'', ρ', L', k', x, av, q, y⟩ := h; ⟨g'', ρ', L', k.trans k', x, av, q, y⟩
  | _ => exact AsPost.le k h
theorem ex_nil (h : X.nx ρ L) : EX C F ρ L [] X := fun A env own g s zz zz Fo => wpAny_execs_nil ⟨g, ρ, L, .refl g, Fo, h⟩
theorem ex_cons {st : Stmt} {sts : List Stmt} (h : EX1 C F ρ L st ⟨fun ρ' L' => EX C F ρ' L' sts X, X.bk, X.ct, X.rt⟩) : EX C F ρ L (st :: sts) X := fun A env own g s r0 hE Fo =>
  wpAny_execs_cons (wpAny_mono (h A env own g s r0 hE Fo) (fun f s' hf => by
    cases f with
    | next =>
      obtain ⟨g', ρ', L', k, Fo', h'⟩ := hf
      exact wpAny_mono (h' A env own g' s' r0 hE Fo') (fun f s'' hx => hx.trans k) fun zz zz f => f
    | brk => exact hf
    | cont => exact hf
    | ret v => exact hf) fun zz zz f => f)
theorem ex_last {st : Stmt} (h : EX1 C F ρ L st X) : EX C F ρ L [st] X := ex_cons (fun A env own g s r0 hE Fo => wpAny_mono (h A env own g s r0 hE Fo) (fun f s' hf => by
    cases f with
    | next => obtain ⟨g', ρ', L', k, Fo', h'⟩ := hf; exact ⟨g', ρ', L', k, Fo', ex_nil h'⟩
    | brk => exact hf
    | cont => exact hf
    | ret v => exact hf) fun zz zz f => f)
theorem x_return {e : Expr} {pos : Pos} (h : EV C F ρ L e X.rt) : EX1 C F ρ L (.Return (some e) pos) X := fun A env own g s r0 hE Fo =>
  wpAny_Return_some (onV (h A env own g s r0 hE Fo) (fun v s' g' L' k Fo' av ha h' => ⟨g', ρ, L', k, Fo', av, ha, h'⟩))
theorem x_break {pos : Pos} (h : X.bk ρ L) : EX1 C F ρ L (.Break pos) X := fun A env own g s r0 hE Fo => by
  show wpAny C.M A (standAt pos >>= fun zz => pure Flow.brk) _ _ _
  exact wpAny_bind (wpAny_standAt (wpAny_pure ⟨g, ρ, L, .refl g, Fo, h⟩))
theorem x_if {t : Expr} {b o : List Stmt} {pos : Pos} (h : ET C F ρ L t fun c L1 => if c = true then EX C F ρ L1 b X else EX C F ρ L1 o X) : EX1 C F ρ L (.If t b o pos) X := fun A env own g s r0 hE Fo => by
  refine wpAny_If (on5 (h A env own g s r0 hE Fo) (fun c s' g' L' k Fo' h' => ?_))
  cases c with
  | true => exact wpAny_mono ((by simpa [EK] using h' : EX C F ρ L' b X) A env own g' s' r0 hE Fo') (fun f s'' hx => hx.trans k) fun zz zz f => f
  | false => exact wpAny_mono ((by simpa [EK] using h' : EX C F ρ L' o X) A env own g' s' r0 hE Fo') (fun f s'' hx => hx.trans k) fun zz zz f => f
theorem wpAny_dropValue {A : Around} {e : Expr} {pos : Pos} {v : Value} {Q : Flow → Shared → Prop} {s : Shared} (h : Q .next s) : wpAny C.M A (dropValue e pos v) Q Never s := by
  unfold dropValue
  split
  · exact wpAny_pure h
  · refine wpAny_bind (wpAny_standAt (wpAny_bind ?_))
    exact wpAny_runValue (codeAny_builtin entry_let_go (show wpAny _ _ (ret .none) _ _ s from wpAny_pure (wpAny_pure h)))
  · exact wpAny_pure h
theorem x_expr {e : Expr} {pos : Pos} (h : EV C F ρ L e fun zz L' => X.nx ρ L') (hs : ∀ env, swapsWith e none pos.line env = pure false) : EX1 C F ρ L (.Expr e pos) X := fun A env own g s r0 hE Fo => by
  have hi : interactive env = false := by unfold interactive; rw [hE.kindE]; rfl
  rw [exec_Expr env e pos hi (hs env)]
  exact wpAny_bind (wpAny_standAt (wpAny_bind (onV (h A env own g s r0 hE Fo) (fun v s' g' L' k Fo' av ha h' => wpAny_dropValue ⟨g', ρ, L', k, Fo', h'⟩))))

theorem asg_name {x : Str} {av : AV} {pos : Pos} {ρ' : Vars} {Q : Vars → Led → Prop} (hk : locOk F x = true) (hs : setV ρ x av = ρ') (h : Q ρ' L) : ASG C F ρ L (.Name x pos) av Q :=
  fun A env own g s v r0 hE Fo hv => by
    show wpAny C.M A (standAt pos >>= fun zz => bindName env x v) _ _ _
    exact wpAny_bind (wpAny_standAt (wpAny_bindName (Fo.store hE hv (locOk_of hk) fun s' Fo' => ⟨g, _, L, .refl g, Fo', hs ▸ h⟩)))
theorem x_assign {t value : Expr} {pos : Pos} (h : EV C F ρ L value fun av L1 => ASG C F ρ L1 t av X.nx) (hs : ∀ env, swapsWith value (some t) pos.line env = pure false)
    (hw : ∀ env, swappedStores [t] value env = pure none) (ht : ∀ env, assignEach [t] env = [(false, assign t env)]) : EX1 C F ρ L (.Assign [t] value pos) X := fun A env own g s r0 hE Fo => by
  rw [exec_Assign_arm]
  refine wpAny_bind (wpAny_standAt ?_)
  show wpAny C.M A (swapsWith value (some t) pos.line env >>= _) _ _ _
  rw [hs]
  refine wpAny_bind (wpAny_pure ?_)
  simp only [Bool.false_eq_true, if_false]
  refine wpAny_bind (onV (h A env own g s r0 hE Fo) (fun v s' g' L' k Fo' av ha h' => ?_))
  rw [hw, ht]
  refine wpAny_bind (wpAny_pure ?_)
  show wpAny C.M A (assign t env v >>= fun zz => pure Flow.next) _ _ _
  exact wpAny_bind (wpAny_mono (h' A env own g' s' v r0 hE Fo' ha) (fun zz zz x => wpAny_pure (x.le k)) fun zz zz f => f)
theorem x_aug_name {x : Str} {op : Operator} {value : Expr} {npos pos : Pos} {av : AV} {ρ'' : AV → Vars} (hl : ρ.lookup x = some av) (h : EV C F ρ L value fun b L1 => OP2 C F.n (inplaceOp op) av b L1 fun c L2 => X.nx (ρ'' c) L2)
    (hs : ∀ c, setV ρ x c = ρ'' c)
    (hk : locOk F x = true) (hn : (x == ("__classdict__" : Str)) = false) : EX1 C F ρ L (.AugAssign (.Name x npos) op value pos) X := fun A env own g s r0 hE Fo =>
  wpAny_AugAssign_Name (Fo.load hE hl (fun v hv => onV (h A env own g s r0 hE Fo) (fun u s1 g1 L1 k1 Fo1 b hb h1 =>
    onV (Fo1.liftV fun g₁ k R => h1 A g₁ s1 v u r0 R ((hv.mono k1).mono k) (hb.mono k)) (fun w s2 g2 L2 k2 Fo2 c hc h2 =>
      Fo2.store hE hc (locOk_of hk) fun s3 Fo3 => ⟨g2, _, L2, k1.trans k2, Fo3, hs c ▸ h2⟩))) hn)
end
end Mine
end
section
set_option maxRecDepth 100000
set_option linter.unusedVariables false
namespace Mine
open PySem PySem.Spec PySem.Calls PyProof.Rows PySem.W

inductive ItAt (h : Heap) (it : Addr) (ob : Nat → Obj → Prop) (i : Nat) : Prop
  | mk (o : Obj) (e : h.get? it = some o) (h : ob i o)
inductive DullRec (o : Obj) : Prop
  | mk (vs : Array Value) (c : String) (hd : o.data = .fields vs) (hc : o.cls = .type c) (hn : c ∉ frozenCls)
inductive Less (I : Nat → Shared → Prop) (n : Nat) (s : Shared) : Prop
  | mk (m : Nat) (h : m < n) (i : I m s)
inductive LessV (I : Nat → Vars → Led → Prop) (n : Nat) (ρ : Vars) (L : Led) : Prop
  | mk (m : Nat) (h : m < n) (i : I m ρ L)
noncomputable def TurnEnd (T : Shared → Prop) (R : Result → Shared → Prop) (f : Flow) (s : Shared) : Prop := match f with
  | .next | .cont => T s
  | .brk => R (.ok .next) s
  | .ret v => R (.ok (.ret v)) s
inductive OkX (C : Cx) (env : Env) (own : List Addr) (g : Heap) (X : XQ) (r : Result) (s' : Shared) : Prop
  | mk (f : Flow) (e : r = .ok f) (h : XPost C env own g X f s')
theorem XPost.turn {C : Cx} {env : Env} {own : List Addr} {g g' : Heap} {X : XQ} {J : Vars → Led → Prop} {T : Shared → Prop} {f : Flow} {s : Shared} (h : XPost C env own g' ⟨J, X.nx, J, X.rt⟩ f s) (k : Le g g') (fin : AsPost C env own g' J s → T s) :
    TurnEnd T (OkX C env own g X) f s := by
  cases f with
  | next => exact fin h
  | cont => exact fin h
  | brk => exact ⟨_, rfl, AsPost.le k h⟩
  | ret v => exact ⟨_, rfl, XPost.trans (f := .ret v) k h⟩
theorem ItAt.up {h h' : Heap} {it : Addr} {ob : Nat → Obj → Prop} {i : Nat} (x : ItAt h it ob i) (k : ∀ b o, h.get? b = some o → h'.get? b = some o) : ItAt h' it ob i := let ⟨o, h1, h2⟩ := x; ⟨o, k _ _ h1, h2⟩
theorem ItAt.lt {h : Heap} {it : Addr} {ob : Nat → Obj → Prop} {i : Nat} (x : ItAt h it ob i) : it < h.objs.size := let ⟨_, h1, _⟩ := x; Heap.lt_size h1
structure Iter (C : Cx) (A : Around) (target : Expr) (it : Addr) (xs : List AV) (g0 : Heap) (H : Led → Prop) (ob : Nat → Obj → Prop) : Prop where
  kind : ∀ i o, ob i o → DullRec o
  self : ∀ i s (Q : Value → Shared → Prop), ItAt s.heap it ob i → Q (.ref it) s → wpAny C.M A (pyIter (.ref it)) Q Never s
  item : ∀ i x L g s (Q : Value → Shared → Prop), xs[i]? = some x → Le g0 g → RepL C g L s → H L → ItAt s.heap it ob i → it ∉ ads (C.all L) → g.get? it = none →
    (∀ v h' tk, ItAt h' it ob (i + 1) → Heap.ExtBut it s.heap h' → (∀ gg, Le g gg → (∀ b o, s.heap.get? b = none → h'.get? b = some o → gg.get? b = some o) → VR gg x v) → Q v { s with heap := h', toks := tk }) →
    wpAny C.M A (pyNext (.ref it)) (fun r s1 => ∃ v, r = some v ∧ wpAny C.M A (letOwnedTupleGo target (.ref it) v) (fun zz s2 => Q v s2) Never s1) Never s
  done : ∀ L g s (Q : Option Value → Shared → Prop), Le g0 g → RepL C g L s → H L → ItAt s.heap it ob xs.length → it ∉ ads (C.all L) → g.get? it = none →
    (∀ h' tk, Heap.ExtBut it s.heap h' → Q none { s with heap := h', toks := tk }) → wpAny C.M A (pyNext (.ref it)) Q Never s
noncomputable def ITERABLE (C : Cx) (n : Nat) (target : Expr) (a : AV) (L : Led) (xs : List AV) (H : Led → Prop) : Prop :=
  ∀ A g s v (Q : Value → Shared → Prop), Room A n → RepL C g L s → VR g a v →
    (∀ it h' tk ob, s.heap.get? it = none → Le s.heap h' → ItAt h' it ob 0 → Iter C A target it xs g H ob → Q (.ref it) { s with heap := h', toks := tk }) → wpAny C.M A (pyIter v) Q Never s

section
variable {C : Cx} {A : Around} {R : Result → Shared → Prop} {s : Shared}
theorem never_mono {α : Type} {t : Sem α} {Q : α → Shared → Prop} {E : Value → Shared → Prop} (h : wpAny C.M A t Q Never s) : wpAny C.M A t Q E s := wpAny_mono h (fun zz zz x => x) fun zz zz f => f.elim
theorem codeAny_for {target : Expr} {it : Value} {body orelse : List Stmt} {env : Env} (I : Nat → Shared → Prop)
    (turn : ∀ n s, I n s → wpAny C.M A (pyNext it) (fun r s₁ => match r with
      | none => wpAny C.M A (execs orelse env) (fun f s₃ => R (.ok f) s₃) Never s₁
      | some v => wpAny C.M A (letOwnedTupleGo target it v) (fun zz s1' => wpAny C.M A (assign target env v) (fun zz s₂ => wpAny C.M A (execs body env) (TurnEnd (Less I n) R) Never s₂) Never s1') Never s₁) Never s)
    (n : Nat) (h : I n s) : codeAny C.M A (.forLoop target it body orelse env) R s := by
  refine codeAny_loop' rfl I (fun n s hI => ?_) n h
  show wpAny _ _ ((forTurn target it body orelse env).onRaise (fun x => do noteFrame x env; theTreesLotGoes x)) _ _ s
  refine wpAny_noted ?_
  simp only [forTurn]
  refine wpAny_bind (wpAny_standAt (wpAny_bind (wpAny_onRaise (wpAny_mono (turn n s hI) (fun r s₁ h₁ => ?_) fun zz zz h' => h'.elim))))
  cases r with
  | none => exact wpAny_pure (.inr ⟨rfl, codeAny_block (never_mono h₁)⟩)
  | some v =>
    refine wpAny_bind (wpAny_mono h₁ (fun zz s1' h1' => ?_) fun zz zz h' => h'.elim)
    refine wpAny_bind (wpAny_mono h1' (fun zz s₂ h₂ => wpAny_bind (wpAny_mono h₂ (fun f s₃ h₃ => ?_) fun zz zz h' => h'.elim)) fun zz zz h' => h'.elim)
    cases f with
    | next => exact wpAny_pure (.inl ⟨rfl, let ⟨m, h, i⟩ := h₃; ⟨m, h, i⟩⟩)
    | cont => exact wpAny_pure (.inl ⟨rfl, let ⟨m, h, i⟩ := h₃; ⟨m, h, i⟩⟩)
    | brk => exact wpAny_pure h₃
    | ret v => exact wpAny_pure h₃
end

section
variable {C : Cx} {F : SF} {ρ : Vars} {L : Led} {X : XQ}

inductive LOOP (C : Cx) (F : SF) (ρ : Vars) (L : Led) (target : Expr) (a : AV) (body orelse : List Stmt) (X : XQ) : Prop
  | mk (xs : List AV) (H : Led → Prop) (I : Nat → Vars → Led → Prop) (hI : ITERABLE C F.n target a L xs H) (h0 : I 0 ρ L) (hH : ∀ i ρ L, I i ρ L → H L)
    (turn : ∀ i x ρ L, xs[i]? = some x → I i ρ L → ASG C F ρ L target x fun ρ' L' => EX C F ρ' L' body ⟨I (i + 1), X.nx, I (i + 1), X.rt⟩) (done : ∀ ρ L, I xs.length ρ L → EX C F ρ L orelse X)
theorem LOOP.of {target : Expr} {a : AV} {body orelse : List Stmt} {xs : List AV} {H : Led → Prop} (I : Nat → Vars → Led → Prop) (hI : ITERABLE C F.n target a L xs H) (h0 : I 0 ρ L) (hH : ∀ i ρ L, I i ρ L → H L)
    (turn : ∀ i x ρ L, xs[i]? = some x → I i ρ L → ASG C F ρ L target x fun ρ' L' => EX C F ρ' L' body ⟨I (i + 1), X.nx, I (i + 1), X.rt⟩) (done : ∀ ρ L, I xs.length ρ L → EX C F ρ L orelse X) :
    LOOP C F ρ L target a body orelse X := ⟨xs, H, I, hI, h0, hH, turn, done⟩

theorem FrameOk.fresh {env : Env} {own : List Addr} {g : Heap} {s : Shared} (Fo : FrameOk C env own ρ g L s) {it : Addr} (hit : s.heap.get? it = none) : g.get? it = none ∧ it ∉ ads (C.all L) ∧ it ∉ own := by
  refine ⟨?_, fun hm => ?_, fun hm => ?_⟩
  · cases e : g.get? it with
    | none => rfl
    | some o => exact (Fo.rep.sub _ _ e).symm.trans hit
  · obtain ⟨p, hp, rfl⟩ := List.mem_map.mp hm
    obtain ⟨o, ho, _⟩ := Fo.rep.led p hp
    exact nomatch hit.symm.trans ho
  · obtain ⟨o, ho, _⟩ := Fo.ownDull it hm
    exact nomatch hit.symm.trans ho
inductive ForInv (C : Cx) (env : Env) (own : List Addr) (g1 : Heap) (it : Addr) (ob : Nat → Obj → Prop) (l : Nat) (I : Nat → Vars → Led → Prop) (n : Nat) (s' : Shared) : Prop
  | mk (i : Nat) (g' : Heap) (ρ' : Vars) (L' : Led) (hn : n = l - i) (hi : i ≤ l) (k : Le g1 g') (Fo : FrameOk C env own ρ' g' L' s') (hI : I i ρ' L') (lit : it ∉ ads (C.all L')) (nit : g'.get? it = none) (hob : ItAt s'.heap it ob i)
theorem x_for {target iter : Expr} {body orelse : List Stmt} {pos : Pos} (h : EV C F ρ L iter fun a L1 => LOOP C F ρ L1 target a body orelse X) (hs : ∀ env x, foldedSetIterable iter env x = pure x) :
    EX1 C F ρ L (.For target iter body orelse pos) X := fun A env own g s r0 hE Fo => by
  rw [exec_For]
  refine wpAny_bind (wpAny_standAt (wpAny_bind (onV (h A env own g s r0 hE Fo) (fun v s1 g1 L1 k1 Fo1 a ha hz => ?_))))
  obtain ⟨xs, H, I, hI, h0, hH, turn, done⟩ := hz
  rw [hs]
  refine wpAny_bind (wpAny_pure (wpAny_bind (wpAny_standAt (wpAny_bind (wpAny_holding (hI A g1 s1 v _ r0 Fo1.rep ha fun it h1 tk1 ob hit hk1 hob IT => ?_))))))
  have ⟨nit, litL, oit⟩ := Fo1.fresh hit
  have bit : C.hB.get? it = none := by
    cases e : C.hB.get? it with
    | none => rfl
    | some o => exact (Fo1.rep.base _ _ e).symm.trans nit
  refine wpAny_runOwn (codeAny_mono (codeAny_for (R := OkX C env own g X) (ForInv C env own g1 it ob xs.length I) (fun n s2 hn => ?_) xs.length
    ⟨0, g1, ρ, L1, rfl, Nat.zero_le _, .refl _, Fo1.heap (a := it) (fun b o zz e => hk1 b o e) nit litL oit, h0, litL, nit, hob⟩) fun zz zz h => by obtain ⟨f, rfl, hf⟩ := h; exact hf)
  obtain ⟨i, g2, ρ2, L2, rfl, hi, k2, Fo2, hI2, lit2, nit2, hob2⟩ := hn
  by_cases hlt : i < xs.length
  · have hx : xs[i]? = some xs[i] := List.getElem?_eq_getElem hlt
    refine wpAny_mono (IT.item i xs[i] L2 g2 s2 _ hx k2 Fo2.rep (hH _ _ _ hI2) hob2 lit2 nit2 fun v h3 tk3 hob3 hext3 hv3 => ?_) (fun r s4 hv => by obtain ⟨v, e, hv⟩ := hv; subst e; exact hv) fun zz zz f => f
    obtain ⟨k3, Fo3'⟩ := (Fo2.heap (t := tk3) hext3 nit2 lit2 oit).wide
    have inW : ∀ b o, h3.get? b = some o → b ∉ ads (C.all L2) → b ∉ own → (hideAll h3 (ads (C.all L2) ++ own)).get? b = some o := fun b o e h1 h2 => hideAll_get _ e fun hm => (List.mem_append.mp hm).elim h1 h2
    obtain ⟨o3, ho3, po3⟩ := hob3
    obtain ⟨vs, c, hd, hc, hn⟩ := IT.kind _ _ po3
    refine on6 (turn i xs[i] ρ2 L2 hx hI2 A env own _ _ v r0 hE Fo3' (hv3 _ k3 fun b o e1 e2 => inW b o e2 (Fo2.fresh e1).2.1 (Fo2.fresh e1).2.2)) (fun zz s4 g4 ρ4 L4 k4 Fo4 hX => ?_)
    refine wpAny_mono (hX A env own g4 s4 r0 hE Fo4) (fun f s5 h5 => h5.turn (((k1.trans k2).trans k3).trans k4) fun h5 => ?_) fun zz zz f => f
    obtain ⟨g5, ρ5, L5, k5, Fo5, hI5⟩ := h5
    have it5 := k5 _ _ (k4 _ _ (inW it _ ho3 lit2 oit))
    refine ⟨xs.length - (i + 1), by omega, i + 1, g5.hide it, ρ5, L5, rfl, hlt, fun b o e => (Heap.hide_ne g5 fun q => by rw [q, nit] at e; cases e).trans (k5 _ _ (k4 _ _ (k3 _ _ (k2 _ _ e)))), Fo5.hide it5 hd hc hn bit, hI5, fun hm => ?_, Heap.hide_self g5 it, ⟨o3, Fo5.rep.sub _ _ it5, po3⟩⟩
    exact nomatch (Fo5.rep.free it hm).symm.trans it5
  · have hin : i = xs.length := by omega
    subst hin
    exact IT.done L2 g2 s2 _ k2 Fo2.rep (hH _ _ _ hI2) hob2 lit2 nit2 fun h3 tk3 hext3 =>
      wpAny_mono (done ρ2 L2 hI2 A env own _ _ r0 hE (Fo2.heap hext3 nit2 lit2 oit)) (fun f s5 h5 => ⟨f, rfl, h5.trans (k1.trans k2)⟩) fun zz zz f => f

end

section
variable {C : Cx} {n : Nat} {L : Led}
set_option tactic.hygienic true in
theorem letGo_pure {A : Around} {target : Expr} {it : Addr} {v : Value} {o : Obj} {c : String} {s : Shared} {Q : Unit → Shared → Prop} (ho : s.heap.get? it = some o) (hc : o.cls = .type c)
    (hn : (["enumerate", "zip", "dict_itemiterator", "dict_reverseitemiterator", "odict_iterator", "itertools.zip_longest", "itertools.pairwise"] : List String).contains c = false) (h : Q () s) : wpAny C.M A (letOwnedTupleGo target (.ref it) v) Q Never s := by
  unfold letOwnedTupleGo
  have key : wpAny C.M A (match (Value.ref it, v) with
      | (.ref r, .ref a) => do
        let o ← load r
        match o.cls, o.data with
        | .type n, .fields vs =>
          if (["enumerate", "zip", "dict_itemiterator", "dict_reverseitemiterator", "odict_iterator", "itertools.zip_longest", "itertools.pairwise"].contains n && vs[0]? == some (rawInt a)) = true then do
            rule "for.unpacks-the-owned-tuple"
            updateField r 0 .none
          else pure PUnit.unit
        | _, _ => pure ()
      | _ => pure ()) Q Never s := by
    cases v with
    | ref a =>
      dsimp only
      refine wpAny_bind (wpAny_load ho ?_)
      rw [hc]
      split
      · rename_i n vs e1 e2
        cases e1
        rw [hn]
        simp only [Bool.false_and, Bool.false_eq_true, if_false]
        exact wpAny_pure h
      · exact wpAny_pure h
    | _ => exact wpAny_pure h
  split
  · exact key
  · exact key
  · exact wpAny_pure h


theorem Iter.list {A : Around} {target : Expr} {it a : Addr} {xs : List AV} {g0 : Heap} {H : Led → Prop} (r0 : Room A n)
    (hl : ∀ L g s, Le g0 g → RepL C g L s → H L → ∃ vs, s.heap.IsList a vs ∧ VRs g xs vs.toList) :
    Iter C A target it xs g0 H fun i o => o = fldsOf "list_iterator" #[.ref a, .int i 0] where
  kind := fun i o e => by subst e; exact ⟨_, _, rfl, rfl, by decide⟩
  self := fun i s Q h hq => by obtain ⟨_, h, rfl⟩ := h; exact wpAny_pyIter_listiter (i := i) (l := a) ⟨_, h, rfl, rfl⟩ hq
  item := fun i x L g s Q hx k R hH ho hn hg hq => by
    obtain ⟨_, ho, rfl⟩ := ho
    obtain ⟨vs, hvs, hr⟩ := hl L g s k R hH
    obtain ⟨v, hv, hxv⟩ := hr.get hx
    obtain ⟨ol, hol, hcl, nl, hdl⟩ := id hvs
    unfold pyNext
    have hit : s.heap.IsListIter it a i := ⟨_, ho, rfl, rfl⟩
    refine wpAny_bind (wpAny_attempt (wpAny_callSpecial?_slot (name := Str.ofString "__next__") hit.typeIs slot_listiter_next
      (wpAny_call_entry slot_listiter_next hit.typeIs entry_listiter_next ?_ (args_listiter_next _))))
    show wpAny _ _ (field (.ref it) 0 >>= _) _ _ s
    refine wpAny_bind (wpAny_field ho rfl (x := .ref a) rfl ?_)
    show wpAny _ _ (if (Value.ref a == Value.none) = true then _ else _) _ _ s
    rw [if_neg (show ¬ ((Value.ref a == Value.none) = true) from Bool.false_ne_true)]
    show wpAny _ _ (field (.ref it) 1 >>= _) _ _ s
    refine wpAny_bind (wpAny_field ho rfl (x := .int i 0) rfl ?_)
    show wpAny _ _ (seqItems? (.ref a) >>= _) _ _ s
    refine wpAny_bind (wpAny_seqItems hol hdl ?_)
    have hv' : vs[i]? = some v := by rw [← Array.getElem?_toList]; exact hv
    simp only [Int.toNat_natCast, hv']
    refine wpAny_bind (wpAny_setField ho rfl (by simp) (wpAny_pure ⟨v, rfl, wpAny_pure ⟨v, rfl, ?_⟩⟩))
    have ho' : (s.heap.update it (Obj.mapFields fun vs => vs.setIfInBounds 1 (rawInt ((i : Int) + 1)))).get? it = some (fldsOf "list_iterator" #[.ref a, .int ((i + 1 : Nat) : Int) 0]) :=
      Heap.get?_update_self _ ho rfl
    exact letGo_pure ho' rfl (by decide) (hq v _ _ ⟨_, ho', rfl⟩ (Heap.SameBut.update ..).extBut fun gg kk zz => hxv.mono kk)
  done := fun L g s Q k R hH ho hn hg hq => by
    obtain ⟨_, ho, rfl⟩ := ho
    obtain ⟨vs, hvs, hr⟩ := hl L g s k R hH
    exact wpAny_pyNext_list_end r0.handled (i := xs.length) ⟨_, ho, rfl, rfl⟩ hvs (by rw [hr.length, ← Array.getElem?_toList]; simp) fun h' he => hq h' _ he

theorem iter_lst {target : Expr} {xs : List AV} : ITERABLE C n target (.lst xs) L xs fun zz => True := fun A g s v Q r0 R hv hq => by
  cases hv.isLst with
  | mk _ _ _ _ e h1 h2 h3 h4 =>
    subst e
    refine wpAny_pyIter_list ⟨_, R.sub _ _ h1, h2, _, h3⟩ (hq s.heap.objs.size _ s.toks (fun i o => o = fldsOf "list_iterator" #[.ref _, .int i 0]) (by
      cases e : s.heap.get? s.heap.objs.size with
      | none => rfl
      | some o => exact absurd (Heap.lt_size e) (Nat.lt_irrefl _)) (fun b o e => Heap.get?_push_of_some _ e) ⟨_, Heap.get?_push_size _ rfl, rfl⟩ (.list r0 fun L' g' s' k R' zz => ⟨_, ⟨_, R'.sub _ _ (k _ _ h1), h2, _, h3⟩, h4.mono k⟩))
theorem iter_led {target : Expr} {a : Addr} {xs : List AV} (hm : (a, .list xs) ∈ L) : ITERABLE C n target (.obj a) L xs fun L' => (a, .list xs) ∈ L' := fun A g s v Q r0 R hv hq => by
  cases hv
  have key : ∀ {L' : Led} {g' : Heap} {s' : Shared}, RepL C g' L' s' → (a, .list xs) ∈ L' → ∃ vs, s'.heap.IsList a vs ∧ VRs g' xs vs.toList := fun R' h' => by
    obtain ⟨o, h1, vs, m, rfl, h2⟩ := R'.led _ (Cx.inAll h')
    exact ⟨vs, ⟨_, h1, rfl, m, rfl⟩, h2⟩
  obtain ⟨vs, h1, h2⟩ := key R hm
  refine wpAny_pyIter_list h1 (hq s.heap.objs.size _ s.toks (fun i o => o = fldsOf "list_iterator" #[.ref a, .int i 0]) (by
      cases e : s.heap.get? s.heap.objs.size with
      | none => rfl
      | some o => exact absurd (Heap.lt_size e) (Nat.lt_irrefl _)) (fun b o e => Heap.get?_push_of_some _ e) ⟨_, Heap.get?_push_size _ rfl, rfl⟩ (.list r0 fun L' g' s' k R' h' => key R' h'))

noncomputable def nums (m : Nat) : List AV := (List.range m).map fun (i : Nat) => AV.int (Int.ofNat i)
theorem nums_get {m i : Nat} {x : AV} (h : (nums m)[i]? = some x) : i < m ∧ x = .int (i : Int) := by
  unfold nums at h
  simp only [List.getElem?_map] at h
  cases e : (List.range m)[i]? with
  | none => rw [e] at h; cases h
  | some j =>
    rw [e] at h
    obtain ⟨h1, h2⟩ := List.getElem?_eq_some_iff.mp e
    simp at h1 h2
    subst h2
    cases h
    exact ⟨h1, rfl⟩
theorem nums_length (m : Nat) : (nums m).length = m := by simp [nums]
theorem Iter.range {A : Around} {target : Expr} {it : Addr} {g0 : Heap} (r0 : Room A n) (m : Nat) :
    Iter C A target it (nums m) g0 (fun zz => True) fun i o => o = fldsOf "range_iterator" #[rawInt (i : Int), rawInt ((m : Int) - (i : Int)), rawInt 1] where
  kind := fun i o e => by subst e; exact ⟨_, _, rfl, rfl, by decide⟩
  self := fun i s Q h hq => by obtain ⟨_, h, rfl⟩ := h; exact wpAny_pyIter_rangeiter h hq
  item := fun i x L g s Q hx k R hH ho hn hg hq => by
    obtain ⟨_, ho, rfl⟩ := ho
    obtain ⟨hi, rfl⟩ := nums_get hx
    refine wpAny_pyNext_range_item ho (by omega) fun h' hit' hs' => ?_
    refine ⟨_, rfl, ?_⟩
    have e1 : (i : Int) + 1 = ((i + 1 : Nat) : Int) := by omega
    have e2 : (m : Int) - (i : Int) - 1 = (m : Int) - ((i + 1 : Nat) : Int) := by omega
    have ho' : h'.get? it = some (fldsOf "range_iterator" #[rawInt ((i + 1 : Nat) : Int), rawInt ((m : Int) - ((i + 1 : Nat) : Int)), rawInt 1]) := by
      have e3 := hit'
      rw [e2] at e3; rw [e1] at e3; exact e3
    exact letGo_pure ho' rfl (by decide) (hq _ _ _ ⟨_, ho', rfl⟩ hs'.extBut fun gg kk zz => .int _ _)
  done := fun L g s Q k R hH ho hn hg hq => by
    obtain ⟨_, ho, rfl⟩ := ho
    exact wpAny_pyNext_range_end r0.handled ho (by rw [nums_length]; omega) fun h' he => hq h' _ he
theorem iter_range {target : Expr} {m : Int} (hm : m < 2 ^ 62) (h0 : 0 ≤ m) : ITERABLE C n target (.rng 0 m 1) L (nums m.toNat) fun zz => True := fun A g s v Q r0 R hv hq => by
  ·       apply hv.eRecd3; intro a v1 v2 v3 h1 q1 q2 q3
          obtain ⟨_, rfl⟩ := q1.isInt; obtain ⟨_, rfl⟩ := q2.isInt; obtain ⟨_, rfl⟩ := q3.isInt
          have hsz : Builtin.Range.rangeSize 0 m 1 = m := by
            unfold Builtin.Range.rangeSize
            simp
            omega
          refine wpAny_pyIter_range (R.sub _ _ h1) ?_ (hq s.heap.objs.size _ s.toks (fun i o => o = fldsOf "range_iterator" #[rawInt (i : Int), rawInt ((m.toNat : Int) - (i : Int)), rawInt 1]) (by
            cases e : s.heap.get? s.heap.objs.size with
            | none => rfl
            | some o => exact absurd (Heap.lt_size e) (Nat.lt_irrefl _)) (fun b o e => Heap.get?_push_of_some _ e) ?_ (.range r0 m.toNat))
          · unfold Builtin.Range.small
            rw [hsz]
            unfold Builtin.Range.rangeFitsLong
            simp
            omega
          · refine ⟨_, Heap.get?_push_size _ rfl, ?_⟩
            rw [hsz]
            have : ((m.toNat : Nat) : Int) - ((0 : Nat) : Int) = m := by omega
            show _ = fldsOf "range_iterator" #[rawInt ((0 : Nat) : Int), rawInt ((m.toNat : Int) - ((0 : Nat) : Int)), rawInt 1]
            rw [this]; rfl
end
end Mine
end
section
set_option maxRecDepth 100000
set_option linter.unusedVariables false


namespace Mine
open PySem PySem.Spec PySem.Calls PyProof.Rows PySem.W

section
variable {C : Cx} {n : Nat} {L : Led} {Q : AV → Led → Prop}

theorem keep_cst {v : Value} (hv : ∀ a, v ≠ .ref a) : KEEP C (.cst v) := fun A g s L v' Q R hv' h => by
  cases hv'
  unfold keeperOf
  cases v <;> first | exact absurd rfl (hv _) | exact wpAny_pure (h _)
theorem keep_K {a : Addr} (hk : keepIn C.K (.ref a) = true) : KEEP C (.obj a) := fun A g s L v Q R hv h => by
  cases hv
  obtain ⟨k, _, Lk⟩ := looks_keep (M := C.M) hk R.Xs
  exact Lk.here (h k)
theorem keep_bm {id : String} {self : AV} : KEEP C (.bm id self) := fun A g s L v Q R hv h => by
  cases hv.isRecd with
  | mk a vs e _ h1 h2 =>
    subst e
    unfold keeperOf
    refine wpAny_bind (wpAny_load (R.sub _ _ h1) ?_)
    exact wpAny_pure (h _)
theorem keep_meth {f : Addr} {self : AV} {oc : Value} {od : Option Addr} {fd : FuncData} {osl : Array (Option Value)} (hf : C.K.lookup f = some ⟨oc, od, .func fd, osl⟩) : KEEP C (.meth f self) := fun A g s L v Q R hv h => by
  ·   apply hv.eRecd2; intro a v1 v2 h1 q1 q2
      obtain rfl := q1.isObj
      unfold keeperOf
      refine wpAny_bind (wpAny_load (R.sub _ _ h1) ?_)
      refine wpAny_bind (wpAny_load (R.Xs _ _ hf) ?_)
      exact wpAny_pure (h _)

theorem op_add_int {x y : Int} (h : Q (.int (x + y)) L) : OP2 C n (binaryOp .Add) (.int x) (.int y) L Q := fun A g s v u r R hv hu => by
  apply hv.eInt2 hu; intro zz zz
  with_reducible refine add_int ?_
  exact ⟨g, L, .refl g, R.toks _, _, .int _ _, h⟩
theorem op_mod_int {x y : Int} (hy : y ≠ 0) (h : Q (.int (x.fmod y)) L) : OP2 C n (binaryOp .Mod) (.int x) (.int y) L Q := fun A g s v u r R hv hu => by
  apply hv.eInt2 hu; intro zz zz
  with_reducible refine mod_int hy ?_
  exact ⟨g, L, .refl g, R.toks _, _, .int _ _, h⟩
theorem op_and_int {x y : Int} (h : Q (.int (Builtin.bitAnd x y)) L) : OP2 C n (binaryOp .BitAnd) (.int x) (.int y) L Q := fun A g s v u r R hv hu => by
  apply hv.eInt2 hu; intro zz zz
  with_reducible refine and_int ?_
  exact ⟨g, L, .refl g, R.toks _, _, .int _ _, h⟩
theorem op_shl_int {x y : Int} (hy : 0 ≤ y) (hsz : (Builtin.Int.intBits x : Int) + y ≤ 2 ^ 27) (h : Q (.int (x * 2 ^ y.toNat)) L) : OP2 C n (binaryOp .LShift) (.int x) (.int y) L Q := fun A g s v u r R hv hu => by
  apply hv.eInt2 hu; intro zz zz
  with_reducible refine lshift_int hy hsz ?_
  exact ⟨g, L, .refl g, R.toks _, _, .int _ _, h⟩
theorem op_shr_int {x y : Int} (hy : 0 ≤ y) (h : Q (.int (x.fdiv (2 ^ y.toNat))) L) : OP2 C n (binaryOp .RShift) (.int x) (.int y) L Q := fun A g s v u r R hv hu => by
  apply hv.eInt2 hu; intro zz zz
  with_reducible refine rshift_int hy ?_
  exact ⟨g, L, .refl g, R.toks _, _, .int _ _, h⟩
theorem op_iadd_int {x y : Int} (h : Q (.int (x + y)) L) : OP2 C n (inplaceOp .Add) (.int x) (.int y) L Q := fun A g s v u r R hv hu => by
  apply hv.eInt2 hu; intro zz zz
  with_reducible refine iadd_int ?_
  exact ⟨g, L, .refl g, R.toks _, _, .int _ _, h⟩
theorem op_ixor_int {x y : Int} (h : Q (.int (Builtin.bitXor x y)) L) : OP2 C n (inplaceOp .BitXor) (.int x) (.int y) L Q := fun A g s v u r R hv hu => by
  apply hv.eInt2 hu; intro zz zz
  with_reducible refine ixor_int ?_
  exact ⟨g, L, .refl g, R.toks _, _, .int _ _, h⟩
theorem op_neg_int {x : Int} (h : Q (.int (-x)) L) : OP1 C n (unaryOp .USub) (.int x) L Q := fun A g s v r R hv => by
  cases hv
  with_reducible refine neg_int ?_
  exact ⟨g, L, .refl g, R.toks _, _, .int _ _, h⟩
theorem op_inv_int {x : Int} (h : Q (.int (Builtin.bitNot x)) L) : OP1 C n (unaryOp .Invert) (.int x) L Q := fun A g s v r R hv => by
  cases hv
  with_reducible refine invert_int ?_
  exact ⟨g, L, .refl g, R.toks _, _, .int _ _, h⟩
theorem cmp_ge_int {x y : Int} (h : Q (.bool (decide (y ≤ x))) L) : OP2 C n (compareOp .GtE) (.int x) (.int y) L Q := fun A g s v u r R hv hu => by
  apply hv.eInt2 hu; intro zz zz
  with_reducible refine ge_int ?_
  exact ⟨g, L, .refl g, R, _, .bool _, h⟩
theorem cmp_eq_int {x y : Int} (h : Q (.bool (x == y)) L) : OP2 C n (compareOp .Eq) (.int x) (.int y) L Q := fun A g s v u r R hv hu => by
  apply hv.eInt2 hu; intro zz zz
  with_reducible refine eq_int ?_
  exact ⟨g, L, .refl g, R, _, .bool _, h⟩
theorem cmp_ne_int {x y : Int} (h : Q (.bool (x != y)) L) : OP2 C n (compareOp .NotEq) (.int x) (.int y) L Q := fun A g s v u r R hv hu => by
  apply hv.eInt2 hu; intro zz zz
  with_reducible refine ne_int ?_
  exact ⟨g, L, .refl g, R, _, .bool _, h⟩

theorem tr_bool {b : Bool} {Q : Bool → Led → Prop} (h : Q b L) : OPB C n truthy (.bool b) L Q := fun A g s v r R hv => by
  cases hv
  with_reducible refine wpAny_truthy_bool ?_
  exact ⟨g, L, .refl g, R, h⟩
theorem tr_int {i : Int} {Q : Bool → Led → Prop} (h : Q (i != 0) L) : OPB C n truthy (.int i) L Q := fun A g s v r R hv => by
  cases hv
  with_reducible refine truthy_int ?_
  exact ⟨g, L, .refl g, R, h⟩
theorem tr_none {Q : Bool → Led → Prop} (h : Q false L) : OPB C n truthy .none L Q := fun A g s v r R hv => by
  cases hv
  with_reducible refine truthy_none ?_
  exact ⟨g, L, .refl g, R, h⟩
theorem tr_str {x : Str} {Q : Bool → Led → Prop} (hl : x.length ≤ sizeLine) (h : Q (x.length != 0) L) : OPB C n truthy (.str x) L Q := fun A g s v r R hv => by
  cases hv
  have e : ((x.length : Int) != 0) = (x.length != 0) := by
    rw [Bool.eq_iff_iff]; simp
  with_reducible refine P.truthy_str (by rw [sizeLine_eq] at hl; omega) ?_
  rw [e]; exact ⟨g, L, .refl g, R.toks _, h⟩

theorem opl_newList {xs : List AV} (hz : xs.length ≤ sizeLine) (h : ∀ a, Q (.obj a) ((a, .list xs) :: L)) : OPL C n newList xs L Q := fun A g s vs r R hv =>
  wpAny_newObj_type ⟨g, _, .refl g, R.alloc (o := listOf vs.toArray 0) (x := .list xs) ⟨vs.toArray, 0, rfl, by simpa using hv⟩ rfl s.toks, _, .obj _, h _⟩ (by show vs.toArray.size ≤ sizeLine; rw [List.size_toArray, ← hv.length]; exact hz)
theorem opl_newTuple {xs : List AV} (hz : xs.length ≤ sizeLine) (h : Q (.tup xs) L) : OPL C n newTuple xs L Q := fun A g s vs r R hv => by
  obtain ⟨g', k, R', hg⟩ := R.allocG (o := { cls := .type "tuple", data := .seq vs.toArray }) rfl s.toks
  exact wpAny_newObj_type ⟨g', L, k, R', _, .tup hg rfl rfl (by simpa using hv.mono k), h⟩ (by show vs.toArray.size ≤ sizeLine; rw [List.size_toArray, ← hv.length]; exact hz)

inductive ListAt (g h : Heap) (a : Addr) (xs : List AV) : Prop
  | mk (vs : Array Value) (m : Nat) (h1 : h.get? a = some (listOf vs m)) (h2 : VRs g xs vs.toList)
theorem led_list {a : Addr} {xs : List AV} {g : Heap} {s : Shared} (R : RepL C g L s) (hm : (a, .list xs) ∈ L) : ListAt g s.heap a xs := by
  obtain ⟨o, h1, vs, m, rfl, h2⟩ := R.led _ (Cx.inAll hm)
  exact ⟨vs, m, h1, h2⟩
theorem isL {a : Addr} {vs : Array Value} {m : Nat} {h : Heap} (e : h.get? a = some (listOf vs m)) : h.IsList a vs := ⟨_, e, rfl, m, rfl⟩

set_option tactic.hygienic true in
theorem getm_str {x : Str} {name : Str} {id : String} {Q : AV → List AV → Led → Prop} (slot : Slot "str" name id) (hty : typeOf (.builtin id) = pure (.type "method_descriptor")) (h : Q (.cst (.builtin id)) [.str x] L) : GETM C n (.str x) name L Q :=
  fun A g s v pl r R hv => by
    cases hv
    rename_i t
    have hT := typeIs_str s x t
    have hd : ∀ a, Value.str x t = .ref a → ∃ o, s.heap.get? a = some o ∧ o.dict = none := fun zz e => nomatch e
    with_reducible refine getMethod_builtin (T := "str") hT PySem.F.plainAttrs_str slot hty hd ?_
    exact ⟨g, L, .refl g, R, _, _, .cst _, .cons (.str _ _) .nil, h⟩
theorem getm_list {a : Addr} {xs : List AV} {name : Str} {id : String} {Q : AV → List AV → Led → Prop} (hm : (a, .list xs) ∈ L) (slot : Slot "list" name id) (hty : typeOf (.builtin id) = pure (.type "method_descriptor"))
    (h : Q (.cst (.builtin id)) [.obj a] L) : GETM C n (.obj a) name L Q :=
  fun A g s v pl r R hv => by
    cases hv
    obtain ⟨vs, m, h1, h2⟩ := led_list R hm
    have hT : s.TypeIs (.ref a) "list" := ⟨_, h1, rfl⟩
    have hd : ∀ b, Value.ref a = .ref b → ∃ o, s.heap.get? b = some o ∧ o.dict = none := fun zz e => by cases e; exact ⟨_, h1, rfl⟩
    with_reducible refine getMethod_builtin (T := "list") hT PySem.F.plainAttrs_list slot hty hd ?_
    exact ⟨g, L, .refl g, R, _, _, .cst _, .cons (.obj _) .nil, h⟩
theorem getm_base {a : Addr} {T : String} {dt : Data} {sl : Array (Option Value)} {name : Str} {id : String} {Q : AV → List AV → Led → Prop} (hk : C.K.lookup a = some ⟨.type T, none, dt, sl⟩) (pa : PlainAttrs T) (slot : Slot T name id)
    (hty : typeOf (.builtin id) = pure (.type "method_descriptor")) (h : Q (.cst (.builtin id)) [.obj a] L) : GETM C n (.obj a) name L Q :=
  fun A g s v pl r R hv => by
    cases hv
    have h1 := R.Xs _ _ hk
    have hT : s.TypeIs (.ref a) T := ⟨_, h1, rfl⟩
    have hd : ∀ b, Value.ref a = .ref b → ∃ o, s.heap.get? b = some o ∧ o.dict = none := fun zz e => by cases e; exact ⟨_, h1, rfl⟩
    with_reducible refine getMethod_builtin (T := T) hT pa slot hty hd ?_
    exact ⟨g, L, .refl g, R, _, _, .cst _, .cons (.obj _) .nil, h⟩

theorem call_append {a : Addr} {xs : List AV} {x : AV} {L' : Led} (hm : (a, .list xs) ∈ L) (hs : LSet a (.list (xs ++ [x])) L L') (hz : xs.length ≤ sizeLine) (h : Q .none L') : CALL C n (.cst (.builtin "list.append")) [.obj a, x] [] L Q :=
  fun A g s vf vs kv r R hf hv hk => by
    cases hf; cases hk
    cases hv.two with
    | mk v1 v2 e q1 q2 =>
        subst e
        cases q1
        obtain ⟨ws, m, h1, h2⟩ := led_list R hm
        have hl : ws.size = xs.length := by rw [h2.length]; simp
        have hT : s.TypeIs (.ref a) "list" := ⟨_, h1, rfl⟩
        change OpL C A (call _ [_, _] []) g s (VK Q)
        with_reducible refine wpAny_call_entry slot_list_append hT entry_list_append ?_ (args_list_append _ _)
        show wpAny _ _ (updateSeq a (·.push _) >>= fun zz => ret .none) _ _ s
        refine wpAny_bind (wpAny_updateSeq h1 rfl (wpAny_pure ⟨.none, rfl, g, L', .refl g, R.set hs (Heap.SameBut.update ..) ⟨_, Heap.get?_update_self _ h1 rfl, ?_⟩ s.toks, .none, .none, h⟩) (by rw [hl]; exact hz))
        exact ⟨_, _, rfl, by simpa using h2.append (.cons q2 .nil)⟩

set_option tactic.hygienic true in
theorem call_range {m : Int} (h : Q (.rng 0 m 1) L) : CALL C n (.cst (.type "range")) [.int m] [] L Q := fun A g s vf vs kv r R hf hv hk => by
  cases hf; cases hk
  cases hv.one with
  | mk v1 e q1 =>
    subst e
    cases q1
    change OpL C A (call _ [_] []) g s (VK Q)
    with_reducible refine call_range_1 ?_
    rename_i t
    obtain ⟨g', k, R', hg⟩ := R.allocG (o := fldsOf "range" #[.int 0 s.toks, .int m t, .int 1 (s.toks + 1)]) rfl (s.toks + 1 + 1)
    exact ⟨g', L, k, R', _, .recd (by decide) hg (.cons (.int _ _) (.cons (.int _ _) (.cons (.int _ _) .nil))), h⟩
theorem call_hex {m : Int} (h0 : m.natAbs < 18446744073709551616) (h : Q (.str (baseText "0x" 16 m)) L) : CALL C n (.cst (.builtin "hex")) [.int m] [] L Q := fun A g s vf vs kv r R hf hv hk => by
  cases hf; cases hk
  cases hv.one with
  | mk v1 e q1 =>
    subst e
    cases q1
    change OpL C A (call _ [_] []) g s (VK Q)
    with_reducible refine P.hex_of_int ?_ (baseText_under (by decide +kernel) (by decide) h0)
    exact ⟨g, L, .refl g, R.toks _, _, .str _ _, h⟩

theorem cmp_eq_str {x y : Str} (h : Q (.bool (x == y)) L) : OP2 C n (compareOp .Eq) (.str x) (.str y) L Q := fun A g s v u r R hv hu => by
  apply hv.eStr2 hu; intro zz zz
  with_reducible refine eq_str ?_
  exact ⟨g, L, .refl g, R, _, .bool _, h⟩
theorem cmp_ne_str {x y : Str} (h : Q (.bool (x != y)) L) : OP2 C n (compareOp .NotEq) (.str x) (.str y) L Q := fun A g s v u r R hv hu => by
  apply hv.eStr2 hu; intro zz zz
  with_reducible refine ne_str ?_
  exact ⟨g, L, .refl g, R, _, .bool _, h⟩
theorem op_add_str {x y : Str} (hz : x.length + y.length ≤ sizeLine) (h : Q (.str (x ++ y)) L) : OP2 C n (binaryOp .Add) (.str x) (.str y) L Q := fun A g s v u r R hv hu => by
  cases hv; cases hu
  with_reducible refine add_str (fun t' tk => ?_) hz
  exact ⟨g, L, .refl g, R.toks _, _, .str _ _, h⟩
end
end Mine
end
section
set_option maxRecDepth 100000
set_option linter.unusedVariables false
namespace Mine
open PySem PySem.Spec PySem.Calls PyProof.Rows PySem.W

noncomputable def BIND (C : Cx) (fd : FuncData) (xs : List AV) (ks : List (Str × AV)) (ρ : Vars) : Prop :=
  ∀ g (s : Shared) vs kv, C.K.In s.heap → VRs g xs vs → VRs g (ks.map (fun zz => zz.2)) kv → ∃ us, BindsTo s fd ⟨vs, (ks.map (fun zz => zz.1)).zip kv⟩ ((ρ.map (fun zz => zz.1)).zip us) ∧ VRs g (ρ.map (fun zz => zz.2)) us

set_option tactic.hygienic true in
theorem cellsFrom_some : ∀ (names : List (Str × NameKind)) (n : Nat) (acc : List (Str × Addr)) (x : Str), ((x, NameKind.cell) ∈ names ∨ (acc.lookup x).isSome = true) → ((cellsFrom n names acc).lookup x).isSome = true
  | [], n, acc, x, h => by
    rcases h with h | h
    · cases h
    · exact h
  | (y, k) :: r, n, acc, x, h => by
    unfold cellsFrom
    split
    · rename_i hk
      refine cellsFrom_some r _ _ x ?_
      rcases h with h | h
      · rcases List.mem_cons.mp h with e | h
        · right; cases e; simp
        · exact .inl h
      · right
        simp only [List.lookup_cons]
        split <;> simp_all
    · rename_i hk
      refine cellsFrom_some r _ _ x ?_
      rcases h with h | h
      · rcases List.mem_cons.mp h with e | h
        · cases e; simp at hk
        · exact .inl h
      · exact .inr h

theorem bindL_none {kindOf : Str → Option NameKind} : ∀ (bs : List (Str × Value)) (m : Str → Option Value) (x : Str), x ∉ bs.map (fun zz => zz.1) → bindL kindOf bs m x = m x
  | [], _, _, _ => rfl
  | (y, v) :: r, m, x, h => by
    simp only [List.map_cons, List.mem_cons, not_or] at h
    unfold bindL
    rw [bindL_none r _ x h.2]
    split <;> simp [h.1]
theorem bindC_none {kindOf : Str → Option NameKind} : ∀ (bs : List (Str × Value)) (m : Str → Option Value) (x : Str), x ∉ bs.map (fun zz => zz.1) → bindC kindOf bs m x = m x
  | [], _, _, _ => rfl
  | (y, v) :: r, m, x, h => by
    simp only [List.map_cons, List.mem_cons, not_or] at h
    unfold bindC
    rw [bindC_none r _ x h.2]
    split <;> simp [h.1]
set_option tactic.hygienic true in
theorem bound_at {kindOf : Str → Option NameKind} {g : Heap} (ρ : Vars) : ∀ (us : List Value) (m cm : Str → Option Value) (x : Str) (av : AV), VRs g (ρ.map (fun zz => zz.2)) us → (ρ.map (fun zz => zz.1)).Nodup → ρ.lookup x = some av →
    ∃ v, VR g av v ∧ (kindOf x = some .local → bindL kindOf ((ρ.map (fun zz => zz.1)).zip us) m x = some v) ∧ (kindOf x ≠ some .local → bindC kindOf ((ρ.map (fun zz => zz.1)).zip us) cm x = some v) := by
  induction ρ with
  | nil => intro _ _ _ _ _ _ _ e; simp at e
  | cons p r ih =>
    obtain ⟨y, w⟩ := p
    intro us m cm x av h hn e
    cases h with
    | cons h1 h2 =>
      rename_i v us
      have hn' := List.nodup_cons.mp hn
      have hlen : r.length = us.length := by have := h2.length; simpa using this
      have hmap : (((r.map (fun zz => zz.1)).zip us).map (fun zz => zz.1)) = r.map (fun zz => zz.1) := by
        rw [List.map_fst_zip]; simp [hlen]
      rw [List.lookup_cons] at e
      by_cases hx : x = y
      · subst hx
        simp at e
        subst e
        refine ⟨v, h1, fun hk => ?_, fun hk => ?_⟩
        · show bindL kindOf ((x, v) :: (r.map (fun zz => zz.1)).zip us) m x = _
          unfold bindL
          rw [bindL_none _ _ _ (by rw [hmap]; exact hn'.1)]
          simp [hk]
        · show bindC kindOf ((x, v) :: (r.map (fun zz => zz.1)).zip us) cm x = _
          unfold bindC
          rw [bindC_none _ _ _ (by rw [hmap]; exact hn'.1)]
          simp [hk]
      · have hb : (x == y) = false := by simpa using hx
        rw [hb] at e
        obtain ⟨v', a1, a2, a3⟩ := ih us (if kindOf y = some .local then fun z => if z = y then some v else m z else m) (if kindOf y = some .local then cm else fun z => if z = y then some v else cm z) x av h2 hn'.2 e
        exact ⟨v', a1, fun hk => a2 hk, fun hk => a3 hk⟩

theorem Room.next {A : Around} {n : Nat} (r : Room A n) (env : Env) : Room (A.deeper env) (n + 1) :=
  ⟨r.handled, by show A.depth + 1 ≤ _; have := r.depth; omega, by show A.units + 3 ≤ _; have := r.units; omega⟩

section
variable {C : Cx} {n : Nat} {L : Led} {Q : AV → Led → Prop}

inductive Dr (Q : AV → Led → Prop) (v : AV) (L' : Led) : Prop
  | mk (L'' : Led) (h : List.Sublist L'' L') (q : Q v L'')
noncomputable abbrev bodyQ (Q : AV → Led → Prop) : XQ := ⟨fun zz L' => Dr Q .none L', fun zz zz => False, fun zz zz => False, Dr Q⟩
noncomputable def parOk (scope : Scope) : List Str → Bool
  | [] => true
  | x :: r => (!r.contains x) && (scope.names.lookup x == some .local || scope.names.lookup x == some .cell) && parOk scope r
theorem parOk_nodup {scope : Scope} : ∀ {l : List Str}, parOk scope l = true → l.Nodup
  | [], _ => List.nodup_nil
  | x :: r, h => by
    simp only [parOk, Bool.and_eq_true] at h
    exact List.nodup_cons.mpr ⟨by simpa using h.1.1, parOk_nodup h.2⟩
theorem parOk_kind {scope : Scope} : ∀ {l : List Str}, parOk scope l = true → ∀ x ∈ l, scope.names.lookup x = some .local ∨ scope.names.lookup x = some .cell
  | x :: r, h, y, hy => by
    simp only [parOk, Bool.and_eq_true, Bool.or_eq_true, beq_iff_eq] at h
    rcases List.mem_cons.mp hy with rfl | hy
    · exact h.1.2
    · exact parOk_kind h.2 y hy

inductive RetOk (P : Value → Shared → Prop) (r : Result) (s' : Shared) : Prop
  | mk (v : Value) (e : r = .ok (.ret v)) (h : P v s')
noncomputable def CALLC (C : Cx) (n : Nat) (f : AV) (xs : List AV) (ks : List (Str × AV)) (L : Led) (Q : AV → Led → Prop) : Prop :=
  ∀ A g s vf vs kv, Room A n → RepL C g L s → VR g f vf → VRs g xs vs → VRs g (ks.map (fun zz => zz.2)) kv →
    codeAny C.M A (.call vf ⟨vs, (ks.map (fun zz => zz.1)).zip kv⟩) (RetOk (P5 (RepL C) g (VK Q))) s
theorem CALLC.call {f : AV} {xs : List AV} {ks : List (Str × AV)} (h : CALLC C n f xs ks L Q) : CALL C n f xs ks L Q := fun A g s vf vs kv r R a b c =>
  wpAny_call (codeAny_mono (h A g s vf vs kv r R a b c) fun r s' h => by obtain ⟨v, e, x⟩ := h; subst e; exact x)
theorem call_def {f : Addr} {name qual : Str} {params : Arguments} {body : List Stmt} {scope : Scope} {dV kV doc pm cdv ct oc : Value} {an od : Option Addr} {osl : Array (Option Value)} {xs : List AV} {ks : List (Str × AV)} {ρ : Vars} {ns : List Str}
    (hf : C.K.lookup f = some ⟨oc, od, .func (fnOf name qual params body scope dV kV doc pm an cdv ct), osl⟩) (hcd : codeIn C.K cdv qual = true)
    (hbind : BIND C (fnOf name qual params body scope dV kV doc pm an cdv ct) xs ks ρ) (hns : ρ.map (fun zz => zz.1) = ns) (hpar : parOk scope ns = true) (hn : n ≤ 190)
    (h : EX C ⟨scope, cdv, n + 1, true, []⟩ ρ L body (bodyQ Q))
    (hco : scope.isCoroutine = false := by rfl) (hgen : scope.isGenerator = false := by rfl) (hk : scope.kind = .function := by rfl) : CALLC C n (.obj f) xs ks L Q := by
  have hnd : (ρ.map (fun zz => zz.1)).Nodup := by rw [hns]; exact parOk_nodup hpar
  have hkind : ∀ x ∈ ρ.map (fun zz => zz.1), scope.names.lookup x = some .local ∨ scope.names.lookup x = some .cell := by rw [hns]; exact parOk_kind hpar
  intro A g s vf vs kv r R hvf hvs hkv
  cases hvf
  obtain ⟨us, hb, hus⟩ := hbind g s vs kv R.Xs hvs hkv
  have ho := R.Xs _ _ hf
  have hlim : s.heap.NoLimit := R.ok.nolimit.keeps (R.base.trans R.sub)
  have hcr : s.heap.CodeRec cdv qual := codeRec_of R.Xs hcd
  have hlenu : ρ.length = us.length := by have := hus.length; simpa using this
  have hmem : ∀ y ∈ (ρ.map (fun zz => zz.1)).zip us, y.1 ∈ ρ.map (fun zz => zz.1) := fun y hy => (List.of_mem_zip hy).1
  have mem_of_look : ∀ {x : Str}, scope.names.lookup x = some NameKind.cell → (x, NameKind.cell) ∈ scope.names := fun e => PySem.mem_of_lookup e
  refine codeAny_call_function (fd := fnOf name qual params body scope dV kV doc pm an cdv ct) (body := body) (by have := r.depth; unfold recursionLimit; omega) ho rfl hco hgen rfl hcr (hb _ _ _ _ ?_)
  refine wpAny_newFunctionEnv_cells hk (fun y hy => ?_) fun env he s1 I => ?_
  · rcases hkind y.1 (hmem y hy) with h1 | h1
    · exact .inl h1
    · exact .inr ⟨h1, cellsFrom_some _ _ _ _ (.inl (mem_of_look h1))⟩
  · refine ⟨hlim.keeps I.toInCall.keep, codeAny_func ?_⟩
    have hsc : env.scope = scope := by rw [he]; rfl
    have hcells : env.cells = cellsFrom (s.heap.objs.size + 1) scope.names [] := by rw [he]; rfl
    have hloc : env.locals = s.heap.objs.size := by rw [he]; rfl
    have hE : EnvIs ⟨scope, cdv, n + 1, true, []⟩ env := ⟨hsc, hk, by rw [he]; rfl, by rw [he]; rfl, by rw [he]; rfl, fun zz => (by rw [he]; exact fun q => nomatch q), fun zz q => nomatch q⟩
    obtain ⟨h1, tk, es1⟩ := I.toInCall.same
    have keep := I.toInCall.keep
    have frL : ∀ a ∈ ads (C.all L), a < s.heap.objs.size := fun a ha => by
      obtain ⟨p, hp, rfl⟩ := List.mem_map.mp ha
      obtain ⟨o, ho, _⟩ := R.led p hp
      exact Heap.lt_size ho
    let own : List Addr := env.locals :: env.cells.filterMap fun p => env.cells.lookup p.1
    have ownIs : ∀ a ∈ own, a = env.locals ∨ ∃ x, env.cells.lookup x = some a := fun a ha => by
      rcases List.mem_cons.mp ha with h | h
      · exact .inl h
      · obtain ⟨p, _, hp⟩ := List.mem_filterMap.mp h
        exact .inr ⟨p.1, hp⟩
    have inOwn : ∀ {x : Str} {c : Addr}, env.cells.lookup x = some c → c ∈ own := fun {x c} e => List.mem_cons_of_mem _ (List.mem_filterMap.mpr ⟨(x, c), PySem.mem_of_lookup e, e⟩)
    have ownGe : ∀ a ∈ own, s.heap.objs.size ≤ a := fun a ha => by
      rcases ownIs a ha with h | ⟨x, h⟩
      · rw [h, hloc]; exact Nat.le_refl _
      · have := I.above x a (PySem.mem_of_lookup h)
        exact Nat.le_of_lt (Nat.lt_of_le_of_lt (Nat.le_of_eq hloc.symm) this)
    have W := R.toWide
    have Fo : FrameOk C env own ρ (hideAll s.heap (ads (C.all L))) L s1 := by
      refine ⟨?_, fun a ha => ⟨?_, fun hl => ?_⟩, List.mem_cons_self, fun a ha => ?_, ⟨_, I.toInCall.ns, fun x av e => ?_⟩, fun x zz hx => ?_, fun x y c e1 e2 => ?_⟩
      · have := W.heapAll (h' := s1.heap) keep tk
        rw [es1] at this ⊢
        exact this
      · cases q : (hideAll s.heap (ads (C.all L))).get? a with
        | none => rfl
        | some o => exact absurd (Heap.lt_size (of_hideAll _ q)) (Nat.not_lt.mpr (ownGe a ha))
      · exact absurd (frL a hl) (Nat.not_lt.mpr (ownGe a ha))
      · rcases ownIs a ha with h | ⟨x, h⟩
        · subst h
          obtain ⟨o, es, ep, q1, q2, _⟩ := I.toInCall.ns
          exact ⟨o, q1, .inl ⟨es, ep, q2⟩⟩
        · obtain ⟨o, q1, q2⟩ := I.cell x a h
          exact ⟨o, q1, .inr (.inl ⟨_, q2⟩)⟩
      · obtain ⟨v, hv, b1, b2⟩ := bound_at (kindOf := env.kindOf) ρ us (fun zz => none) (fun zz => none) x av hus hnd e
        refine ⟨v, ?_, hv.mono R.wide⟩
        have hxm : x ∈ ρ.map (fun zz => zz.1) := List.mem_map.mpr ⟨(x, av), PySem.mem_of_lookup e, rfl⟩
        rcases hkind x hxm with hl | hl
        · have hl' : env.kindOf x = some .local := (hE.kindOf x).trans hl
          exact .inl ⟨hl', b1 hl'⟩
        · have hl' : env.kindOf x = some .cell := (hE.kindOf x).trans hl
          obtain ⟨c, hc⟩ := Option.isSome_iff_exists.mp (hcells ▸ cellsFrom_some scope.names (s.heap.objs.size + 1) [] x (.inl (mem_of_look hl)) : (env.cells.lookup x).isSome = true)
          refine .inr (.inl ⟨hl', c, hc, inOwn hc, ?_⟩)
          have := I.cell x c hc
          rwa [b2 (by rw [hl']; decide)] at this
      · have hl : scope.names.lookup x = some .cell := (hE.kindOf x).symm.trans hx
        obtain ⟨c, hc⟩ := Option.isSome_iff_exists.mp (hcells ▸ cellsFrom_some scope.names (s.heap.objs.size + 1) [] x (.inl (mem_of_look hl)) : (env.cells.lookup x).isSome = true)
        exact ⟨c, _, hc, inOwn hc, I.cell x c hc⟩
      · exact name_of_addr I.apart (PySem.mem_of_lookup e1) (PySem.mem_of_lookup e2)
    refine wpAny_mono (h (A.deeper env) env own _ s1 (r.next env) hE Fo) (fun fl s2 hx => ?_) fun zz zz f => f.elim
    cases fl with
    | next => obtain ⟨g', ρ', L', k, Fo', q⟩ := hx; obtain ⟨L'', sl, q⟩ := q; exact ⟨_, rfl, g', L'', R.wide.trans k, Fo'.rep.less sl, _, .none, q⟩
    | brk => obtain ⟨g', ρ', L', k, Fo', q⟩ := hx; exact q.elim
    | cont => obtain ⟨g', ρ', L', k, Fo', q⟩ := hx; exact q.elim
    | ret v => obtain ⟨g', ρ', L', k, Fo', av, q1, q2⟩ := hx; obtain ⟨L'', sl, q⟩ := q2; exact ⟨_, rfl, g', L'', R.wide.trans k, Fo'.rep.less sl, av, q1, q⟩

theorem VRs.cons_inv {g : Heap} {x : AV} {xs : List AV} {vs : List Value} (h : VRs g (x :: xs) vs) : VCons g x xs vs := h.isCons
theorem bind0 {fd : FuncData} (h : bindArgs fd ⟨[], []⟩ = pure []) : BIND C fd [] [] [] := fun g s vs kv X hv hk => by
  cases hv; cases hk
  exact ⟨[], .of_eq h, .nil⟩
theorem bind1 {fd : FuncData} {a : AV} {x : Str} (h : ∀ v, bindArgs fd ⟨[v], []⟩ = pure [(x, v)]) : BIND C fd [a] [] [(x, a)] := fun g s vs kv X hv hk => by
  cases hk
  apply hv.eOne; intro v h1
  exact ⟨[v], .of_eq (h v), .cons h1 .nil⟩
theorem bind2 {fd : FuncData} {a b : AV} {x y : Str} (h : ∀ v u, bindArgs fd ⟨[v, u], []⟩ = pure [(x, v), (y, u)]) : BIND C fd [a, b] [] [(x, a), (y, b)] := fun g s vs kv X hv hk => by
  cases hk
  apply hv.eTwo; intro v u h1 h2
  exact ⟨[v, u], .of_eq (h v u), .cons h1 (.cons h2 .nil)⟩
theorem bind3 {fd : FuncData} {a b c : AV} {x y z : Str} (h : ∀ v u t, bindArgs fd ⟨[v, u, t], []⟩ = pure [(x, v), (y, u), (z, t)]) : BIND C fd [a, b, c] [] [(x, a), (y, b), (z, c)] := fun g s vs kv X hv hk => by
  cases hk
  apply hv.eThree; intro v u t h1 h2 h3
  exact ⟨[v, u, t], .of_eq (h v u t), .cons h1 (.cons h2 (.cons h3 .nil))⟩
end
end Mine
end
section
set_option maxRecDepth 100000
set_option linter.unusedVariables false
namespace Mine
open PySem PySem.Spec PySem.Calls PyProof.Rows PySem.W
section
variable {C : Cx} {n : Nat} {L : Led} {Q : AV → Led → Prop}

set_option tactic.hygienic true in
theorem call_get_int {a : Addr} {es : Array DictEntry} {ep : Nat} {k : Int} {dflt : AV} {r : AV} (hk : C.K.lookup a = some ⟨.type "dict", none, .dict es ep, #[]⟩) (hs : (a == sysModules) = false)
    (hkeys : KeysOf C.IK es) (hr : ∀ g v, VR g dflt v → VR g r ((findBy Value.isInt es k).getD v)) (h : Q r L) : CALL C n (.cst (.builtin "dict.get")) [.obj a, .int k, dflt] [] L Q := fun A g s vf vs kv r0 R hf hv hk0 => by
  cases hf; cases hk0
  cases hv.three with
  | mk v1 v2 v3 e q1 q2 q3 =>
        subst e
        obtain rfl := q1.isObj
        obtain ⟨t, rfl⟩ := q2.isInt
        have h1 := R.Xs _ _ hk
        have hm : s.heap.MapOf C.IK a (fun k => findBy Value.isInt es k) := ⟨_, es, ep, h1, ⟨rfl, rfl, rfl⟩, rfl, hkeys, fun zz => rfl⟩
        have hb : C.IK.is k (.int k t) = true := by simp [intKind, Value.isInt]
        change OpL C A (call _ [_, _, _] []) g s (VK Q)
        refine call_meetsIn F.slot_dict_get hm.typeIs F.entry_dict_get (F.args_dict_get_3 _ _ _) (meets_dict_get_default C.IK a hb hs v3) ?_
        exact ⟨_, hm, g, L, .refl g, R.toks _, r, hr _ _ q3, h⟩

set_option tactic.hygienic true in
theorem VRs.strs {g : Heap} : ∀ {xs : List Str} {vs : List Value}, VRs g (xs.map .str) vs → ∃ l : List (Str × Tok), vs = strValues l ∧ l.map (fun zz => zz.1) = xs
  | [], _, .nil => ⟨[], rfl, rfl⟩
  | x :: xs, _, .cons h t => by
    obtain ⟨l, e1, e2⟩ := t.strs
    cases h
    rename_i tk
    exact ⟨(x, tk) :: l, by rw [e1]; rfl, by rw [← e2]; rfl⟩
theorem call_join {sep : Str} {a : Addr} {xs : List Str} (hm : (a, .list (xs.map .str)) ∈ L) (hok : JoinOk sep xs = true) (h : Q (.str (Txt.join sep xs)) L) : CALL C n (.cst (.builtin "str.join")) [.str sep, .obj a] [] L Q :=
  fun A g s vf vs kv r R hf hv hk => by
    cases hf; cases hk
    cases hv.two with
    | mk v1 v2 e q1 q2 =>
        subst e
        cases q1; cases q2
        obtain ⟨ws, m, h1, h2⟩ := led_list R hm
        obtain ⟨l, e1, e2⟩ := h2.strs
        have hl : s.heap.IsList a (strValues l).toArray := by rw [← e1]; exact isL h1
        change OpL C A (call _ [_, _] []) g s (VK Q)
        with_reducible refine SC.join hl e2 hok fun t' k => ?_
        exact ⟨g, L, .refl g, R.toks _, _, .str _ _, h⟩
end
end Mine
end
section
set_option maxRecDepth 100000
set_option linter.unusedVariables false
namespace Mine
open PySem PySem.Spec PySem.Calls PyProof.Rows PySem.W
theorem ite_of {c P Q : Prop} [Decidable c] (h1 : c → P) (h2 : ¬ c → Q) : if c then P else Q := by
  by_cases h : c
  · rw [if_pos h]; exact h1 h
  · rw [if_neg h]; exact h2 h
noncomputable def SubV (ρ' ρ : Vars) : Prop := ∀ x av, ρ'.lookup x = some av → ρ.lookup x = some av
theorem SubV.refl (ρ : Vars) : SubV ρ ρ := fun zz zz e => e
theorem SubV.nil {ρ : Vars} : SubV [] ρ := fun zz zz e => by simp at e
theorem SubV.cons {ρ r : Vars} {x : Str} {av : AV} (h : ρ.lookup x = some av) (k : SubV r ρ) : SubV ((x, av) :: r) ρ := fun y aw e => by
  rw [List.lookup_cons] at e
  cases q : y == x with
  | true =>
    rw [q] at e
    have := eq_of_beq q
    subst this
    cases e
    exact h
  | false => rw [q] at e; exact k y aw e
section
variable {C : Cx} {F : SF} {ρ ρ' : Vars} {L L' : Led}
theorem FrameOk.weak {env : Env} {own : List Addr} {g : Heap} {s : Shared} (Fo : FrameOk C env own ρ g L s) (h : SubV ρ' ρ) (k : List.Sublist L' L) : FrameOk C env own ρ' g L' s := by
  refine ⟨Fo.rep.less k, fun a ha => ⟨(Fo.ownFree a ha).1, fun hm => (Fo.ownFree a ha).2 (((k.append (List.Sublist.refl C.pins)).map _).subset hm)⟩, Fo.loc, Fo.ownDull, ?_, Fo.cells, Fo.apart⟩
  obtain ⟨m, hm, hv⟩ := Fo.ns
  exact ⟨m, hm, fun x av e => hv x av (h x av e)⟩
inductive Wk (P : Vars → Led → Prop) (ρ : Vars) (L : Led) : Prop
  | mk (ρ' : Vars) (L' : Led) (k1 : SubV ρ' ρ) (k2 : List.Sublist L' L) (h : P ρ' L')
theorem Wk.post {env : Env} {own : List Addr} {g : Heap} {s : Shared} {P P' : Vars → Led → Prop} (h : AsPost C env own g P s) (k : ∀ ρ L, P ρ L → Wk P' ρ L) : AsPost C env own g P' s :=
  let ⟨g', ρ', L', k1, Fo, h⟩ := h; let ⟨ρ'', L'', q1, q2, h⟩ := k _ _ h; ⟨g', ρ'', L'', k1, Fo.weak q1 q2, h⟩
theorem EX.weak {sts : List Stmt} {X : XQ} (h : EX C F ρ' L' sts X) (k : SubV ρ' ρ) (kl : List.Sublist L' L) : EX C F ρ L sts X := fun A env own g s r0 hE Fo => h A env own g s r0 hE (Fo.weak k kl)
theorem ASG.weak {t : Expr} {av : AV} {Q : Vars → Led → Prop} (h : ASG C F ρ' L' t av Q) (k : SubV ρ' ρ) (kl : List.Sublist L' L) : ASG C F ρ L t av Q := fun A env own g s v r0 hE Fo hv => h A env own g s v r0 hE (Fo.weak k kl) hv
theorem Wk.same {P : Vars → Led → Prop} {ρ : Vars} {L : Led} (h : P ρ L) : Wk P ρ L := ⟨ρ, L, .refl _, List.Sublist.refl _, h⟩
theorem ex_cut {st : Stmt} {sts : List Stmt} {X : XQ} (P : Vars → Led → Prop) (h : EX1 C F ρ L st ⟨Wk P, X.bk, X.ct, X.rt⟩) (k : ∀ ρ L, P ρ L → EX C F ρ L sts X) : EX C F ρ L (st :: sts) X :=
  ex_cons fun A env own g s r0 hE Fo => wpAny_mono (h A env own g s r0 hE Fo) (fun f s' hf => by
    cases f with
    | next => exact Wk.post hf fun ρ L h => let ⟨ρ', L', k1, k2, h⟩ := h; .same ((k ρ' L' h).weak k1 k2)
    | _ => exact hf) fun zz zz f => f
theorem LOOP.inv {target : Expr} {a : AV} {body orelse : List Stmt} {xs : List AV} {H : Led → Prop} {X : XQ} (I : Nat → Vars → Led → Prop) (hI : ITERABLE C F.n target a L xs H) (h0 : Wk (I 0) ρ L) (hH : ∀ i ρ L L', I i ρ L → List.Sublist L L' → H L')
    (turn : ∀ i x ρ L, xs[i]? = some x → I i ρ L → ASG C F ρ L target x fun ρ' L' => EX C F ρ' L' body ⟨Wk (I (i + 1)), X.nx, Wk (I (i + 1)), X.rt⟩) (done : ∀ ρ L, I xs.length ρ L → EX C F ρ L orelse X) :
    LOOP C F ρ L target a body orelse X :=
  .of (fun i => Wk (I i)) hI h0 (fun i ρ L ⟨ρ', L', _, k2, h⟩ => hH i ρ' L' L h k2) (fun i x ρ L hx ⟨ρ', L', k1, k2, h⟩ => (turn i x ρ' L' hx h).weak k1 k2) fun ρ L ⟨ρ', L', k1, k2, h⟩ => (done ρ' L' h).weak k1 k2
theorem ev_gref {Q : AV → Led → Prop} {x : Str} {pos : Pos} {a : Addr} (hx : F.scope.names.lookup x = some .globalImplicit) (e : nsIn C.K mainGlobals x = some (some (.ref a))) (h : Q (.obj a) L) (hd : (x == ("__debug__" : Str)) = false) :
    EV C F ρ L (.Name x pos) Q := ev_glob hx e h hd
structure BLT (C : Cx) (x : Str) (v : Value) : Prop where
  no : nsIn C.K mainGlobals x = some none
  is : bootBuiltins x = some v
  plain : ∀ a, v ≠ .ref a
  other : x ≠ Str.ofString "__name__"
theorem ev_blt {Q : AV → Led → Prop} {x : Str} {pos : Pos} {v : Value} (hx : F.scope.names.lookup x = some .globalImplicit) (b : BLT C x v) (h : Q (.cst v) L) (hd : (x == ("__debug__" : Str)) = false) :
    EV C F ρ L (.Name x pos) Q := ev_bltn hx b.no b.is b.other (by
      have := b.plain
      cases v <;> first | exact h | exact absurd rfl (this _)) hd
theorem CALL.norm {Q : AV → Led → Prop} {n n' : Nat} {f : AV} {xs xs' : List AV} {ks ks' : List (Str × AV)} (h1 : n = n') (h2 : xs = xs') (h3 : ks = ks') (h : CALL C n' f xs' ks' L Q) : CALL C n f xs ks L Q := by subst h1 h2 h3; exact h
theorem GETM.norm {Q : AV → List AV → Led → Prop} {n n' : Nat} {a : AV} {x : Str} (h1 : n = n') (h : GETM C n' a x L Q) : GETM C n a x L Q := by subst h1; exact h
theorem nle {n a b : Nat} (h : n ≤ a) (k : Nat.ble (a + 1) b = true) : n + 1 ≤ b := Nat.le_trans (Nat.succ_le_succ h) (Nat.le_of_ble_eq_true k)
noncomputable def okName (x : Str) : Bool := (x == ("__debug__" : Str)) == false && (x == ("__classdict__" : Str)) == false
inductive SimpleL (ρ : Vars) : List Expr → List AV → Prop
  | nil : SimpleL ρ [] []
  | name {x : Str} {p : Pos} {v : AV} {es : List Expr} {xs : List AV} : ρ.lookup x = some v → okName x = true → SimpleL ρ es xs → SimpleL ρ (.Name x p :: es) (v :: xs)
  | int {i : Int} {k : Nat} {p : Pos} {es : List Expr} {xs : List AV} : SimpleL ρ es xs → SimpleL ρ (.Constant (.int i) k p :: es) (.int i :: xs)
  | str {x : Str} {k : Nat} {p : Pos} {es : List Expr} {xs : List AV} : SimpleL ρ es xs → SimpleL ρ (.Constant (.str x) k p :: es) (.str x :: xs)
  | bool {b : Bool} {k : Nat} {p : Pos} {es : List Expr} {xs : List AV} : SimpleL ρ es xs → SimpleL ρ (.Constant (.bool b) k p :: es) (.bool b :: xs)
  | none {k : Nat} {p : Pos} {es : List Expr} {xs : List AV} : SimpleL ρ es xs → SimpleL ρ (.Constant .none k p :: es) (.none :: xs)
theorem okName_is {x : Str} (h : okName x = true) : (x == ("__debug__" : Str)) = false ∧ (x == ("__classdict__" : Str)) = false := by
  unfold okName at h
  simpa using h
theorem evl_simple {es : List Expr} {xs : List AV} (h : SimpleL ρ es xs) : ∀ {Q : List AV → Led → Prop}, Q xs L → EVL C F ρ L es Q := by
  induction h with
  | nil => exact fun q => evl_nil q
  | name h1 h2 _ ih => exact fun q => evl_cons (ev_name h1 (ih q) (okName_is h2).1 (okName_is h2).2) fun zz => rfl
  | int _ ih => exact fun q => evl_cons (ev_int (ih q)) fun zz => rfl
  | str _ ih => exact fun q => evl_cons (ev_str (ih q)) fun zz => rfl
  | bool _ ih => exact fun q => evl_cons (ev_bool (ih q)) fun zz => rfl
  | none _ ih => exact fun q => evl_cons (ev_none (ih q)) fun zz => rfl
theorem args0 {Q : AV → Led → Prop} {n n' : Nat} {f : AV} {es : List Expr} {xs : List AV} (h : SimpleL ρ es xs) (e : n = n') (hc : CALL C n' f xs [] L Q) :
    EVL C F ρ L es fun xs L2 => EVK C F ρ L2 [] fun kv L3 => CALL C n f xs ((([] : List Keyword).filterMap (·.arg)).zip kv) L3 Q := evl_simple h (evk_nil (e ▸ hc))
theorem argsM {Q : AV → Led → Prop} {n n' : Nat} {f : AV} {first ys : List AV} {es : List Expr} {xs : List AV} (h : SimpleL ρ es xs) (e : n = n') (e2 : first ++ xs = ys) (hc : CALL C n' f ys [] L Q) :
    EVL C F ρ L es fun xs L2 => EVK C F ρ L2 [] fun kv L3 => CALL C n f (first ++ xs) ((([] : List Keyword).filterMap (·.arg)).zip kv) L3 Q := evl_simple h (evk_nil (e ▸ e2 ▸ hc))
theorem ev_CallN {Q : AV → Led → Prop} {fn : Expr} {pos : Pos} {n' : Nat} {f : AV} {es : List Expr} {xs : List AV} (hn : ∀ {Q : AV → Led → Prop}, Q f L → EV C F ρ L fn Q) (hk : KEEP C f) (h : SimpleL ρ es xs) (e : F.n = n') (hc : CALL C n' f xs [] L Q)
    (hev : ∀ env, eval (.Call fn es [] pos) env = (do callWith pos (← eval fn env) [] (backTo pos (starEach es env)) (backToKw pos (keywordEach [] env))))
    (hstar : ∀ env, ((starEach es env).any (fun zz => zz.1) || (keywordEach [] env).any (·.1.isNone)) = false) : EV C F ρ L (.Call fn es [] pos) Q :=
  ev_Call (hn ⟨hk, args0 h e hc⟩) hev hstar (fun zz => rfl) fun zz => rfl
theorem ev_MethN {Q : AV → Led → Prop} {o : Expr} {name : Str} {apos pos : Pos} {n' : Nat} {a f : AV} {first ys : List AV} {es : List Expr} {xs : List AV} (ho : ∀ {Q : AV → Led → Prop}, Q a L → EV C F ρ L o Q) (hg : ∀ {Q : AV → List AV → Led → Prop}, Q f first L → GETM C n' a name L Q) (hk : KEEP C f) (h : SimpleL ρ es xs)
    (e : F.n = n') (e2 : first ++ xs = ys) (hc : CALL C n' f ys [] L Q)
    (hb : ∀ env whole, attributeBase o name env whole = whole) (hline : (apos.endLine == pos.line) = true) (hfew : ∀ env, methodCallForm (es.length + ([] : List Keyword).length) (backTo pos (starEach es env)) (backToKw pos (keywordEach [] env)) = true)
    (hstar : ∀ env, ((starEach es env).any (fun zz => zz.1) || (keywordEach [] env).any (·.1.isNone)) = false) : EV C F ρ L (.Call (.Attribute o name apos) es [] pos) Q :=
  ev_Method (ho (e ▸ hg (Q := fun f first L2 => KEEP C f ∧ EVL C F ρ L2 es fun xs L3 => EVK C F ρ L3 [] fun kv L4 => CALL C F.n f (first ++ xs) ((([] : List Keyword).filterMap (·.arg)).zip kv) L4 Q) ⟨hk, argsM h e e2 hc⟩)) hb hline hfew hstar (fun zz => rfl) fun zz => rfl
end
end Mine
end
section
set_option maxRecDepth 100000
set_option linter.unusedVariables false
namespace Mine
open PySem PySem.Spec PySem.Calls PyProof.Rows PySem.W

noncomputable def compTests (ifs : List Expr) (env : Env) : Sem Bool := forIn ifs true fun c r => if r = true then do let ok ← isTrue c env (eval c env); pure (ForInStep.yield ok) else pure (ForInStep.yield r)
noncomputable def compTurnOf (e : Expr) (inner : Sem PySem.Fin → Sem PySem.Fin) (d : Nat) (it acc : Value) (env : Env) (t iter : Expr) (ifs : List Expr) : Sem PySem.Fin :=
  standAt iter.pos >>= fun zz => pyNext it >>= fun r => match r with
    | none => pure (.done .next)
    | some v => letOwnedTupleGo t it v >>= fun zz => assign t env v >>= fun zz => compTests ifs env >>= fun ok =>
      if ok = true then inner (again (.compLoop e d it acc env)) else again (.compLoop e d it acc env)
noncomputable def listEmit (elt : Expr) (acc : Value) (env : Env) : Sem Unit := do let _ ← call (.builtin "list.append") [acc, ← eval elt env]
noncomputable def dictEmit (k v : Expr) (d : Addr) (env : Env) : Sem Unit := do
  let kv ← eval k env
  let vv ← holding [kv] (eval v env)
  standAt { k.pos with endLine := v.pos.endLine, endCol := v.pos.endCol }
  holding [kv, vv] (dictSet d kv vv)
noncomputable def nestIn (e iter2 : Expr) (acc : Value) (env : Env) (k : Sem PySem.Fin) : Sem PySem.Fin :=
  eval iter2 env >>= fun x => standAt iter2.pos >>= fun zz => foldedSetIterable iter2 env x >>= fun x => holding [x] (pyIter x) >>= fun i => runOwn (.compStart e 1 i acc env) env >>= fun zz => k
theorem turn_list1 {elt : Expr} {scope : Scope} {pos : Pos} {it acc : Value} {env : Env} {t iter : Expr} {ifs : List Expr} :
    compTurn (.ListComp elt [⟨t, iter, ifs, 0⟩] scope pos) 0 it acc env = compTurnOf (.ListComp elt [⟨t, iter, ifs, 0⟩] scope pos) (fun k => listEmit elt acc env >>= fun zz => k) 0 it acc env t iter ifs := rfl
theorem turn_dict1 {k v : Expr} {scope : Scope} {pos : Pos} {it : Value} {D : Addr} {env : Env} {t iter : Expr} {ifs : List Expr} :
    compTurn (.DictComp k v [⟨t, iter, ifs, 0⟩] scope pos) 0 it (.ref D) env = compTurnOf (.DictComp k v [⟨t, iter, ifs, 0⟩] scope pos) (fun z => dictEmit k v D env >>= fun zz => z) 0 it (.ref D) env t iter ifs := rfl
theorem turn_list2a {elt : Expr} {scope : Scope} {pos : Pos} {it acc : Value} {env : Env} {t iter t2 iter2 : Expr} {ifs ifs2 : List Expr} :
    compTurn (.ListComp elt [⟨t, iter, ifs, 0⟩, ⟨t2, iter2, ifs2, 0⟩] scope pos) 0 it acc env =
      compTurnOf (.ListComp elt [⟨t, iter, ifs, 0⟩, ⟨t2, iter2, ifs2, 0⟩] scope pos) (nestIn (.ListComp elt [⟨t, iter, ifs, 0⟩, ⟨t2, iter2, ifs2, 0⟩] scope pos) iter2 acc env) 0 it acc env t iter ifs := rfl
theorem turn_list2b {elt : Expr} {scope : Scope} {pos : Pos} {it acc : Value} {env : Env} {t iter t2 iter2 : Expr} {ifs ifs2 : List Expr} :
    compTurn (.ListComp elt [⟨t, iter, ifs, 0⟩, ⟨t2, iter2, ifs2, 0⟩] scope pos) 1 it acc env =
      compTurnOf (.ListComp elt [⟨t, iter, ifs, 0⟩, ⟨t2, iter2, ifs2, 0⟩] scope pos) (fun k => listEmit elt acc env >>= fun zz => k) 1 it acc env t2 iter2 ifs2 := rfl

noncomputable abbrev Cx.pn (C : Cx) (P : Led) : Cx := { C with pins := P }
theorem Cx.Ok.pn {C : Cx} (h : C.Ok) (P : Led) : (C.pn P).Ok := ⟨h.X, h.g, h.b, h.nolimit, h.builtins⟩
theorem Cx.Ok.unpn {C : Cx} {P : Led} (h : (C.pn P).Ok) : C.Ok := ⟨h.X, h.g, h.b, h.nolimit, h.builtins⟩
theorem OR.pn {C : Cx} {P P' : Led} {g : Heap} : ∀ {a : AO} {o : Obj}, OR (C.pn P) g a o → OR (C.pn P') g a o
  | .list _, _, h => h
  | .dict _, _, h => h
  | .sset _, _, h => h
  | .iset _, _, h => h
  | .inst _ _, _, h => h
  | .raw _, _, h => h
  | .gen _ _, _, h => h
  | .fn _, _, h => h
  | .tab _, _, h => h
theorem RepL.unpin {C : Cx} {P P' : Led} {L : Led} {g : Heap} {s : Shared} (R : RepL (C.pn P) g L s) (S0 : List.Sublist P' P) : RepL (C.pn P') g L s :=
  have S : List.Sublist ((C.pn P').all L) ((C.pn P).all L) := (List.Sublist.refl _).append S0
  ⟨R.ok.unpn.pn P', R.base, R.sub, (S.map _).nodup R.nd, fun a h => R.free a ((S.map _).subset h), fun p hp => let ⟨o, h1, h2⟩ := R.led p (S.subset hp); ⟨o, h1, h2.pn⟩, R.os, R.gens.sub (S.filterMap _)⟩

section
variable {C : Cx} {env : Env} {own : List Addr} {ρ : Vars} {L : Led} {g : Heap} {s : Shared}
theorem FrameOk.repin {D : Addr} {o o2 : Obj} {R : Led} {vs : Data} {h' : Heap} {t : Nat} (Fo : FrameOk (C.pn ((D, .raw o) :: R)) env own ρ g L s) (hd : ∀ v, o.data ≠ .cell v) (hs : Heap.SameBut D s.heap h') (ho : h'.get? D = some o2) :
    FrameOk (C.pn ((D, .raw o2) :: R)) env own ρ g L { s with heap := h', toks := t } := by
  have hm : ∀ (x : AO), (D, x) ∈ (C.pn ((D, x) :: R)).all L := fun x => Cx.pinAll (C := C.pn ((D, x) :: R)) List.mem_cons_self
  have hDg : g.get? D = none := Fo.rep.free D (List.mem_map_of_mem (f := (fun zz => zz.1)) (hm (.raw o)))
  have hDown : D ∉ own := fun h => (Fo.ownFree D h).2 (List.mem_map_of_mem (f := (fun zz => zz.1)) (hm (.raw o)))
  have kg : Le g h' := fun b ob e => (hs.2 b fun q => by rw [q, hDg] at e; cases e).trans (Fo.rep.sub b ob e)
  have eads : ads ((C.pn ((D, .raw o2) :: R)).all L) = ads ((C.pn ((D, .raw o) :: R)).all L) := by simp [Cx.all, Mine.ads]
  have hnd := Fo.rep.nd
  have hsplit : ads ((C.pn ((D, .raw o) :: R)).all L) = ads L ++ D :: ads R := by simp [Cx.all, Mine.ads]
  have hDL : D ∉ ads L := fun h => by
    rw [hsplit] at hnd
    exact (List.nodup_append.mp hnd).2.2 D h D List.mem_cons_self rfl
  have hDR : D ∉ ads R := fun h => by
    rw [hsplit] at hnd
    exact (List.nodup_cons.mp (List.nodup_append.mp hnd).2.1).1 h
  have keepLed : ∀ p ∈ L ++ R, At (C.pn ((D, .raw o) :: R)) g h' p.1 p.2 := fun p hp => by
    have hp' : p ∈ (C.pn ((D, .raw o) :: R)).all L := by
      rcases List.mem_append.mp hp with h | h
      · exact Cx.inAll h
      · exact Cx.pinAll (C := C.pn ((D, .raw o) :: R)) (List.mem_cons_of_mem _ h)
    obtain ⟨ob, e1, e2⟩ := Fo.rep.led p hp'
    refine ⟨ob, (hs.2 _ fun q => ?_).trans e1, e2⟩
    rcases List.mem_append.mp hp with h | h
    · exact hDL (q ▸ List.mem_map_of_mem (f := (fun zz => zz.1)) h)
    · exact hDR (q ▸ List.mem_map_of_mem (f := (fun zz => zz.1)) h)
  refine ⟨⟨Fo.rep.ok.unpn.pn _, Fo.rep.base, kg, eads ▸ hnd, fun a h => Fo.rep.free a (eads ▸ h), fun p hp => ?_, Fo.rep.os, Fo.rep.gens.sub (by show List.Sublist (genEs (L ++ (D, .raw o2) :: R)) (genEs (L ++ (D, .raw o) :: R)); rw [genEs_append, genEs_append, genEs_cons rfl, genEs_cons rfl]; exact List.Sublist.refl _)⟩, fun a ha => ⟨(Fo.ownFree a ha).1, fun h => (Fo.ownFree a ha).2 (eads ▸ h)⟩, Fo.loc, fun a ha => ?_, ?_, fun x hfn hx => ?_, Fo.apart⟩
  · rcases List.mem_append.mp hp with h | h
    · obtain ⟨ob, e1, e2⟩ := keepLed p (List.mem_append_left _ h)
      exact ⟨ob, e1, e2.pn⟩
    · rcases List.mem_cons.mp h with rfl | h
      · exact ⟨o2, ho, rfl⟩
      · obtain ⟨ob, e1, e2⟩ := keepLed p (List.mem_append_right _ h)
        exact ⟨ob, e1, e2.pn⟩
  · obtain ⟨ob, e, d⟩ := Fo.ownDull a ha
    exact ⟨ob, (hs.2 a fun q => hDown (q ▸ ha)).trans e, d⟩
  · obtain ⟨m, hm, hv⟩ := Fo.ns
    refine ⟨m, hm.at_ fun ob e => (hs.2 _ fun q => hDown (q ▸ Fo.loc)).trans e, fun x av e => ?_⟩
    obtain ⟨v, hx, hr⟩ := hv x av e
    refine ⟨v, ?_, hr⟩
    rcases hx with h | ⟨h, c, c1, c2, ob, c3, c4⟩ | h | ⟨h, c, ob, c1, c2, c3⟩
    · exact .inl h
    · exact .inr (.inl ⟨h, c, c1, c2, ob, (hs.2 c fun q => hDown (q ▸ c2)).trans c3, c4⟩)
    · exact .inr (.inr (.inl h))
    · refine .inr (.inr (.inr ⟨h, c, ob, c1, ?_, c3⟩))
      rcases List.mem_cons.mp c2 with e | e
      · cases e; exact absurd c3 (hd _)
      · exact List.mem_cons_of_mem _ e
  · obtain ⟨c, v, c1, c2, ob, c3, c4⟩ := Fo.cells x hfn hx
    exact ⟨c, v, c1, c2, ob, (hs.2 c fun q => hDown (q ▸ c2)).trans c3, c4⟩
end

noncomputable def NC (o : Obj) : Prop := (∀ v, o.data ≠ .cell v) ∧ o.cls ≠ .type "generator"
theorem ne_gen {c : String} (h : c ≠ "generator") : Value.type c ≠ .type "generator" := fun e => h (Value.type.inj e)
theorem NC.genE {C : Cx} {g : Heap} {ao : AO} {o : Obj} (h : NC o) (k : OR C g ao o) : ao.genE = none := by
  cases ao <;> first | rfl | exact absurd k.1 h.2
inductive INS (C : Cx) (R : Led) (cenv : Env) (own : List Addr) (D : Addr) (ao : AO) (ρ : Vars) (L : Led) (g0 : Heap) (s : Shared) : Prop
  | mk (g' : Heap) (o : Obj) (k : Le g0 g') (h : OR C g' ao o) (nc : NC o) (Fo : FrameOk (C.pn ((D, .raw o) :: R)) cenv own ρ g' L s)
inductive EmPost (C : Cx) (R : Led) (cenv : Env) (own : List Addr) (D : Addr) (Post : AO → Led → Prop) (ρ : Vars) (g0 : Heap) (s : Shared) : Prop
  | mk (ao : AO) (L : Led) (p : Post ao L) (i : INS C R cenv own D ao ρ L g0 s)
noncomputable def EMIT (C : Cx) (F : SF) (mid : Env → Addr → Sem Unit) (ρ : Vars) (L : Led) (ao : AO) (Post : AO → Led → Prop) : Prop :=
  ∀ A cenv own D R g0 s, Room A F.n → EnvIs F cenv → INS C R cenv own D ao ρ L g0 s → wpAny C.M A (mid cenv D) (fun zz s' => EmPost C R cenv own D Post ρ g0 s') Never s
noncomputable def TESTS (C : Cx) (F : SF) (ρ : Vars) (L : Led) (ifs : List Expr) (Q : Bool → Led → Prop) : Prop :=
  match ifs with
  | [] => Q true L
  | [c] => ET C F ρ L c Q
  | _ => False
inductive LOOPC (C : Cx) (F : SF) (mid : Env → Addr → Sem Unit) (t : Expr) (ifs : List Expr) (ρ : Vars) (L : Led) (a : AV) (ao : AO) (Post : AO → Led → Prop) : Prop
  | mk (xs : List AV) (H : Led → Prop) (I : Nat → AO → Led → Prop) (hI : ∀ P, ITERABLE (C.pn P) F.n t a L xs H) (h0 : I 0 ao L) (hH : ∀ i ao L, I i ao L → H L)
    (turn : ∀ i x ao L P, xs[i]? = some x → I i ao L → ASG (C.pn P) F ρ L t x fun ρ' L' => SubV ρ ρ' ∧ TESTS (C.pn P) F ρ' L' ifs fun b L2 => if b = true then EMIT C F mid ρ' L2 ao (I (i + 1)) else I (i + 1) ao L2) (done : ∀ ao L, I xs.length ao L → Post ao L)

theorem wp_tests {C : Cx} {F : SF} {A : Around} {env : Env} {own : List Addr} {ρ : Vars} {L : Led} {ifs : List Expr} {Q : Bool → Led → Prop} {g : Heap} {s : Shared} (r0 : Room A F.n) (hE : EnvIs F env) (Fo : FrameOk C env own ρ g L s) (h : TESTS C F ρ L ifs Q) :
    FrL C A env own ρ (compTests ifs env) g s (EK Q) := by
  unfold compTests
  match ifs, h with
  | [], h => exact wpAny_tests_nil ⟨g, L, .refl g, Fo, h⟩
  | [c], h => exact wpAny_tests_one (h A env own g s r0 hE Fo)

theorem codeAny_comp {C : Cx} {A : Around} {R : Result → Shared → Prop} {e : Expr} {mid : Sem Unit} {d : Nat} {it acc : Value} {env : Env} {t iter : Expr} {ifs : List Expr} {s : Shared} (hq : (Code.compLoop e d it acc env).quiet = true)
    (he : compTurn e d it acc env = compTurnOf e (fun k => mid >>= fun zz => k) d it acc env t iter ifs)
    (hden : C.M.den (.compLoop e d it acc env) = (compTurn e d it acc env).onRaise (fun x => do noteFrame x env; theTreesLotGoes x)) (hu : A.under (.compLoop e d it acc env) = A) (I : Nat → Shared → Prop)
    (turn : ∀ n s, I n s → wpAny C.M A (pyNext it) (fun r s₁ => match r with
      | none => R (.ok .next) s₁
      | some v => wpAny C.M A (letOwnedTupleGo t it v) (fun zz s1' => wpAny C.M A (assign t env v) (fun zz s₂ => wpAny C.M A (compTests ifs env) (fun ok s₃ =>
          if ok = true then wpAny C.M A mid (fun zz s₄ => Less I n s₄) Never s₃ else Less I n s₃) Never s₂) Never s1') Never s₁) Never s)
    (n : Nat) (h : I n s) : codeAny C.M A (.compLoop e d it acc env) R s := by
  refine codeAny_loop' hq I (fun n s hI => ?_) n h
  rw [hden, hu]
  refine wpAny_noted ?_
  rw [he]
  unfold compTurnOf
  refine wpAny_bind (wpAny_standAt (wpAny_bind (wpAny_mono (turn n s hI) (fun r s₁ h₁ => ?_) fun zz zz h' => False.elim h')))
  cases r with
  | none => exact wpAny_pure h₁
  | some v =>
    refine wpAny_bind (wpAny_mono h₁ (fun zz s1' h1' => ?_) fun zz zz h' => False.elim h')
    refine wpAny_bind (wpAny_mono h1' (fun zz s₂ h₂ => wpAny_bind (wpAny_mono h₂ (fun ok s₃ h₃ => ?_) fun zz zz h' => False.elim h')) fun zz zz h' => False.elim h')
    cases ok with
    | true => exact wpAny_bind (wpAny_mono (show wpAny C.M A mid (fun zz s₄ => Less I n s₄) Never s₃ from h₃) (fun zz s₄ h₄ => wpAny_pure (.inl ⟨rfl, let ⟨m, h, i⟩ := h₄; ⟨m, h, i⟩⟩)) fun zz zz h' => False.elim h')
    | false => exact wpAny_pure (.inl ⟨rfl, let ⟨m, h, i⟩ := (show Less I n s₃ from h₃); ⟨m, h, i⟩⟩)
end Mine
end
section
set_option maxRecDepth 100000
set_option linter.unusedVariables false
namespace Mine
open PySem PySem.Spec PySem.Calls PyProof.Rows PySem.W

inductive CompInv (C : Cx) (R : Led) (cenv : Env) (own : List Addr) (D it : Addr) (ob : Nat → Obj → Prop) (l : Nat) (I : Nat → AO → Led → Prop) (ρ : Vars) (g1 : Heap) (n : Nat) (s' : Shared) : Prop
  | mk (i : Nat) (ao : AO) (L : Led) (g : Heap) (o : Obj) (hn : n = l - i) (hi : i ≤ l) (k : Le g1 g) (hor : OR C g ao o) (nc : NC o) (Fo : FrameOk (C.pn ((D, .raw o) :: R)) cenv own ρ g L s') (hI : I i ao L)
    (lit : it ∉ ads ((C.pn ((D, .raw o) :: R)).all L)) (nit : g.get? it = none) (hob : ItAt s'.heap it ob i)
inductive NextOk (P : Shared → Prop) (r : Result) (s' : Shared) : Prop
  | mk (e : r = .ok .next) (h : P s')
theorem comp_loop {C : Cx} {F : SF} {A : Around} {cenv : Env} {own : List Addr} {D it : Addr} {R Pit : Led} {e : Expr} {d : Nat} {t iter : Expr} {ifs : List Expr} {mid : Env → Addr → Sem Unit} {xs : List AV} {H : Led → Prop} {I : Nat → AO → Led → Prop} {gI g1 : Heap}
    {ob : Nat → Obj → Prop} {ρ : Vars} {L : Led} {ao : AO} {o : Obj} {s : Shared} {Post : AO → Led → Prop} (hq : (Code.compLoop e d (.ref it) (.ref D) cenv).quiet = true)
    (he : compTurn e d (.ref it) (.ref D) cenv = compTurnOf e (fun k => mid cenv D >>= fun zz => k) d (.ref it) (.ref D) cenv t iter ifs)
    (hden : C.M.den (.compLoop e d (.ref it) (.ref D) cenv) = (compTurn e d (.ref it) (.ref D) cenv).onRaise (fun x => do noteFrame x cenv; theTreesLotGoes x)) (hu : A.under (.compLoop e d (.ref it) (.ref D) cenv) = A)
    (r0 : Room A F.n) (hE : EnvIs F cenv) (hPit : List.Sublist Pit R) (IT : Iter (C.pn Pit) A t it xs gI H ob) (hgI : Le gI g1) (hI0 : I 0 ao L) (hH : ∀ i ao L, I i ao L → H L)
    (turn : ∀ i x ao L P, xs[i]? = some x → I i ao L → ASG (C.pn P) F ρ L t x fun ρ' L' => SubV ρ ρ' ∧ TESTS (C.pn P) F ρ' L' ifs fun b L2 => if b = true then EMIT C F mid ρ' L2 ao (I (i + 1)) else I (i + 1) ao L2)
    (done : ∀ ao L, I xs.length ao L → Post ao L) (hor : OR C g1 ao o) (hdat : NC o) (Fo : FrameOk (C.pn ((D, .raw o) :: R)) cenv own ρ g1 L s)
    (lit : it ∉ ads ((C.pn ((D, .raw o) :: R)).all L)) (nit : g1.get? it = none) (hob : ItAt s.heap it ob 0) (bit : C.hB.get? it = none) (oit : it ∉ own) :
    codeAny C.M A (.compLoop e d (.ref it) (.ref D) cenv) (NextOk (EmPost C R cenv own D Post ρ g1)) s := by
  refine codeAny_comp hq he hden hu (CompInv C R cenv own D it ob xs.length I ρ g1) (fun n s2 hn => ?_) xs.length ⟨0, ao, L, g1, o, rfl, Nat.zero_le _, .refl _, hor, hdat, Fo, hI0, lit, nit, hob⟩
  obtain ⟨i, ao2, L2, g2, o2, rfl, hi, k2, hor2, hdat2, Fo2, hI2, lit2, nit2, hob2⟩ := hn
  have R2 : RepL (C.pn Pit) g2 L2 s2 := Fo2.rep.unpin (P' := Pit) (List.Sublist.cons _ hPit)
  have lit2' : it ∉ ads ((C.pn Pit).all L2) := fun h => lit2
    ((((List.Sublist.refl _).append (List.Sublist.cons _ hPit) : List.Sublist ((C.pn Pit).all L2) ((C.pn ((D, .raw o2) :: R)).all L2)).map _).subset h)
  by_cases hlt : i < xs.length
  · have hx : xs[i]? = some xs[i] := List.getElem?_eq_getElem hlt
    refine wpAny_mono (IT.item i xs[i] L2 g2 s2 _ hx (hgI.trans k2) R2 (hH _ _ _ hI2) hob2 lit2' nit2 fun v h3 tk3 hob3 hext3 hv3 => ?_) (fun r s4 hv => by obtain ⟨v, e, hv⟩ := hv; subst e; exact hv) fun zz zz f => f
    obtain ⟨k3, Fo3'⟩ := (Fo2.heap (t := tk3) hext3 nit2 lit2 oit).wide
    have inW : ∀ b ob, h3.get? b = some ob → b ∉ ads ((C.pn ((D, .raw o2) :: R)).all L2) → b ∉ own → (hideAll h3 (ads ((C.pn ((D, .raw o2) :: R)).all L2) ++ own)).get? b = some ob := fun b ob e h1 h2 => hideAll_get _ e fun hm => (List.mem_append.mp hm).elim h1 h2
    obtain ⟨o3, ho3, po3⟩ := hob3
    obtain ⟨vs, c, hd, hc, hn⟩ := IT.kind _ _ po3
    refine on6 (turn i xs[i] ao2 L2 ((D, .raw o2) :: R) hx hI2 A cenv own _ _ v r0 hE Fo3' (hv3 _ k3 fun b ob e1 e2 => inW b ob e2 (Fo2.fresh e1).2.1 (Fo2.fresh e1).2.2)) (fun zz s4 g4 ρ4 L4 k4 Fo4 hh => ?_)
    have fin : ∀ {s5}, EmPost C R cenv own D (I (i + 1)) ρ4 g4 s5 → Less (CompInv C R cenv own D it ob xs.length I ρ g1) (xs.length - i) s5 := by
      intro s5 ⟨ao5, L5, hI5, g5, o5, k5, hor5, hdat5, Fo5⟩
      have it5 := k5 _ _ (k4 _ _ (inW it _ ho3 lit2 oit))
      have hld : LeD g5 (g5.hide it) := fun b o' e => by
        by_cases q : b = it
        · subst q; rw [it5] at e; cases e; exact .inl (.inr (.inr ⟨vs, c, hd, hc, hn⟩))
        · exact .inr ((Heap.hide_ne g5 q).trans e)
      refine ⟨xs.length - (i + 1), by omega, i + 1, ao5, L5, g5.hide it, o5, rfl, hlt, fun b o e => (Heap.hide_ne g5 fun q => by rw [q, nit] at e; cases e).trans (k5 _ _ (k4 _ _ (k3 _ _ (k2 _ _ e)))), hor5.monoD hld, hdat5,
        (Fo5.hide it5 hd hc hn bit).weak hh.1 (List.Sublist.refl _), hI5, fun hm => ?_, Heap.hide_self g5 it, ⟨o3, Fo5.rep.sub _ _ it5, po3⟩⟩
      exact nomatch (Fo5.rep.free it hm).symm.trans it5
    refine on5 (wp_tests (C := C.pn ((D, .raw o2) :: R)) r0 hE Fo4 hh.2) (fun ok s5 g5 L5 k5 Fo5 h5 => ?_)
    have hor5 : OR C g5 ao2 o2 := (hor2.monoD (k3.d)).monoD ((k4.trans k5).d)
    cases ok with
    | true => exact wpAny_mono ((show EMIT C F mid ρ4 L5 ao2 (I (i + 1)) from h5) A cenv own D R g4 s5 r0 hE ⟨g5, o2, k5, hor5, hdat2, Fo5⟩) (fun zz s6 h => fin h) fun zz zz f => f
    | false => exact fin ⟨ao2, L5, h5, g5, o2, k5, hor5, hdat2, Fo5⟩
  · have hin : i = xs.length := by omega
    subst hin
    exact IT.done L2 g2 s2 _ (hgI.trans k2) R2 (hH _ _ _ hI2) hob2 lit2' nit2 fun h3 tk3 hext3 => ⟨rfl, ao2, L2, done _ _ hI2, g2, o2, k2, hor2, hdat2, Fo2.heap hext3 nit2 lit2 oit⟩

noncomputable def putE (es : List (Str × AV)) (x : Str) (v : AV) : List (Str × AV) := if es.any (fun e => e.1 = x) then es.map (fun e => if e.1 = x then (e.1, v) else e) else es ++ [(x, v)]
theorem any_key {α β : Type} (x : Str) : ∀ (es : List (Str × α)) (fs : List (Str × β)), es.map (fun zz => zz.1) = fs.map (fun zz => zz.1) → es.any (fun e => decide (e.1 = x)) = fs.any (fun e => decide (e.1 = x))
  | [], [], _ => rfl
  | [], _ :: _, h => by simp at h
  | _ :: _, [], h => by simp at h
  | a :: es, b :: fs, h => by
    simp only [List.map_cons, List.cons.injEq] at h
    simp only [List.any_cons, h.1, any_key x es fs h.2]
theorem putE_stored {g : Heap} {es : List (Str × AV)} {kvs : List (Str × Value)} {x : Str} {av : AV} {v : Value} (hk : kvs.map (fun zz => zz.1) = es.map (fun zz => zz.1)) (hv : VRs g (es.map (fun zz => zz.2)) (kvs.map (fun zz => zz.2))) (h : VR g av v) :
    (stored kvs x v).map (fun zz => zz.1) = (putE es x av).map (fun zz => zz.1) ∧ VRs g ((putE es x av).map (fun zz => zz.2)) ((stored kvs x v).map (fun zz => zz.2)) := by
  have ha : (kvs.any fun kv => decide (kv.1 = x)) = es.any (fun e => decide (e.1 = x)) := any_key x kvs es hk
  unfold stored putE
  by_cases h1 : (es.any fun e => decide (e.1 = x)) = true
  · rw [ha, if_pos h1, if_pos h1]
    refine ⟨?_, ?_⟩
    · rw [PySem.keys_map_store, hk, List.map_map]
      apply List.map_congr_left
      intro e _
      simp only [Function.comp]
      split <;> rfl
    · clear ha h1
      induction es generalizing kvs with
      | nil => cases kvs with
        | nil => exact .nil
        | cons => simp at hk
      | cons e es ih => cases kvs with
        | nil => simp at hk
        | cons kv kvs =>
          simp only [List.map_cons, List.cons.injEq] at hk hv ⊢
          cases hv with
          | cons q1 q2 =>
            refine .cons ?_ (ih hk.2 q2)
            by_cases hx : e.1 = x
            · simpa [hk.1, hx] using h
            · simpa [hk.1, hx] using q1
  · rw [ha, if_neg h1, if_neg h1]
    refine ⟨by simp [hk], ?_⟩
    simpa using hv.append (.cons h .nil)
inductive DictAt (C : Cx) (g h : Heap) (a : Addr) (es : List (Str × AV)) : Prop
  | mk (kvs : List (Str × Value)) (d : h.DictOf C.SK a kvs) (hk : kvs.map (fun zz => zz.1) = es.map (fun zz => zz.1)) (hv : VRs g (es.map (fun zz => zz.2)) (kvs.map (fun zz => zz.2)))
theorem OR.dictOf {C : Cx} {g h : Heap} {a : Addr} {o : Obj} {es : List (Str × AV)} (e : h.get? a = some o) (x : OR C g (.dict es) o) : DictAt C g h a es := by
  obtain ⟨e0, cs, ep, kvs, e1, e2, e3, e4, e5, e6⟩ := x
  exact ⟨kvs, ⟨o, cs, ep, e, e0, e1, e2, e3, e4⟩, e5, e6⟩
theorem OR.ofDict {C : Cx} {g h : Heap} {a : Addr} {kvs : List (Str × Value)} {es : List (Str × AV)} (d : h.DictOf C.SK a kvs) (hk : kvs.map (fun zz => zz.1) = es.map (fun zz => zz.1)) (hv : VRs g (es.map (fun zz => zz.2)) (kvs.map (fun zz => zz.2))) : At C g h a (.dict es) := by
  obtain ⟨o, cs, ep, e, e0, e1, e2, e3, e4⟩ := d
  exact ⟨o, e, e0, cs, ep, kvs, e1, e2, e3, e4, hk, hv⟩

section
variable {C : Cx} {F : SF} {ρ : Vars} {L : Led} {Post : AO → Led → Prop}
theorem pinD {C : Cx} {D : Addr} {o : Obj} {R : Led} {env : Env} {own : List Addr} {ρ : Vars} {L : Led} {g : Heap} {s : Shared} (Fo : FrameOk (C.pn ((D, .raw o) :: R)) env own ρ g L s) : s.heap.get? D = some o := by
  obtain ⟨o', e1, e2⟩ := Fo.rep.led (D, .raw o) (Cx.pinAll (C := C.pn ((D, .raw o) :: R)) List.mem_cons_self)
  rw [e1]; exact congrArg some e2
theorem emit_list {elt : Expr} {ys : List AV} (hz : ys.length ≤ sizeLine) (h : ∀ P, EV (C.pn P) F ρ L elt fun y L' => Post (.list (ys ++ [y])) L') : EMIT C F (fun env D => listEmit elt (.ref D) env) ρ L (.list ys) Post :=
  fun A cenv own D R g0 s r0 hE hz => by
    obtain ⟨g', o, k, ⟨vs, n, rfl, hvs⟩, hdat, Fo⟩ := hz
    unfold listEmit
    refine wpAny_bind (onV (h ((D, .raw (listOf vs n)) :: R) A cenv own g' s r0 hE Fo) (fun v s1 g1 L1 k1 Fo1 y hy hP => ?_))
    have hD := pinD Fo1
    have hl : vs.size = ys.length := by rw [hvs.length]; simp
    have hT : s1.TypeIs (.ref D) "list" := ⟨_, hD, rfl⟩
    refine wpAny_bind (wpAny_call_entry slot_list_append hT entry_list_append ?_ (args_list_append _ _))
    show wpAny _ _ (updateSeq D (·.push _) >>= fun zz => ret .none) _ _ s1
    refine wpAny_bind (wpAny_updateSeq hD rfl (wpAny_pure ⟨.none, rfl, ?_⟩) (by rw [hl]; exact hz))
    have hup := Heap.get?_update_self (h := s1.heap) (a := D) (Obj.mapSeq (·.push v)) hD rfl
    refine wpAny_pure ⟨_, L1, hP, g1, _, k.trans k1, ⟨vs.push v, _, rfl, by simpa using (hvs.mono k1).append (.cons hy .nil)⟩, ⟨(fun zz e => nomatch e), ne_gen (c := "list") (by decide)⟩, Fo1.repin (vs := .plain) hdat.1 (Heap.SameBut.update ..) hup (t := s1.toks)⟩
theorem emit_dict {kx vx : Expr} {es : List (Str × AV)} (hz : es.length ≤ sizeLine) (h : ∀ P, EV (C.pn P) F ρ L kx fun kv L1 => EV (C.pn P) F ρ L1 vx fun vv L2 => ∃ x, kv = .str x ∧ Post (.dict (putE es x vv)) L2) :
    EMIT C F (fun env D => dictEmit kx vx D env) ρ L (.dict es) Post :=
  fun A cenv own D R g0 s r0 hE hz => by
    obtain ⟨g', o, k, hor, hdat, Fo⟩ := hz
    unfold dictEmit
    refine wpAny_bind (onV (h ((D, .raw o) :: R) A cenv own g' s r0 hE Fo) (fun kv s1 g1 L1 k1 Fo1 kav hkv h1 => ?_))
    refine wpAny_bind (wpAny_holding (onV (h1 A cenv own g1 s1 r0 hE Fo1) (fun vv s2 g2 L2 k2 Fo2 vav hvv hz => ?_)))
    obtain ⟨x, rfl, hP⟩ := hz
    obtain ⟨t, rfl⟩ : ∃ t, kv = .str x t := by cases hkv; exact ⟨_, rfl⟩
    refine wpAny_bind (wpAny_standAt (wpAny_holding ?_))
    have hD := pinD Fo2
    obtain ⟨kvs, hd, hkeys, hvs⟩ := OR.dictOf hD (hor.monoD (k1.trans k2).d)
    have hlen : kvs.length = es.length := by have := congrArg List.length hkeys; simpa using this
    have hb : C.SK.is x (.str x t) = true := by show Value.isStrOf x (.str x t) = true; simp [Value.isStrOf]
    refine wpAny_dictSet_pairs hb hd (fun h' hd' hs => ?_) (by rw [hlen]; exact hz)
    obtain ⟨q1, q2⟩ := putE_stored (x := x) hkeys hvs hvv
    obtain ⟨o', ho', hor'⟩ := OR.ofDict hd' q1 q2
    refine ⟨_, L2, hP, g2, o', (k.trans k1).trans k2, hor', ?_, Fo2.repin (vs := .plain) hdat.1 hs ho' (t := s2.toks + 1)⟩
    obtain ⟨ex, cs, ep, _, e1, _⟩ := hor'
    exact ⟨(fun v e => by rw [e1] at e; cases e), (by rw [ex.1]; exact ne_gen (by decide))⟩
end
end Mine
end
section
set_option maxRecDepth 100000
set_option linter.unusedVariables false
namespace Mine
open PySem PySem.Spec PySem.Calls PyProof.Rows PySem.W

noncomputable def relS (scope outer : Scope) : Scope := { scope with names := scope.names.map fun (n, k) => if (k == .free && outer.names.lookup n == some .cell) then (n, .cell) else (n, k) }
noncomputable def ownCells (scope : Scope) : List Str := (scope.names.filter fun p => p.2 == .cell).map (fun zz => zz.1)
noncomputable def compSF (F : SF) (scope : Scope) : SF := ⟨relS scope F.scope, F.code, F.n, false, ownCells scope⟩
theorem relabel_eq {F : SF} {env : Env} {scope : Scope} (hE : EnvIs F env) : relabel scope env = relS scope F.scope := by
  unfold relabel relS
  have hk : env.scope.kind = .function := hE.kindE
  congr 1
  apply List.map_congr_left
  rintro ⟨n, k⟩ _
  dsimp only
  rw [hk, hE.kindOf]
  simp
noncomputable def capOk (scope outer : Scope) (caught : List Str) : Bool :=
  (scope.kind == .function) && scope.names.all (fun p => (p.2 != .cell || scope.names.lookup p.1 == some .cell) && (p.2 != .local || scope.names.lookup p.1 == some .local) && (p.2 != .free || caught.contains p.1)) &&
  caught.all fun x => scope.names.lookup x == some .free && (outer.names.lookup x == some .cell || outer.names.lookup x == some .free)
theorem closure_ok (env : Env) (names : List (Str × NameKind)) : ∀ (acc : List (Str × Addr)), (∀ p ∈ names, p.2 = .free → (env.cells.lookup p.1).isSome = true) → (∀ x c, acc.lookup x = some c → env.cells.lookup x = some c) →
    ∃ cl, (forIn names acc fun (p : Str × NameKind) cs => (if (p.2 == .free) = true then do let c ← cellOf env p.1; pure (ForInStep.yield ((p.1, c) :: cs)) else pure (ForInStep.yield cs) : Sem (ForInStep (List (Str × Addr))))) = pure cl ∧
      (∀ x c, cl.lookup x = some c → env.cells.lookup x = some c) ∧ (∀ x, (acc.lookup x).isSome = true ∨ (x, NameKind.free) ∈ names → (cl.lookup x).isSome = true) ∧ (∀ x, (cl.lookup x).isSome = true → (acc.lookup x).isSome = true ∨ (x, NameKind.free) ∈ names) := by
  induction names with
  | nil => intro acc _ h; exact ⟨acc, rfl, h, (fun x hx => hx.elim id fun q => by cases q), fun x hx => .inl hx⟩
  | cons p r ih =>
    obtain ⟨y, k⟩ := p
    intro acc hn h
    rw [List.forIn_cons]
    by_cases hk : (k == .free) = true
    · have hk' : k = .free := by simpa using hk
      obtain ⟨c, hc⟩ := Option.isSome_iff_exists.mp (hn (y, k) List.mem_cons_self hk')
      obtain ⟨cl, e1, e2, e3, e4⟩ := ih ((y, c) :: acc) (fun p hp => hn p (List.mem_cons_of_mem _ hp)) (fun x c' e => by
        rw [List.lookup_cons] at e
        cases q : x == y with
        | true => rw [q] at e; cases e; rw [eq_of_beq q]; exact hc
        | false => rw [q] at e; exact h x c' e)
      refine ⟨cl, ?_, e2, fun x hx => e3 x ?_, fun x hx => (e4 x hx).elim (fun q => ?_) fun q => .inr (List.mem_cons_of_mem _ q)⟩
      rotate_left 2
      · rw [List.lookup_cons] at q
        cases hxy : x == y with
        | true => exact .inr (by rw [eq_of_beq hxy, hk']; exact List.mem_cons_self)
        | false => rw [hxy] at q; exact .inl q
      · dsimp only
        rw [if_pos hk]
        have : cellOf env y = pure c := by unfold cellOf; rw [hc]
        rw [this]
        simpa using e1
      · rcases hx with hx | hx
        · left
          rw [List.lookup_cons]
          cases q : x == y <;> simp [hx]
        · rcases List.mem_cons.mp hx with q | q
          · left; cases q; simp
          · exact .inr q
    · obtain ⟨cl, e1, e2, e3, e4⟩ := ih acc (fun p hp => hn p (List.mem_cons_of_mem _ hp)) h
      refine ⟨cl, ?_, e2, fun x hx => e3 x ?_, fun x hx => (e4 x hx).imp id fun q => List.mem_cons_of_mem _ q⟩
      · dsimp only
        rw [if_neg hk]
        simpa using e1
      · rcases hx with hx | hx
        · exact .inl hx
        · rcases List.mem_cons.mp hx with q | q
          · cases q; exact absurd rfl hk
          · exact .inr q
theorem closureFor_ok (env : Env) (scope : Scope) (h : ∀ p ∈ scope.names, p.2 = .free → (env.cells.lookup p.1).isSome = true) :
    ∃ cl, closureFor scope env = pure cl ∧ (∀ x c, cl.lookup x = some c → env.cells.lookup x = some c) ∧ (∀ x, (x, NameKind.free) ∈ scope.names → (cl.lookup x).isSome = true) ∧ ∀ x, (cl.lookup x).isSome = true → (x, NameKind.free) ∈ scope.names := by
  obtain ⟨cl, e1, e2, e3, e4⟩ := closure_ok env scope.names [] h (fun x c e => by simp at e)
  refine ⟨cl, ?_, e2, fun x hx => e3 x (.inr hx), fun x hx => (e4 x hx).resolve_left (by simp)⟩
  unfold closureFor
  simpa using e1

noncomputable def dd : List Addr → List Addr
  | [] => []
  | a :: r => if (dd r).contains a then dd r else a :: dd r
theorem mem_dd : ∀ {l : List Addr} {a : Addr}, a ∈ dd l ↔ a ∈ l
  | [], a => by simp [dd]
  | b :: r, a => by
    unfold dd
    by_cases h : (dd r).contains b = true
    · rw [if_pos h, mem_dd (l := r)]
      have hb : b ∈ r := (mem_dd (l := r)).mp (by simpa using h)
      constructor
      · intro q; exact List.mem_cons_of_mem _ q
      · intro q
        rcases List.mem_cons.mp q with rfl | q
        · exact hb
        · exact q
    · rw [if_neg h, List.mem_cons, List.mem_cons, mem_dd (l := r)]
theorem dd_nodup : ∀ (l : List Addr), (dd l).Nodup
  | [] => List.nodup_nil
  | b :: r => by
    unfold dd
    by_cases h : (dd r).contains b = true
    · rw [if_pos h]; exact dd_nodup r
    · rw [if_neg h]; exact List.nodup_cons.mpr ⟨by simpa using h, dd_nodup r⟩
noncomputable def pinned (h : Heap) (own : List Addr) : Led := (dd own).filterMap fun a => (h.get? a).map fun o => (a, .raw o)
theorem pinned_mem {h : Heap} {own : List Addr} {p : Addr × AO} (hp : p ∈ pinned h own) : p.1 ∈ own ∧ ∃ o, h.get? p.1 = some o ∧ p.2 = .raw o := by
  obtain ⟨a, ha, e⟩ := List.mem_filterMap.mp hp
  obtain ⟨o, ho, rfl⟩ := Option.map_eq_some_iff.mp e
  exact ⟨mem_dd.mp ha, o, ho, rfl⟩
theorem pinned_of {h : Heap} {own : List Addr} {a : Addr} {o : Obj} (ha : a ∈ own) (ho : h.get? a = some o) : (a, .raw o) ∈ pinned h own :=
  List.mem_filterMap.mpr ⟨a, mem_dd.mpr ha, by rw [ho]; rfl⟩
theorem pinned_sub (h : Heap) : ∀ l : List Addr, List.Sublist (ads (l.filterMap fun a => (h.get? a).map fun o => (a, AO.raw o))) l
  | [] => List.Sublist.slnil
  | a :: r => by
    cases e : h.get? a with
    | none => simp only [List.filterMap_cons, e, Option.map_none]; exact .cons _ (pinned_sub h r)
    | some o => simp only [List.filterMap_cons, e, Option.map_some, ads, List.map_cons]; exact .cons_cons _ (pinned_sub h r)
theorem pinned_nodup (h : Heap) (own : List Addr) : (ads (pinned h own)).Nodup := (pinned_sub h (dd own)).nodup (dd_nodup own)

theorem pinned_gens (h : Heap) (own : List Addr) : genEs (pinned h own) = [] := by
  unfold pinned genEs
  rw [List.filterMap_filterMap]
  refine List.filterMap_eq_nil_iff.mpr fun a zz => ?_
  cases h.get? a <;> rfl
theorem codeAny_compStartG {C : Cx} {A : Around} {R : Result → Shared → Prop} {e : Expr} {d : Nat} {it : Addr} {acc : Value} {env : Env} {t iter : Expr} {ifs : List Expr} {s : Shared}
    (hden : C.M.den (.compStart e d (.ref it) acc env) = (compStart e d (.ref it) acc env).onRaise (fun x => do noteFrame x env; standAt theWindowsPlace)) (hu : A.under (.compStart e d (.ref it) acc env) = A)
    (hg : (clausesOf e)[d]? = some ⟨t, iter, ifs, 0⟩) (hq : (Code.compLoop e d (.ref it) acc env).quiet = true) (h0 : codeAny C.M A (.compLoop e d (.ref it) acc env) R s)
    (self : ∀ Q : Value → Shared → Prop, Q (.ref it) s → wpAny C.M A (pyIter (.ref it)) Q Never s) : codeAny C.M A (.compStart e d (.ref it) acc env) R s := by
  refine codeAny_of_tree ?_
  rw [hden, hu]
  refine wpAny_notedAt ?_
  unfold compStart
  rw [hg]
  show wpAny _ _ (ask >>= _) _ _ s
  refine wpAny_bind (wpAny_askSetting (wpAny_ite ?_))
  split
  · first
      | exact wpAny_bind (wpAny_pure (wpAny_pure (And.intro hq h0)))
      | exact wpAny_pure (And.intro hq h0)
  · have h1 := self (fun it' s' => codeAny C.M A (.compLoop e d it' acc env) R s' ∧ it' = .ref it) ⟨h0, rfl⟩
    refine wpAny_bind (wpAny_rule ?_)
    show wpAny _ _ (standAt iter.pos >>= _) _ _ s
    exact wpAny_bind (wpAny_standAt (wpAny_bind (wpAny_mono h1 (fun it' s' h' => by obtain ⟨h', rfl⟩ := h'; exact wpAny_pure (And.intro hq h')) fun zz zz x => False.elim x)))

structure CompE (C : Cx) (e : Expr) (d : Nat) (t iter : Expr) (ifs : List Expr) (mid : Env → Addr → Sem Unit) : Prop where
  quiet : ∀ it D cenv, (Code.compLoop e d it (.ref D) cenv).quiet = true
  turn : ∀ it D cenv, compTurn e d it (.ref D) cenv = compTurnOf e (fun k => mid cenv D >>= fun zz => k) d it (.ref D) cenv t iter ifs
  den : ∀ it D cenv, C.M.den (.compLoop e d it (.ref D) cenv) = (compTurn e d it (.ref D) cenv).onRaise (fun x => do noteFrame x cenv; theTreesLotGoes x)
  under : ∀ (A : Around) it D cenv, A.under (.compLoop e d it (.ref D) cenv) = A
  denS : ∀ it D cenv, C.M.den (.compStart e d it (.ref D) cenv) = (compStart e d it (.ref D) cenv).onRaise (fun x => do noteFrame x cenv; standAt theWindowsPlace)
  underS : ∀ (A : Around) it D cenv, A.under (.compStart e d it (.ref D) cenv) = A
  gen : (clausesOf e)[d]? = some ⟨t, iter, ifs, 0⟩
theorem compE_list1 {C : Cx} {elt t iter : Expr} {ifs : List Expr} {scope : Scope} {pos : Pos} : CompE C (.ListComp elt [⟨t, iter, ifs, 0⟩] scope pos) 0 t iter ifs (fun env D => listEmit elt (.ref D) env) :=
  ⟨fun zz zz zz => rfl, fun zz zz zz => turn_list1, fun zz zz zz => rfl, fun zz zz zz zz => rfl, fun zz zz zz => rfl, fun zz zz zz zz => rfl, rfl⟩
theorem compE_dict1 {C : Cx} {k v t iter : Expr} {ifs : List Expr} {scope : Scope} {pos : Pos} : CompE C (.DictComp k v [⟨t, iter, ifs, 0⟩] scope pos) 0 t iter ifs (fun env D => dictEmit k v D env) :=
  ⟨fun zz zz zz => rfl, fun zz zz zz => turn_dict1, fun zz zz zz => rfl, fun zz zz zz zz => rfl, fun zz zz zz => rfl, fun zz zz zz zz => rfl, rfl⟩
noncomputable def nestMid (e iter2 : Expr) (env : Env) (D : Addr) : Sem Unit :=
  eval iter2 env >>= fun x => standAt iter2.pos >>= fun zz => foldedSetIterable iter2 env x >>= fun x => holding [x] (pyIter x) >>= fun i => runOwn (.compStart e 1 i (.ref D) env) env >>= fun zz => pure ()
theorem nestIn_eq (e iter2 : Expr) (env : Env) (D : Addr) (k : Sem PySem.Fin) : nestIn e iter2 (.ref D) env k = (nestMid e iter2 env D >>= fun zz => k) := by
  unfold nestIn nestMid
  simp only [bind_assoc, pure_bind]
theorem compE_list2a {C : Cx} {elt t iter t2 iter2 : Expr} {ifs ifs2 : List Expr} {scope : Scope} {pos : Pos} : CompE C (.ListComp elt [⟨t, iter, ifs, 0⟩, ⟨t2, iter2, ifs2, 0⟩] scope pos) 0 t iter ifs
    (nestMid (.ListComp elt [⟨t, iter, ifs, 0⟩, ⟨t2, iter2, ifs2, 0⟩] scope pos) iter2) :=
  ⟨fun zz zz zz => rfl, fun zz zz zz => turn_list2a.trans (by congr 1; funext k; exact nestIn_eq _ _ _ _ _), fun zz zz zz => rfl, fun zz zz zz zz => rfl, fun zz zz zz => rfl, fun zz zz zz zz => rfl, rfl⟩
theorem compE_list2b {C : Cx} {elt t iter t2 iter2 : Expr} {ifs ifs2 : List Expr} {scope : Scope} {pos : Pos} : CompE C (.ListComp elt [⟨t, iter, ifs, 0⟩, ⟨t2, iter2, ifs2, 0⟩] scope pos) 1 t2 iter2 ifs2
    (fun env D => listEmit elt (.ref D) env) :=
  ⟨fun zz zz zz => rfl, fun zz zz zz => turn_list2b, fun zz zz zz => rfl, fun zz zz zz zz => rfl, fun zz zz zz => rfl, fun zz zz zz zz => rfl, rfl⟩

section
variable {C : Cx} {F : SF} {A : Around} {env : Env} {own : List Addr} {ρ ρ0 : Vars} {L : Led} {g : Heap} {s : Shared}
theorem heap_none {h : Heap} {a : Addr} (ha : h.objs.size ≤ a) : h.get? a = none := Heap.get?_none_of_le ha
theorem FrameOk.ext (Fo : FrameOk C env own ρ g L s) {h' : Heap} {t : Nat} (k : Le s.heap h') : FrameOk C env own ρ g L { s with heap := h', toks := t } := by
  obtain ⟨h1, h2, h3⟩ := Fo.fresh (it := s.heap.objs.size) (heap_none (Nat.le_refl _))
  exact Fo.heap (a := s.heap.objs.size) (fun b o zz e => k b o e) h1 h2 h3

theorem wpAny_newCompEnv {M : Model} {A : Around} {E : Value → Shared → Prop} {s : Shared} {scope : Scope} {globals : Addr} {closure : List (Str × Addr)} {qual : Str} {outer : Env} {Q : Env → Shared → Prop}
    (hQ : Q (newEnv scope s.heap.objs.size globals (cellsFrom (s.heap.objs.size + 1) scope.names closure) qual none .none (some outer) builtinsNs) { s with heap := pushCells (s.heap.push { cls := .type "dict", data := .dict #[] }) scope.names }) :
    wpAny M A (newFunctionEnv scope globals closure [] qual none .none (some outer)) Q E s := by
  simp only [newFunctionEnv, Option.isSome_some, if_true]
  refine wpAny_bind (wpAny_alloc ?_)
  refine wpAny_bind (wpAny_layCells _ (fun name kind cells => by cases hkc : kind == NameKind.cell <;> simp [hkc]) _ _ _ _ ?_)
  rw [show ({ s with heap := s.heap.push { cls := .type "dict", data := .dict #[] } } : Shared).heap.objs.size = s.heap.objs.size + 1 from Heap.size_push ..]
  simp only [List.forIn_nil]
  exact wpAny_bind (wpAny_pure (wpAny_pure hQ))
theorem cellsFrom_app : ∀ (names : List (Str × NameKind)) (n : Nat) (acc : List (Str × Addr)), cellsFrom n names acc = cellsFrom n names [] ++ acc
  | [], _, _ => rfl
  | (x, k) :: r, n, acc => by
    unfold cellsFrom
    split
    · rw [cellsFrom_app r (n + 1) ((x, n) :: acc), cellsFrom_app r (n + 1) [(x, n)], List.append_assoc]; rfl
    · exact cellsFrom_app r n acc
theorem cellsFrom_mem : ∀ (names : List (Str × NameKind)) (n : Nat) (x : Str) (c : Addr), (x, c) ∈ cellsFrom n names [] → (x, NameKind.cell) ∈ names
  | [], _, _, _, h => by cases h
  | (y, k) :: r, n, x, c, h => by
    unfold cellsFrom at h
    by_cases hk : (k == NameKind.cell) = true
    · rw [if_pos hk, cellsFrom_app] at h
      rcases List.mem_append.mp h with h | h
      · exact List.mem_cons_of_mem _ (cellsFrom_mem r _ x c h)
      · cases List.mem_singleton.mp h
        rw [beq_iff_eq.mp hk]; exact List.mem_cons_self
    · rw [if_neg hk] at h
      exact List.mem_cons_of_mem _ (cellsFrom_mem r _ x c h)
theorem FrameOk.cellLt {x : Str} {av : AV} {c : Addr} (Fo : FrameOk C env own ρ g L s) (e : ρ.lookup x = some av) (h : env.kindOf x = some .cell ∨ env.kindOf x = some .free) (hc : env.cells.lookup x = some c) : c < s.heap.objs.size := by
  obtain ⟨m, hm, hv⟩ := Fo.ns
  obtain ⟨v, hx, hr⟩ := hv x av e
  rcases hx with ⟨a1, _⟩ | ⟨_, c', a2, a3, a4⟩ | ⟨_, c', a2, ob, a3, _⟩ | ⟨_, c', o, a2, a3, _⟩
  · rcases h with h | h <;> rw [h] at a1 <;> cases a1
  · rw [hc] at a2; cases a2; exact a4.lt
  · rw [hc] at a2; cases a2; exact Heap.lt_size (Fo.rep.sub _ _ a3)
  · rw [hc] at a2; cases a2
    obtain ⟨ob, b1, _⟩ := Fo.rep.led _ (Cx.pinAll a3)
    exact Heap.lt_size b1
theorem perm_pn (C : Cx) (D : Addr) (o : Obj) (outs L : Led) : (ads ((C.pn ((D, .raw o) :: (outs ++ C.pins))).all L)).Perm (D :: (ads outs ++ ads (C.all L))) := by
  show (List.map _ (L ++ (D, AO.raw o) :: (outs ++ C.pins))).Perm (D :: (List.map _ outs ++ List.map _ (L ++ C.pins)))
  rw [List.map_append, List.map_append, List.map_cons, List.map_append]
  exact List.perm_middle.trans (.cons D (List.perm_append_comm_assoc ..))
theorem gens_pn (C : Cx) (D : Addr) (o : Obj) (h : Heap) (own : List Addr) (L : Led) : genEs ((C.pn ((D, .raw o) :: (pinned h own ++ C.pins))).all L) = genEs (C.all L) := by
  show genEs (L ++ (D, .raw o) :: (pinned h own ++ C.pins)) = genEs (L ++ C.pins)
  rw [genEs_append, genEs_append, genEs_cons rfl, genEs_append, pinned_gens]; rfl
theorem pinned_own {h : Heap} {own : List Addr} {a : Addr} (ha : a ∈ ads (pinned h own)) : a ∈ own := by
  obtain ⟨p, hp, rfl⟩ := List.mem_map.mp ha
  exact (pinned_mem hp).1
theorem FrameOk.pinIn (Fo : FrameOk C env own ρ g L s) {h1 : Heap} (kle : Le s.heap h1) {D : Addr} {o : Obj} (hD : s.heap.get? D = some o) (hDf : g.get? D = none ∧ D ∉ ads (C.all L) ∧ D ∉ own) :
    RepL (C.pn ((D, .raw o) :: (pinned h1 own ++ C.pins))) g L { s with heap := h1 } := by
  have P := perm_pn C D o (pinned h1 own) L
  have led : ∀ p ∈ C.all L, At (C.pn ((D, .raw o) :: (pinned h1 own ++ C.pins))) g h1 p.1 p.2 := fun p hp => let ⟨ob, e1, e2⟩ := Fo.rep.led p hp; ⟨ob, kle _ _ e1, e2.pn (P := C.pins)⟩
  refine ⟨Fo.rep.ok.pn _, Fo.rep.base, fun b ob e => kle _ _ (Fo.rep.sub _ _ e), P.nodup_iff.mpr (List.nodup_cons.mpr ⟨fun h => ?_, List.nodup_append.mpr ⟨pinned_nodup _ _, Fo.rep.nd, fun a ha b hb q => (Fo.ownFree _ (pinned_own ha)).2 (q ▸ hb)⟩⟩), fun a ha => ?_, fun p hp => ?_, Fo.rep.os,
    Fo.rep.gens.sub (gens_pn C D o h1 own L ▸ List.Sublist.refl _)⟩
  · exact (List.mem_append.mp h).elim (fun h => hDf.2.2 (pinned_own h)) hDf.2.1
  · rcases List.mem_cons.mp (P.mem_iff.mp ha) with rfl | h
    · exact hDf.1
    · exact (List.mem_append.mp h).elim (fun h => (Fo.ownFree a (pinned_own h)).1) (Fo.rep.free a)
  · rcases List.mem_append.mp hp with h | h
    · exact led p (Cx.inAll h)
    · rcases List.mem_cons.mp h with rfl | h
      · exact ⟨o, kle _ _ hD, rfl⟩
      · rcases List.mem_append.mp h with h | h
        · obtain ⟨_, ob, e1, e2⟩ := pinned_mem h
          exact ⟨ob, e1, e2 ▸ rfl⟩
        · exact led p (Cx.pinAll h)
theorem FrameOk.pinOut (Fo : FrameOk C env own ρ g L s) {h1 : Heap} (kle : Le s.heap h1) {D : Addr} {o' : Obj} {ao' : AO} {L' : Led} {g' : Heap} {s' : Shared} {cenv : Env} {ownI : List Addr} (hDo : D ∉ own) (k' : Le g g') (hor' : OR C g' ao' o') (nc : NC o')
    (Fo' : FrameOk (C.pn ((D, .raw o') :: (pinned h1 own ++ C.pins))) cenv ownI ρ0 g' L' s') : FrameOk C env own ρ g' ((D, ao') :: L') s' := by
  have P := perm_pn C D o' (pinned h1 own) L'
  have nd' := P.nodup_iff.mp Fo'.rep.nd
  have S : List.Sublist (D :: ads (C.all L')) (D :: (ads (pinned h1 own) ++ ads (C.all L'))) := (List.sublist_append_right _ _).cons_cons _
  have ownOuts : ∀ a ∈ own, a ∈ ads (pinned h1 own) := fun a ha => let ⟨ob, e, _⟩ := Fo.ownDull a ha; List.mem_map_of_mem (f := (fun zz => zz.1)) (pinned_of ha (kle _ _ e))
  have ownSame : ∀ a ∈ own, ∀ ob, s.heap.get? a = some ob → s'.heap.get? a = some ob := fun a ha ob e =>
    let ⟨ob', e1, e2⟩ := Fo'.rep.led (a, .raw ob) (Cx.pinAll (C := C.pn ((D, .raw o') :: (pinned h1 own ++ C.pins))) (List.mem_cons_of_mem _ (List.mem_append_left _ (pinned_of ha (kle _ _ e)))))
    e1.trans (congrArg some e2)
  refine ⟨⟨Fo.rep.ok, Fo'.rep.base, Fo'.rep.sub, S.nodup nd', fun a ha => Fo'.rep.free a (P.mem_iff.mpr (S.subset ha)), fun p hp => ?_, Fo'.rep.os, Fo'.rep.gens.sub ?_⟩,
    fun a ha => ⟨Fo'.rep.free a (P.mem_iff.mpr (List.mem_cons_of_mem _ (List.mem_append_left _ (ownOuts a ha)))), fun h => ?_⟩, Fo.loc, fun a ha => let ⟨ob, e, d⟩ := Fo.ownDull a ha; ⟨ob, ownSame a ha ob e, d⟩, ?_, fun x hfn hx => let ⟨c, v, d1, d2, ob, d3, d4⟩ := Fo.cells x hfn hx; ⟨c, v, d1, d2, ob, ownSame c d2 ob d3, d4⟩, Fo.apart⟩
  · rcases List.mem_cons.mp hp with rfl | hp
    · exact ⟨o', pinD Fo', hor'⟩
    · obtain ⟨ob, e1, e2⟩ := Fo'.rep.led p ((List.mem_append.mp hp).elim Cx.inAll fun h => Cx.pinAll (C := C.pn ((D, .raw o') :: (pinned h1 own ++ C.pins))) (List.mem_cons_of_mem _ (List.mem_append_right _ h)))
      exact ⟨ob, e1, e2.pn (P' := C.pins)⟩
  · rw [gens_pn C D o' h1 own L']
    show List.Sublist (genEs ((D, ao') :: C.all L')) _
    rw [genEs_cons (nc.genE hor')]
    exact List.Sublist.refl _
  · exact (List.mem_cons.mp (show a ∈ D :: ads (C.all L') from h)).elim (fun e => hDo (e ▸ ha)) fun h => (List.nodup_append.mp (List.nodup_cons.mp nd').2).2.2 a (ownOuts a ha) a h rfl
  · obtain ⟨m, hm, hv⟩ := Fo.ns
    exact ⟨m, hm.at_ (ownSame _ Fo.loc), fun x av ex => let ⟨v, hx, hr⟩ := hv x av ex; ⟨v, hx.move ownSame fun c h => let ⟨ob, e1, e2⟩ := h; ⟨ob, k' _ _ e1, e2⟩, hr.mono k'⟩⟩
theorem relS_free {scope outer : Scope} {x : Str} (h : scope.names.lookup x = some .free) : (relS scope outer).names.lookup x = if outer.names.lookup x = some .cell then some .cell else some .free := by
  unfold relS
  dsimp only
  revert h
  generalize scope.names = l
  intro h
  induction l with
  | nil => simp at h
  | cons p r ih =>
    obtain ⟨n, k⟩ := p
    rw [List.map_cons]
    rw [List.lookup_cons] at h
    cases hxn : x == n with
    | true =>
      rw [hxn] at h
      obtain rfl : k = .free := Option.some.inj h
      obtain rfl := eq_of_beq hxn
      by_cases hc : outer.names.lookup x = some .cell <;> simp [hc]
    | false =>
      rw [hxn] at h
      by_cases hc : (k == .free && outer.names.lookup n == some .cell) = true
      · rw [if_pos hc, List.lookup_cons, hxn]; exact ih h
      · rw [if_neg hc, List.lookup_cons, hxn]; exact ih h
theorem VarAt.inner {P : Led} {m m' : Str → Option Value} {h h1 : Heap} {x : Str} {v : Value} {c : Addr} {cenv : Env} {ownI : List Addr} {D : Addr} {o : Obj} (hx : VarAt P env own m g h x v) (kle : Le h h1) (hc : cenv.cells.lookup x = some c) (hec : env.cells.lookup x = some c)
    (hk : env.kindOf x = some .cell ∨ env.kindOf x = some .free) (hki : cenv.kindOf x = if env.kindOf x = some .cell then some .cell else some .free) : VarAt ((D, .raw o) :: (pinned h1 own ++ P)) cenv ownI m' g h1 x v := by
  have hk2 : cenv.kindOf x = some .cell ∨ cenv.kindOf x = some .free := by rw [hki]; split <;> simp
  rcases hx with ⟨a1, _⟩ | ⟨a1, c', a2, a3, ob, a4, a5⟩ | ⟨a1, c', a2, a3⟩ | ⟨a1, c', ob, a2, a3, a4⟩
  · rw [a1] at hk; exact hk.elim (fun q => nomatch q) fun q => nomatch q
  · obtain rfl := Option.some.inj (hec.symm.trans a2)
    exact .inr (.inr (.inr ⟨hk2, c, ob, hc, List.mem_cons_of_mem _ (List.mem_append_left _ (pinned_of a3 (kle _ _ a4))), a5⟩))
  · obtain rfl := Option.some.inj (hec.symm.trans a2)
    exact .inr (.inr (.inl ⟨by rw [hki, a1]; rfl, c, hc, a3⟩))
  · obtain rfl := Option.some.inj (hec.symm.trans a2)
    exact .inr (.inr (.inr ⟨hk2, c, ob, hc, List.mem_cons_of_mem _ (List.mem_append_right _ a3), a4⟩))
structure CapOk (scope outer : Scope) (names : List Str) : Prop where
  kind : scope.kind = .function
  cell : ∀ x, (x, NameKind.cell) ∈ scope.names → scope.names.lookup x = some .cell
  free : ∀ x, (x, NameKind.free) ∈ scope.names → x ∈ names
  caught : ∀ x ∈ names, scope.names.lookup x = some .free ∧ (outer.names.lookup x = some .cell ∨ outer.names.lookup x = some .free)
theorem capOk_is {scope outer : Scope} {names : List Str} (h : capOk scope outer names = true) : CapOk scope outer names := by
  unfold capOk at h
  simp only [Bool.and_eq_true, List.all_eq_true] at h
  obtain ⟨⟨hkind, hnames⟩, hcaught⟩ := h
  refine ⟨by simpa using hkind, fun x hx => ?_, fun x hx => ?_, fun x hx => by simpa using hcaught x hx⟩
  · have := (hnames _ hx).1.1; simpa using this
  · have := (hnames _ hx).2; simpa using this
theorem look_of_mem {ρ : Vars} {x : Str} (h : x ∈ ρ.map (fun zz => zz.1)) : ∃ av, ρ.lookup x = some av := by
  induction ρ with
  | nil => cases h
  | cons p r ih =>
    rw [List.lookup_cons]
    cases q : x == p.1 with
    | true => exact ⟨_, rfl⟩
    | false => exact ih ((List.mem_cons.mp h).resolve_left fun e => by rw [e] at q; simp at q)
theorem FrameOk.inner {scope : Scope} {h1 : Heap} {cs cl : List (Str × Addr)} {D : Addr} {o : Obj} (hE : EnvIs F env) (Fo : FrameOk C env own ρ g L s) (hc : CapOk scope F.scope (ρ0.map (fun zz => zz.1))) (hsub : SubV ρ0 ρ)
    (hcl : ∀ x c, cl.lookup x = some c → env.cells.lookup x = some c) (hcl2 : ∀ x, (x, NameKind.free) ∈ scope.names → (cl.lookup x).isSome = true) (hcl3 : ∀ x, (cl.lookup x).isSome = true → (x, NameKind.free) ∈ scope.names)
    (hD : s.heap.get? D = some o) (hDf : g.get? D = none ∧ D ∉ ads (C.all L) ∧ D ∉ own) (hns : h1.Ns s.heap.objs.size fun _ => none) (ok : CellsOk h1 (s.heap.objs.size + 1) cs) (csMem : ∀ x c, (x, c) ∈ cs → (x, NameKind.cell) ∈ scope.names)
    (csSome : ∀ x, (x, NameKind.cell) ∈ scope.names → (cs.lookup x).isSome = true) (kle : Le s.heap h1) :
    FrameOk (C.pn ((D, .raw o) :: (pinned h1 own ++ C.pins))) { newEnv scope s.heap.objs.size env.globals (cs ++ cl) env.qual none .none (some env) builtinsNs with scope := relabel scope env } (s.heap.objs.size :: cs.map (fun zz => zz.2)) ρ0 g L { s with heap := h1 } := by
  have ownNone : ∀ a ∈ s.heap.objs.size :: cs.map (fun zz => zz.2), s.heap.get? a = none := fun a ha => heap_none <| (List.mem_cons.mp ha).elim (fun h => Nat.le_of_eq h.symm) fun h => by
    obtain ⟨p, hp, rfl⟩ := List.mem_map.mp h
    exact Nat.le_of_lt (ok.empty p.1 p.2 hp).2
  have csFree : ∀ x, scope.names.lookup x = some .free → (cs ++ cl).lookup x = cl.lookup x := fun x hx => by
    rw [List.lookup_append]
    cases q : cs.lookup x with
    | none => rfl
    | some c => exact nomatch hx.symm.trans (hc.cell x (csMem x c (PySem.mem_of_lookup q)))
  have clLt : ∀ x c, cl.lookup x = some c → c < s.heap.objs.size := fun x c e => by
    have h2 := hc.free x (hcl3 x (by rw [e]; rfl))
    obtain ⟨av, hav⟩ := look_of_mem h2
    exact Fo.cellLt (hsub _ _ hav) (by rw [hE.kindOf]; exact (hc.caught x h2).2) (hcl _ _ e)
  refine ⟨Fo.pinIn kle hD hDf, fun a ha => ?_, List.mem_cons_self, fun a ha => ?_, ⟨_, hns, fun x av ex => ?_⟩, fun x hox hx => ?_, fun x y c e1 e2 => ?_⟩
  · obtain ⟨c1, c2, c3⟩ := Fo.fresh (ownNone a ha)
    exact ⟨c1, fun h => (List.mem_cons.mp ((perm_pn C D o (pinned h1 own) L).mem_iff.mp h)).elim (fun e => by rw [← e, ownNone _ ha] at hD; exact nomatch hD) fun h => (List.mem_append.mp h).elim (fun h => c3 (pinned_own h)) c2⟩
  · rcases List.mem_cons.mp ha with h | h
    · subst h
      obtain ⟨ob, es, ep, q1, q2, _⟩ := hns
      exact ⟨ob, q1, .inl ⟨es, ep, q2⟩⟩
    · obtain ⟨p, hp, rfl⟩ := List.mem_map.mp h
      obtain ⟨ob, q1, q2⟩ := (ok.empty p.1 p.2 hp).1
      exact ⟨ob, q1, .inr (.inl ⟨_, q2⟩)⟩
  · obtain ⟨m, hm, hv⟩ := Fo.ns
    obtain ⟨v, hx, hr⟩ := hv x av (hsub x av ex)
    obtain ⟨hfree, hout⟩ := hc.caught x (List.mem_map.mpr ⟨(x, av), PySem.mem_of_lookup ex, rfl⟩)
    obtain ⟨c, hcx⟩ := Option.isSome_iff_exists.mp (hcl2 x (PySem.mem_of_lookup hfree))
    refine ⟨v, hx.inner kle ((csFree x hfree).trans hcx) (hcl _ _ hcx) (by rw [hE.kindOf]; exact hout) ?_, hr⟩
    show (relabel scope env).names.lookup x = _
    rw [relabel_eq hE, hE.kindOf]
    exact relS_free hfree
  · rcases hox with h | ⟨c, h, hlt⟩
    · exact absurd rfl h
    · have h : (cs ++ cl).lookup x = some c := h
      have hq := h
      rw [List.lookup_append] at hq
      cases q : cs.lookup x with
      | some c' =>
        rw [q] at hq
        obtain rfl := Option.some.inj hq
        have hm := PySem.mem_of_lookup q
        exact ⟨_, none, h, List.mem_cons_of_mem _ (List.mem_map_of_mem (f := (fun zz => zz.2)) hm), (ok.empty x _ hm).1⟩
      | none =>
        rw [q] at hq
        exact absurd (clLt x c hq) (Nat.not_lt.mpr (Nat.le_of_lt hlt))
  · have e1 : (cs ++ cl).lookup x = some c := e1
    have e2 : (cs ++ cl).lookup y = some c := e2
    rw [List.lookup_append] at e1 e2
    have no : ∀ {x y : Str}, (x, c) ∈ cs → cl.lookup y = some c → False := fun m e => absurd (clLt _ _ e) (Nat.not_lt.mpr (Nat.le_of_lt (ok.empty _ _ m).2))
    cases q1 : cs.lookup x with
    | some c1 =>
      rw [q1] at e1
      obtain rfl := Option.some.inj e1
      have m1 := PySem.mem_of_lookup q1
      cases q2 : cs.lookup y with
      | some c2 =>
        rw [q2] at e2
        obtain rfl := Option.some.inj e2
        exact name_of_addr ok.apart m1 (PySem.mem_of_lookup q2)
      | none => rw [q2] at e2; exact (no m1 e2).elim
    | none =>
      rw [q1] at e1
      cases q2 : cs.lookup y with
      | some c2 =>
        rw [q2] at e2
        obtain rfl := Option.some.inj e2
        exact (no (PySem.mem_of_lookup q2) e1).elim
      | none =>
        rw [q2] at e2
        exact Fo.apart x y c (hcl _ _ e1) (hcl _ _ e2)
inductive BackPost (C : Cx) (env : Env) (own : List Addr) (ρ : Vars) (g : Heap) (D : Addr) (Post : AO → Led → Prop) (lo : Addr) (s' : Shared) : Prop
  | mk (ao' : AO) (L' : Led) (g' : Heap) (p : Post ao' L') (k : Le g g') (Fo : FrameOk C env own ρ g' ((D, ao') :: L') s') (hm : ∃ m, s'.heap.Ns lo m) (h1 : g'.get? lo = none) (h2 : lo ∉ ads (C.all ((D, ao') :: L'))) (h3 : lo ∉ own)
theorem comp_inner {scope : Scope} {e t iter : Expr} {ifs : List Expr} {mid : Env → Addr → Sem Unit} {cl : List (Str × Addr)} {D it : Addr} {ao : AO} {o : Obj} {xs : List AV} {H : Led → Prop} {I : Nat → AO → Led → Prop} {gI : Heap} {ob : Nat → Obj → Prop}
    {Post : AO → Led → Prop} (E : CompE C e 0 t iter ifs mid) (r0 : Room A F.n) (hE : EnvIs F env) (Fo : FrameOk C env own ρ g L s) (hcap : capOk scope F.scope (ρ0.map (fun zz => zz.1)) = true) (hsub : SubV ρ0 ρ)
    (hcl : ∀ x c, cl.lookup x = some c → env.cells.lookup x = some c) (hcl2 : ∀ x, (x, NameKind.free) ∈ scope.names → (cl.lookup x).isSome = true) (hcl3 : ∀ x, (cl.lookup x).isSome = true → (x, NameKind.free) ∈ scope.names)
    (hD : s.heap.get? D = some o) (hor : OR C g ao o) (hdat : NC o) (hDf : g.get? D = none ∧ D ∉ ads (C.all L) ∧ D ∉ own)
    (IT : Iter C A t it xs gI H ob) (hgI : Le gI g) (hob : ItAt s.heap it ob 0) (hitf : g.get? it = none ∧ it ∉ ads (C.all L) ∧ it ∉ own) (hDit : it ≠ D) (bit : C.hB.get? it = none)
    (hI0 : I 0 ao L) (hH : ∀ i ao L, I i ao L → H L)
    (turn : ∀ i x ao L P, xs[i]? = some x → I i ao L → ASG (C.pn P) (compSF F scope) ρ0 L t x fun ρ' L' => SubV ρ0 ρ' ∧ TESTS (C.pn P) (compSF F scope) ρ' L' ifs fun b L2 => if b = true then EMIT C (compSF F scope) mid ρ' L2 ao (I (i + 1)) else I (i + 1) ao L2)
    (done : ∀ ao L, I xs.length ao L → Post ao L) :
    wpAny C.M A (newFunctionEnv scope env.globals cl [] env.qual none .none (some env)) (fun cenv s4 => codeAny C.M A (.compStart e 0 (.ref it) (.ref D) { cenv with scope := relabel scope env })
      (NextOk (BackPost C env own ρ g D Post cenv.locals)) s4) Never s := by
  have hc := capOk_is hcap
  refine wpAny_newCompEnv ?_
  have hns := (Heap.Ns.new s.heap (.type "dict")).keeps (pushCells_keeps scope.names _)
  have ok := cellsFrom_ok scope.names (s.heap.push { cls := .type "dict", data := .dict #[] }) (s.heap.objs.size + 1) [] ⟨fun _ _ hm => (nomatch hm), List.Pairwise.nil⟩ (by rw [Heap.size_push]; exact Nat.le_refl _)
  rw [Heap.size_push] at ok
  have kle : Le s.heap (pushCells (s.heap.push { cls := .type "dict", data := .dict #[] }) scope.names) := fun b ob e => pushCells_keeps _ _ b ob (Heap.get?_push_of_some _ e)
  generalize pushCells (s.heap.push { cls := .type "dict", data := .dict #[] }) scope.names = h1 at hns ok kle ⊢
  rw [cellsFrom_app]
  have csMem := cellsFrom_mem scope.names (s.heap.objs.size + 1)
  have csSome : ∀ x, (x, NameKind.cell) ∈ scope.names → ((cellsFrom (s.heap.objs.size + 1) scope.names []).lookup x).isSome = true := fun x hx => cellsFrom_some _ _ _ _ (.inl hx)
  generalize cellsFrom (s.heap.objs.size + 1) scope.names [] = cs at ok csMem csSome ⊢
  have c3 := (Fo.fresh (heap_none (Nat.le_refl s.heap.objs.size))).2.2
  have ownNone : ∀ a ∈ s.heap.objs.size :: cs.map (fun zz => zz.2), s.heap.get? a = none := fun a ha => heap_none <| (List.mem_cons.mp ha).elim (fun h => Nat.le_of_eq h.symm) fun h => by
    obtain ⟨p, hp, rfl⟩ := List.mem_map.mp h
    exact Nat.le_of_lt (ok.empty p.1 p.2 hp).2
  have Fin := Fo.inner hE hc hsub hcl hcl2 hcl3 hD hDf hns ok csMem csSome kle
  have hE' : EnvIs (compSF F scope) { newEnv scope s.heap.objs.size env.globals (cs ++ cl) env.qual none .none (some env) builtinsNs with scope := relabel scope env } := ⟨relabel_eq hE, hc.kind, hE.globals, hE.builtins, hE.code, (fun q => nomatch q), fun x hx => by
    obtain ⟨p, hp, rfl⟩ := List.mem_map.mp hx
    obtain ⟨hp1, hp2⟩ := List.mem_filter.mp hp
    obtain ⟨c, hc⟩ := Option.isSome_iff_exists.mp (csSome p.1 (beq_iff_eq.mp hp2 ▸ hp1))
    exact .inr ⟨c, (List.lookup_append ..).trans (by rw [hc]; rfl), (ok.empty p.1 c (PySem.mem_of_lookup hc)).2⟩⟩
  have litI : it ∉ ads ((C.pn ((D, .raw o) :: (pinned h1 own ++ C.pins))).all L) := fun h =>
    (List.mem_cons.mp ((perm_pn C D o (pinned h1 own) L).mem_iff.mp h)).elim hDit fun h => (List.mem_append.mp h).elim (fun h => hitf.2.2 (pinned_own h)) hitf.2.1
  have hob4 : ItAt h1 it ob 0 := hob.up kle
  refine codeAny_compStartG (C := C) (E.denS _ _ _) (E.underS _ _ _ _) E.gen (E.quiet _ _ _) (codeAny_mono (comp_loop (C := C) (R := pinned h1 own ++ C.pins) (Pit := C.pins) (E.quiet _ _ _) (E.turn _ _ _) (E.den _ _ _) (E.under _ _ _ _) (F := compSF F scope) r0 hE' (List.sublist_append_right _ _)
    (show Iter (C.pn C.pins) A t it xs gI H ob from IT) hgI hI0 hH turn done hor hdat Fin litI hitf.1 hob4 bit (fun q => by obtain ⟨o1, ho1, _⟩ := hob; exact nomatch (ownNone _ q).symm.trans ho1)) fun r s' hz => ?_) (fun Q hq => IT.self 0 _ Q hob4 hq)
  obtain ⟨rfl, ao', L', hP, g', o', k', hor', hdat', Fo'⟩ := hz
  refine ⟨rfl, ao', L', g', hP, k', Fo.pinOut kle hDf.2.2 k' hor' hdat' Fo', let ⟨m, hm, _⟩ := Fo'.ns; ⟨m, hm⟩, (Fo'.ownFree _ List.mem_cons_self).1, fun h => (Fo'.ownFree _ List.mem_cons_self).2 ((perm_pn C D o' (pinned h1 own) L').mem_iff.mpr ?_), c3⟩
  exact (List.mem_cons.mp (show _ ∈ D :: ads (C.all L') from h)).elim (fun e => e ▸ List.mem_cons_self) fun h => List.mem_cons_of_mem _ (List.mem_append_right _ h)
end
end Mine
end
section
set_option maxRecDepth 100000
set_option linter.unusedVariables false
namespace Mine
open PySem PySem.Spec PySem.Calls PyProof.Rows PySem.W

theorem FrameOk.cellOfKind {C : Cx} {env : Env} {own : List Addr} {ρ : Vars} {L : Led} {g : Heap} {s : Shared} (Fo : FrameOk C env own ρ g L s) {x : Str} {av : AV} (e : ρ.lookup x = some av)
    (h : env.kindOf x = some .cell ∨ env.kindOf x = some .free) : (env.cells.lookup x).isSome = true := by
  obtain ⟨m, hm, hv⟩ := Fo.ns
  obtain ⟨v, hx, hr⟩ := hv x av e
  rcases hx with ⟨a1, _⟩ | ⟨_, c, a2, _⟩ | ⟨_, c, a2, _⟩ | ⟨_, c, o, a2, _⟩
  · rcases h with h | h <;> rw [h] at a1 <;> cases a1
  · rw [a2]; rfl
  · rw [a2]; rfl
  · rw [a2]; rfl
section
variable {C : Cx} {F : SF} {ρ ρ0 : Vars} {L : Led} {scope : Scope} {e t iter : Expr} {ifs : List Expr} {gs : List Comprehension} {mid : Env → Addr → Sem Unit} {newAcc : Sem Value} {o0 : Obj} {ao0 : AO} {Post : AO → Led → Prop}

theorem comp_run (E : CompE C e 0 t iter ifs mid) (hcls : clausesOf e = ⟨t, iter, ifs, 0⟩ :: gs) (hfs : ∀ env x, foldedSetIterable iter env x = pure x)
    (hnew : ∀ A (Q : Value → Shared → Prop) s, Q (.ref s.heap.objs.size) { s with heap := s.heap.push o0 } → wpAny C.M A newAcc Q Never s) (hor : ∀ g, OR C g ao0 o0) (hdat : NC o0) (hfr : o0.isFreed = false)
    (hcap : capOk scope F.scope (ρ0.map (fun zz => zz.1)) = true) (hsub : SubV ρ0 ρ) (h : EV C F ρ L iter fun a L1 => LOOPC C (compSF F scope) mid t ifs ρ0 L1 a ao0 Post)
    {A : Around} {env : Env} {own : List Addr} {g : Heap} {s : Shared} (r0 : Room A F.n) (hE : EnvIs F env) (Fo : FrameOk C env own ρ g L s) {pos : Pos} {use : Option (Value → Sem Unit)} {Q : Value → Shared → Prop}
    (k : ∀ D ao' L' g' Cns s', Post ao' L' → Le g g' → FrameOk C env own ρ g' ((D, ao') :: L') s' → (∃ m, s'.heap.Ns Cns m) → g'.get? Cns = none → Cns ∉ ads (C.all ((D, ao') :: L')) → Cns ∉ own → compPost C.M A Never use Q (.ref D) Cns (.ok .next) s') :
    wpAny C.M A (comprehension e scope env pos newAcc false (eval iter env) use) Q Never s := by
  have hc := hcap
  unfold capOk at hc
  simp only [Bool.and_eq_true, List.all_eq_true] at hc
  obtain ⟨⟨hkind, hnames⟩, hcaught⟩ := hc
  have hkind : scope.kind = .function := by simpa using hkind
  have hcells : ∀ p ∈ scope.names, p.2 = .free → (env.cells.lookup p.1).isSome = true := fun p hp hf => by
    have h1 := (hnames p hp).2
    rw [hf] at h1
    have h2 : p.1 ∈ ρ0.map (fun zz => zz.1) := by simpa using h1
    have h3 := hcaught _ h2
    simp only [Bool.and_eq_true, Bool.or_eq_true, beq_iff_eq] at h3
    obtain ⟨av, hav⟩ : ∃ av, ρ0.lookup p.1 = some av := by
      obtain ⟨q, hq, e⟩ := List.mem_map.mp h2
      cases hl : ρ0.lookup p.1 with
      | some av => exact ⟨av, rfl⟩
      | none =>
        exfalso
        rw [List.lookup_eq_none_iff] at hl
        have := hl q hq
        rw [e] at this
        simp at this
    exact Fo.cellOfKind (hsub _ _ hav) (by rw [hE.kindOf]; exact h3.2)
  obtain ⟨cl, hclos, hcl, hcl2, hcl3⟩ := closureFor_ok env scope hcells
  refine wpAny_comprehension_free hcls (hfs env) hclos hkind (fun x hx hl => ?_) ?_
  · have := (hnames x hx).1.2
    rw [hl] at this
    simpa using this
  refine onV (h A env own g s r0 hE Fo) (fun v s1 g1 L1 k1 Fo1 a ha hz => ?_)
  obtain ⟨xs, H, I, hI, h0, hH, turn, done⟩ := hz
  refine (hI C.pins) A g1 s1 v _ r0 Fo1.rep ha fun it h1 tk1 ob hit hk1 hob IT => ?_
  have Fo2 : FrameOk C env own ρ g1 L1 { s1 with heap := h1, toks := tk1 } := Fo1.ext hk1
  refine hnew A _ _ ?_
  have hDn : h1.get? h1.objs.size = none := heap_none (Nat.le_refl _)
  have Fo3 : FrameOk C env own ρ g1 L1 { s1 with heap := h1.push o0, toks := tk1 } := Fo2.ext (t := tk1) fun b o e => Heap.get?_push_of_some _ e
  have hitlt := hob.lt
  refine wpAny_mono (comp_inner (ρ0 := ρ0) E r0 hE Fo3 hcap hsub hcl hcl2 hcl3 (Heap.get?_push_size _ hfr) (hor g1) hdat (Fo2.fresh hDn) IT (.refl _) (hob.up fun zz zz e => Heap.get?_push_of_some _ e) (Fo1.fresh hit) (fun q => Nat.lt_irrefl _ (q ▸ hitlt)) ?_ h0 hH turn done) (fun cenv s4 h4 => ?_) fun zz zz f => f
  · cases e : C.hB.get? it with
    | none => rfl
    | some o => have := Fo1.rep.sub _ _ (Fo1.rep.base _ _ e); rw [hit] at this; cases this
  · refine codeAny_mono h4 ?_
    intro r s' hz
    obtain ⟨rfl, ao', L', g', hP, k', Fo', hns, n1, n2, n3⟩ := hz
    exact k _ ao' L' g' _ s' hP (k1.trans k') Fo' hns n1 n2 n3

inductive Res (D : Addr) (ao : AO) (L : Led) : AV → Led → Prop
  | froz {ys : List AV} : ao = .list ys → Res D ao L (.lst ys) L
  | led : Res D ao L (.obj D) ((D, ao) :: L)
inductive Hands (D : Addr) (ao : AO) (L : Led) (Q : AV → Led → Prop) : Prop
  | mk (av : AV) (L3 : Led) (r : Res D ao L av L3) (q : Q av L3)
noncomputable abbrev Handed (Q : AV → Led → Prop) (ao : AO) (L : Led) : Prop := ∀ D, Hands D ao L Q
theorem Res.wide {env : Env} {own : List Addr} {D : Addr} {ao : AO} {L L2 : Led} {av : AV} {g : Heap} {s : Shared} (r : Res D ao L av L2) (Fo : FrameOk C env own ρ g ((D, ao) :: L) s) :
    Le g (hideAll s.heap (ads (C.all L2) ++ own)) ∧ FrameOk C env own ρ (hideAll s.heap (ads (C.all L2) ++ own)) L2 s ∧ VR (hideAll s.heap (ads (C.all L2) ++ own)) av (.ref D) := by
  cases r with
  | led =>
    obtain ⟨k, Fo'⟩ := Fo.wide
    exact ⟨k, Fo', .obj _⟩
  | froz e =>
    subst e
    have Fo1 : FrameOk C env own ρ g L s := Fo.weak (.refl _) (List.Sublist.cons _ (List.Sublist.refl _))
    obtain ⟨k, Fo'⟩ := Fo1.wide
    refine ⟨k, Fo', ?_⟩
    obtain ⟨o, e1, vs, n, rfl, e2⟩ := Fo.rep.led (D, _) (Cx.inAll List.mem_cons_self)
    have hDL : D ∉ ads (C.all L) := (List.nodup_cons.mp (show (D :: ads (C.all L)).Nodup from by simpa [Cx.all, Mine.ads] using Fo.rep.nd)).1
    have hDo : D ∉ own := fun h => (Fo.ownFree D h).2 (by simp [Cx.all, Mine.ads])
    exact .lst (hideAll_get _ e1 fun h => (List.mem_append.mp h).elim hDL hDo) rfl rfl (e2.mono k)

theorem comp_none (E : CompE C e 0 t iter ifs mid) (hcls : clausesOf e = ⟨t, iter, ifs, 0⟩ :: gs) (hfs : ∀ env x, foldedSetIterable iter env x = pure x)
    (hnew : ∀ A (Q : Value → Shared → Prop) s, Q (.ref s.heap.objs.size) { s with heap := s.heap.push o0 } → wpAny C.M A newAcc Q Never s) (hor : ∀ g, OR C g ao0 o0) (hdat : NC o0) (hfr : o0.isFreed = false)
    (hcap : capOk scope F.scope (ρ0.map (fun zz => zz.1)) = true) (hsub : SubV ρ0 ρ) {Q : AV → Led → Prop}
    (h : EV C F ρ L iter fun a L1 => LOOPC C (compSF F scope) mid t ifs ρ0 L1 a ao0 (Handed Q))
    {A : Around} {env : Env} {own : List Addr} {g : Heap} {s : Shared} (r0 : Room A F.n) (hE : EnvIs F env) (Fo : FrameOk C env own ρ g L s) {pos : Pos} :
    FrL C A env own ρ (comprehension e scope env pos newAcc false (eval iter env) none) g s (VK Q) := by
  refine comp_run E hcls hfs hnew hor hdat hfr hcap hsub h r0 hE Fo fun D ao' L' g' Cns s' hP k Fo' ⟨m, hm⟩ n1 n2 n3 => ⟨m, hm, fun h' hs => ?_⟩
  have Fo2 : FrameOk C env own ρ g' ((D, ao') :: L') { s' with heap := h', toks := s'.toks } := Fo'.heap (a := Cns) hs.extBut n1 n2 n3
  obtain ⟨av, L3, r, hq⟩ := hP D
  obtain ⟨k2, Fo3, hv⟩ := r.wide Fo2
  exact ⟨_, L3, k.trans k2, Fo3, av, hv, hq⟩

theorem comp_use (E : CompE C e 0 t iter ifs mid) (hcls : clausesOf e = ⟨t, iter, ifs, 0⟩ :: gs) (hfs : ∀ env x, foldedSetIterable iter env x = pure x)
    (hnew : ∀ A (Q : Value → Shared → Prop) s, Q (.ref s.heap.objs.size) { s with heap := s.heap.push o0 } → wpAny C.M A newAcc Q Never s) (hor : ∀ g, OR C g ao0 o0) (hdat : NC o0) (hfr : o0.isFreed = false)
    (hcap : capOk scope F.scope (ρ0.map (fun zz => zz.1)) = true) (hsub : SubV ρ0 ρ) {tg : Expr} {Q : Vars → Led → Prop}
    (h : EV C F ρ L iter fun a L1 => LOOPC C (compSF F scope) mid t ifs ρ0 L1 a ao0 (Handed fun av L3 => ASG C F ρ L3 tg av Q))
    {A : Around} {env : Env} {own : List Addr} {g : Heap} {s : Shared} (r0 : Room A F.n) (hE : EnvIs F env) (Fo : FrameOk C env own ρ g L s) {pos : Pos} :
    wpAny C.M A (comprehension e scope env pos newAcc false (eval iter env) (some (assign tg env))) (fun zz s' => AsPost C env own g Q s') Never s := by
  refine comp_run E hcls hfs hnew hor hdat hfr hcap hsub h r0 hE Fo fun D ao' L' g' Cns s' hP k Fo' ⟨m, hm⟩ n1 n2 n3 => ?_
  obtain ⟨av, L3, r, ha⟩ := hP D
  obtain ⟨k2, Fo3, hv⟩ := r.wide Fo'
  have n2' : Cns ∉ ads (C.all L3) := fun hh => n2 (by
    cases r with
    | led => exact hh
    | froz _ => exact List.mem_cons_of_mem _ hh)
  obtain ⟨ob, es, ep, e1, e2, e3⟩ := id hm
  have inG : (hideAll s'.heap (ads (C.all L3) ++ own)).get? Cns = some ob := hideAll_get _ e1 fun hh => (List.mem_append.mp hh).elim n2' n3
  refine on6 (ha A env own _ s' _ r0 hE Fo3 hv) (fun zz s'' g4 ρ4 L4 k4 Fo4 hq => ?_)
  have in4 := k4 _ _ inG
  refine ⟨m, ⟨ob, es, ep, Fo4.rep.sub _ _ in4, e2, e3⟩, fun h' hs => ?_⟩
  have bit : C.hB.get? Cns = none := by
    cases q : C.hB.get? Cns with
    | none => rfl
    | some o => have := Fo'.rep.base _ _ q; rw [n1] at this; cases this
  have Fo5 := Fo4.hideD in4 (.inl ⟨es, ep, e2⟩) (fun v q => by rw [e2] at q; cases q) bit
  have Fo6 : FrameOk C env own ρ4 (g4.hide Cns) L4 { s'' with heap := h', toks := s''.toks } := Fo5.heap (a := Cns) hs.extBut (Heap.hide_self _ _) (fun hh => by rw [Fo4.rep.free _ hh] at in4; cases in4) n3
  exact ⟨_, ρ4, L4, fun b o q => (Heap.hide_ne g4 fun z => by
    subst z
    have := k _ _ q
    rw [n1] at this; cases this).trans (k4 _ _ (k2 _ _ (k _ _ q))), Fo6, hq⟩

theorem newAcc_list {C : Cx} (A : Around) (Q : Value → Shared → Prop) (s : Shared) (h : Q (.ref s.heap.objs.size) { s with heap := s.heap.push (listOf #[] 0) }) : wpAny C.M A (newList []) Q Never s :=
  wpAny_newObj_type h (Nat.zero_le _)
theorem newAcc_dict {C : Cx} (A : Around) (Q : Value → Shared → Prop) (s : Shared) (h : Q (.ref s.heap.objs.size) { s with heap := s.heap.push (dictOf [] 0) }) : wpAny C.M A newDict Q Never s :=
  wpAny_newObj_type h (Nat.zero_le _)
theorem or_list0 {C : Cx} (g : Heap) : OR C g (.list []) (listOf #[] 0) := ⟨#[], 0, rfl, .nil⟩
theorem or_dict0 {C : Cx} (g : Heap) : OR C g (.dict []) (dictOf [] 0) := ⟨⟨rfl, rfl, rfl⟩, #[], 0, [], rfl, fun e he => by simp at he, .nil, List.nodup_nil, rfl, .nil⟩

section
variable {elt kx vx t2 iter2 : Expr} {ifs2 : List Expr} {pos : Pos} {Q : AV → Led → Prop} {X : XQ} {y : Str} {py spos : Pos}
noncomputable abbrev LC1 (C : Cx) (F : SF) (ρ0 : Vars) (elt t : Expr) (ifs : List Expr) (scope : Scope) (ao0 : AO) (Post : AO → Led → Prop) (a : AV) (L1 : Led) : Prop :=
  LOOPC C (compSF F scope) (fun env D => listEmit elt (.ref D) env) t ifs ρ0 L1 a ao0 Post
theorem ev_ListComp (hcap : capOk scope F.scope (ρ0.map (fun zz => zz.1)) = true) (hsub : SubV ρ0 ρ) (h : EV C F ρ L iter fun a L1 => LC1 C F ρ0 elt t ifs scope (.list []) (Handed Q) a L1) (hfs : ∀ env x, foldedSetIterable iter env x = pure x) :
    EV C F ρ L (.ListComp elt [⟨t, iter, ifs, 0⟩] scope pos) Q := fun A env own g s r0 hE Fo => by
  show FrL C A env own ρ (comprehension (.ListComp elt [⟨t, iter, ifs, 0⟩] scope pos) scope env _ (newList []) false (eval iter env) none) g s (VK Q)
  exact comp_none compE_list1 rfl hfs newAcc_list or_list0 ⟨(fun zz q => nomatch q), ne_gen (c := "list") (by decide)⟩ rfl hcap hsub h r0 hE Fo
theorem ev_ListComp2 (hcap : capOk scope F.scope (ρ0.map (fun zz => zz.1)) = true) (hsub : SubV ρ0 ρ)
    (h : EV C F ρ L iter fun a L1 => LOOPC C (compSF F scope) (nestMid (.ListComp elt [⟨t, iter, ifs, 0⟩, ⟨t2, iter2, ifs2, 0⟩] scope pos) iter2) t ifs ρ0 L1 a (.list []) (Handed Q))
    (hfs : ∀ env x, foldedSetIterable iter env x = pure x) : EV C F ρ L (.ListComp elt [⟨t, iter, ifs, 0⟩, ⟨t2, iter2, ifs2, 0⟩] scope pos) Q := fun A env own g s r0 hE Fo => by
  show FrL C A env own ρ (comprehension (.ListComp elt [⟨t, iter, ifs, 0⟩, ⟨t2, iter2, ifs2, 0⟩] scope pos) scope env _ (newList []) false (eval iter env) none) g s (VK Q)
  exact comp_none compE_list2a rfl hfs newAcc_list or_list0 ⟨(fun zz q => nomatch q), ne_gen (c := "list") (by decide)⟩ rfl hcap hsub h r0 hE Fo
theorem ev_DictComp (hcap : capOk scope F.scope (ρ0.map (fun zz => zz.1)) = true) (hsub : SubV ρ0 ρ)
    (h : EV C F ρ L iter fun a L1 => LOOPC C (compSF F scope) (fun env D => dictEmit kx vx D env) t ifs ρ0 L1 a (.dict []) (Handed Q))
    (hfs : ∀ env x, foldedSetIterable iter env x = pure x) : EV C F ρ L (.DictComp kx vx [⟨t, iter, ifs, 0⟩] scope pos) Q := fun A env own g s r0 hE Fo => by
  show FrL C A env own ρ (comprehension (.DictComp kx vx [⟨t, iter, ifs, 0⟩] scope pos) scope env _ newDict false (eval iter env) none) g s (VK Q)
  exact comp_none compE_dict1 rfl hfs newAcc_dict or_dict0 ⟨(fun zz q => nomatch q), ne_gen (c := "dict") (by decide)⟩ rfl hcap hsub h r0 hE Fo

noncomputable def swapB (F : SF) (scope : Scope) (vline : Nat) (y : Str) (pline : Nat) : Bool := F.scope.names.lookup y == some .local && pline == vline && !(scope.names.any fun (n, k) => n == y && (k == .local || k == .cell))
theorem swaps_list {env : Env} {gens : List Comprehension} {n : Nat} (hE : EnvIs F env) : swapsWith (.ListComp elt gens scope pos) (some (.Name y py)) n env = pure (swapB F scope pos.line y py.line) := by
  have hk : env.blockKind = .function := by unfold Env.blockKind; rw [hE.kindE]; rfl
  unfold swapsWith swapB
  dsimp only
  rw [hk, hE.kindOf]
  simp
  rfl
theorem swaps_dict {env : Env} {gens : List Comprehension} {n : Nat} (hE : EnvIs F env) : swapsWith (.DictComp kx vx gens scope pos) (some (.Name y py)) n env = pure (swapB F scope pos.line y py.line) := by
  have hk : env.blockKind = .function := by unfold Env.blockKind; rw [hE.kindE]; rfl
  unfold swapsWith swapB
  dsimp only
  rw [hk, hE.kindOf]
  simp
  rfl

theorem x_assign_used {value : Expr} (hs : ∀ env, EnvIs F env → swapsWith value (some (.Name y py)) spos.line env = pure true)
    (h : ∀ A env own g s, Room A F.n → EnvIs F env → FrameOk C env own ρ g L s → wpAny C.M A (evalThenUse value env (assign (.Name y py) env)) (fun zz s' => AsPost C env own g X.nx s') Never s) : EX1 C F ρ L (.Assign [.Name y py] value spos) X :=
  fun A env own g s r0 hE Fo => by
    rw [exec_Assign_Name_used _ _ _ _ (hs env hE)]
    exact wpAny_bind (wpAny_standAt (wpAny_bind (wpAny_mono (h A env own g s r0 hE Fo) (fun zz s' hp => wpAny_pure hp) fun zz zz f => f)))
theorem x_assign_ListComp (hsw : swapB F scope pos.line y py.line = true) (hcap : capOk scope F.scope (ρ0.map (fun zz => zz.1)) = true) (hsub : SubV ρ0 ρ)
    (h : EV C F ρ L iter fun a L1 => LC1 C F ρ0 elt t ifs scope (.list []) (Handed fun av L3 => ASG C F ρ L3 (.Name y py) av X.nx) a L1) (hfs : ∀ env x, foldedSetIterable iter env x = pure x) :
    EX1 C F ρ L (.Assign [.Name y py] (.ListComp elt [⟨t, iter, ifs, 0⟩] scope pos) spos) X :=
  x_assign_used (fun env hE => by rw [swaps_list hE, hsw]) fun A env own g s r0 hE Fo => by
    show wpAny C.M A (do let _ ← comprehension (.ListComp elt [⟨t, iter, ifs, 0⟩] scope pos) scope env _ (newList []) false (eval iter env) (some (assign (.Name y py) env))) _ _ s
    exact wpAny_bind (wpAny_mono (comp_use compE_list1 rfl hfs newAcc_list or_list0 ⟨(fun zz q => nomatch q), ne_gen (c := "list") (by decide)⟩ rfl hcap hsub h r0 hE Fo) (fun zz s' hp => wpAny_pure hp) fun zz zz f => f)
theorem x_assign_DictComp (hsw : swapB F scope pos.line y py.line = true) (hcap : capOk scope F.scope (ρ0.map (fun zz => zz.1)) = true) (hsub : SubV ρ0 ρ)
    (h : EV C F ρ L iter fun a L1 => LOOPC C (compSF F scope) (fun env D => dictEmit kx vx D env) t ifs ρ0 L1 a (.dict []) (Handed fun av L3 => ASG C F ρ L3 (.Name y py) av X.nx))
    (hfs : ∀ env x, foldedSetIterable iter env x = pure x) : EX1 C F ρ L (.Assign [.Name y py] (.DictComp kx vx [⟨t, iter, ifs, 0⟩] scope pos) spos) X :=
  x_assign_used (fun env hE => by rw [swaps_dict hE, hsw]) fun A env own g s r0 hE Fo => by
    show wpAny C.M A (do let _ ← comprehension (.DictComp kx vx [⟨t, iter, ifs, 0⟩] scope pos) scope env _ newDict false (eval iter env) (some (assign (.Name y py) env))) _ _ s
    exact wpAny_bind (wpAny_mono (comp_use compE_dict1 rfl hfs newAcc_dict or_dict0 ⟨(fun zz q => nomatch q), ne_gen (c := "dict") (by decide)⟩ rfl hcap hsub h r0 hE Fo) (fun zz s' hp => wpAny_pure hp) fun zz zz f => f)

theorem emit_nest {ao : AO} {Post : AO → Led → Prop} {ρ1 : Vars} {F1 : SF} {L1 : Led} {t0 iter0 : Expr} {ifs0 : List Expr} (hfs : ∀ env x, foldedSetIterable iter2 env x = pure x)
    (h : ∀ P, EV (C.pn P) F1 ρ1 L1 iter2 fun a L2 => LOOPC C F1 (fun env D => listEmit elt (.ref D) env) t2 ifs2 ρ1 L2 a ao Post) :
    EMIT C F1 (nestMid (.ListComp elt [⟨t0, iter0, ifs0, 0⟩, ⟨t2, iter2, ifs2, 0⟩] scope pos) iter2) ρ1 L1 ao Post := fun A cenv own D R g0 s r0 hE hz0 => by
  obtain ⟨g', o, k, hor, hdat, Fo⟩ := hz0
  unfold nestMid
  have E := compE_list2b (C := C) (elt := elt) (t := t0) (iter := iter0) (t2 := t2) (iter2 := iter2) (ifs := ifs0) (ifs2 := ifs2) (scope := scope) (pos := pos)
  refine wpAny_bind (onV (h ((D, .raw o) :: R) A cenv own g' s r0 hE Fo) (fun v s1 g1 L2 k1 Fo1 a ha hz => ?_))
  obtain ⟨xs, H, I, hI, h0, hH, turn, done⟩ := hz
  refine wpAny_bind (wpAny_standAt ?_)
  rw [hfs]
  refine wpAny_bind (wpAny_pure (wpAny_bind (wpAny_holding ?_)))
  have R1 : RepL (C.pn R) g1 L2 s1 := Fo1.rep.unpin (List.Sublist.cons _ (List.Sublist.refl _))
  refine (hI R) A g1 s1 v _ r0 R1 ha fun it h1 tk1 ob hit hk1 hob IT => ?_
  have Fo2 : FrameOk (C.pn ((D, .raw o) :: R)) cenv own ρ1 g1 L2 { s1 with heap := h1, toks := tk1 } := Fo1.ext hk1
  obtain ⟨f1, f2, f3⟩ := Fo1.fresh hit
  have bit : C.hB.get? it = none := by
    cases q : C.hB.get? it with
    | none => rfl
    | some o' => have := Fo1.rep.base _ _ q; rw [f1] at this; cases this
  refine wpAny_bind (wpAny_runOwn (codeAny_mono (codeAny_compStartG (C := C) (E.denS _ _ _) (E.underS _ _ _ _) E.gen (E.quiet _ _ _)
    (comp_loop (C := C) (F := F1) (R := R) (Pit := R) (E.quiet _ _ _) (E.turn _ _ _) (E.den _ _ _) (E.under _ _ _ _) r0 hE (List.Sublist.refl _) IT (.refl _) h0 hH turn done (hor.monoD k1.d) hdat Fo2 f2 f1 hob bit f3)
    (fun Q hq => IT.self 0 _ Q hob hq)) ?_))
  intro r s' hz
  obtain ⟨rfl, ao', L', hP, g3, o3, k3, hor3, hdat3, Fo3⟩ := hz
  exact wpAny_pure ⟨ao', L', hP, g3, o3, (k.trans k1).trans k3, hor3, hdat3, Fo3⟩
end
end
end Mine
end
section
set_option maxRecDepth 100000
set_option linter.unusedVariables false
namespace Mine
open PySem PySem.Spec PySem.Calls PyProof.Rows PySem.W

theorem isStr_is {C : Cx} (x : Str) (v : Value) : v.isStr x = C.SK.is x v := by
  show v.isStr x = Value.isStrOf x v
  cases v <;> rfl
theorem stored_same {kvs : List (Str × Value)} {kv : Str × Value} {v : Value} (hn : kv.1 ∉ kvs.map (fun zz => zz.1)) : stored (kv :: kvs) kv.1 v = (kv.1, v) :: kvs := by
  unfold stored
  rw [if_pos (by simp), List.map_cons, if_pos rfl, map_store_of_not_mem _ _ _ hn]
theorem stored_other {kvs : List (Str × Value)} {kv : Str × Value} {x : Str} {v : Value} (h : kv.1 ≠ x) : stored (kv :: kvs) x v = kv :: stored kvs x v := by
  unfold stored
  by_cases h1 : (kvs.any fun kv => decide (kv.1 = x)) = true
  · rw [if_pos h1, if_pos (by rw [List.any_cons, h1, Bool.or_true]), List.map_cons, if_neg h]
  · rw [if_neg h1, if_neg (by rw [List.any_cons]; simp only [Bool.or_eq_true, decide_eq_true_eq]; rintro (q | q); exact h q; exact h1 q)]; rfl
theorem putL_pairs {C : Cx} {x : Str} {h : Int} {t : Tok} {v : Value} : ∀ {es : List DictEntry} {kvs : List (Str × Value)}, Pairs C.SK es kvs → (kvs.map (fun zz => zz.1)).Nodup → Pairs C.SK (putL x h (.str x t) v es) (stored kvs x v)
  | _, _, .nil, _ => .cons (by show Value.isStrOf x (.str x t) = true; simp [Value.isStrOf]) rfl .nil
  | e :: es, kv :: kvs, .cons h1 h2 h3, hn => by
    have hn' := List.nodup_cons.mp hn
    unfold putL
    obtain ⟨u, hu⟩ := Value.isStrOf_shape h1
    by_cases hx : kv.1 = x
    · have : e.key.isStr x = true := by rw [hu]; simp [Value.isStr, hx]
      rw [if_pos this]
      subst hx
      rw [stored_same hn'.1]
      exact .cons h1 rfl h3
    · have : ¬ e.key.isStr x = true := by rw [hu]; simp [Value.isStr, hx]
      rw [if_neg this, stored_other hx]
      exact .cons h1 h2 (putL_pairs h3 hn'.2)
theorem putL_keys {C : Cx} {x : Str} {t : Tok} {v : Value} : ∀ {es : List DictEntry}, (∀ e ∈ es, ∃ k, C.SK.is k e.key = true ∧ e.hash = C.SK.hash k) → ∀ e ∈ putL x (C.SK.hash x) (.str x t) v es, ∃ k, C.SK.is k e.key = true ∧ e.hash = C.SK.hash k
  | [], _, e, he => by
    have : e = ⟨C.SK.hash x, .str x t, v⟩ := by simpa [putL] using he
    subst this
    exact ⟨x, by show Value.isStrOf x (.str x t) = true; simp [Value.isStrOf], rfl⟩
  | e0 :: es, h, e, he => by
    unfold putL at he
    split at he
    · rcases List.mem_cons.mp he with rfl | he
      · exact h e0 List.mem_cons_self
      · exact h e (List.mem_cons_of_mem _ he)
    · rcases List.mem_cons.mp he with rfl | he
      · exact h _ List.mem_cons_self
      · exact putL_keys (fun e he => h e (List.mem_cons_of_mem _ he)) e he
theorem stored_nodup {kvs : List (Str × Value)} {x : Str} {v : Value} (h : (kvs.map (fun zz => zz.1)).Nodup) : ((stored kvs x v).map (fun zz => zz.1)).Nodup := by
  unfold stored
  by_cases h1 : (kvs.any fun kv => decide (kv.1 = x)) = true
  · rw [if_pos h1, keys_map_store]; exact h
  · rw [if_neg h1, List.map_append, List.nodup_append]
    refine ⟨h, by simp, fun a ha b hb q => ?_⟩
    simp only [List.map_cons, List.map_nil, List.mem_singleton] at hb
    subst hb; subst q
    refine h1 (List.any_eq_true.mpr ?_)
    obtain ⟨p, hp, e⟩ := List.mem_map.mp ha
    exact ⟨p, hp, by simpa using e⟩

theorem lookup_of_keys {g : Heap} : ∀ {es : List (Str × AV)} {kvs : List (Str × Value)} {x : Str}, kvs.map (fun zz => zz.1) = es.map (fun zz => zz.1) → VRs g (es.map (fun zz => zz.2)) (kvs.map (fun zz => zz.2)) →
    match es.lookup x with | some av => ∃ v, valueAt kvs x = some v ∧ VR g av v | none => valueAt kvs x = none
  | [], [], x, _, _ => rfl
  | [], _ :: _, _, h, _ => by simp at h
  | _ :: _, [], _, h, _ => by simp at h
  | e :: es, kv :: kvs, x, h, hv => by
    simp only [List.map_cons, List.cons.injEq] at h
    have hv : VRs g (e.2 :: es.map (fun zz => zz.2)) (kv.2 :: kvs.map (fun zz => zz.2)) := hv
    cases hv with
    | cons q1 q2 =>
      have ih := lookup_of_keys (x := x) h.2 q2
      unfold valueAt at *
      rw [List.find?_cons, List.lookup_cons]
      by_cases hx : e.1 = x
      · subst hx
        simp [h.1]
        exact q1
      · have hx' : (x == e.1) = false := by simpa using fun q => hx q.symm
        rw [hx', show decide (kv.1 = x) = false by simp [h.1, hx]]
        exact ih
theorem lookIn_or {C : Cx} {g : Heap} {es : List (Str × AV)} {o : Obj} (h : OR C g (.dict es) o) (x : Str) :
    match es.lookup x with | some av => ∃ v, lookIn x o = some (some v) ∧ VR g av v | none => lookIn x o = some none := by
  obtain ⟨e0, cs, ep, kvs, e1, e2, e3, e4, e5, e6⟩ := h
  have key : lookIn x o = some (valueAt kvs x) := by
    unfold lookIn
    rw [e1]
    dsimp only
    have hf := e3.find x
    have hfun : (fun e : DictEntry => e.key.isStr x) = fun e => C.SK.is x e.key := by funext e; exact isStr_is x e.key
    rw [hfun]
    cases hh : cs.toList.find? (fun e => C.SK.is x e.key) with
    | some e => rw [hh] at hf; rw [← hf]; rfl
    | none =>
      rw [hh] at hf; rw [← hf]
      dsimp only
      rw [if_neg]
      · rfl
      · intro hany
        obtain ⟨e, he, hr⟩ := List.any_eq_true.mp hany
        obtain ⟨k, hk, _⟩ := e2 e (by simpa using he)
        obtain ⟨u, hu⟩ := Value.isStrOf_shape hk
        unfold DictEntry.refKey at hr
        rw [hu] at hr
        cases hr
  have := lookup_of_keys (x := x) e5 e6
  rw [key]
  cases hl : es.lookup x with
  | some av => rw [hl] at this; obtain ⟨v, h1, h2⟩ := this; exact ⟨v, by rw [h1], h2⟩
  | none => rw [hl] at this; dsimp only at this ⊢; rw [this]

noncomputable def okA : AV → Bool
  | .cst v => handedIn v
  | _ => true
theorem okA_handed {g : Heap} {av : AV} {v : Value} (h : VR g av v) (k : okA av = true) : handedIn v = true := by
  cases h <;> first | rfl | exact k
noncomputable def ownAttr (K : Frag) (c : Addr) (name : Str) : Bool := plainGet K c name && hasDictIn K c && (findIn K (.ref c) name == some none)
noncomputable def setsPlain (K : Frag) (c : Addr) (name : Str) : Bool := (findIn K (.ref c) "__setattr__" == some (some (.builtin "object.__setattr__"))) && plainOver K c && (takerIn K c name == some none) && hasDictIn K c
noncomputable def methAttr (K : Frag) (c : Addr) (name : Str) (f : Addr) : Bool := plainGet K c name && hasDictIn K c && (findIn K (.ref c) name == some (some (.ref f))) && isFn K (.ref f)

noncomputable def GETA (C : Cx) (n : Nat) (a : AV) (name : Str) (L : Led) (Q : AV → Led → Prop) : Prop :=
  ∀ A g s v (b : Bool), Room A n → RepL C g L s → VR g a v → OpL C A (getAttr v name b) g s (VK Q)
noncomputable def SETA (C : Cx) (n : Nat) (a : AV) (name : Str) (x : AV) (L : Led) (Q : Led → Prop) : Prop :=
  ∀ A g s v u, Room A n → RepL C g L s → VR g a v → VR g x u → OpL C A (setAttr v name u) g s (EK fun zz L' => Q L')

section
variable {C : Cx} {n : Nat} {L : Led} {Q : AV → Led → Prop}
theorem instAt {x d K : Addr} {es : List (Str × AV)} {g : Heap} {s : Shared} (R : RepL C g L s) (h1 : (x, .inst K d) ∈ L) (h2 : (d, .dict es) ∈ L) :
    ∃ ox od, InstAt s.heap x ox K (some od) ∧ OR C g (.dict es) od ∧ ox.dict = some d ∧ s.heap.get? d = some od := by
  obtain ⟨ox, e1, sl, rfl⟩ := R.led _ (Cx.inAll h1)
  obtain ⟨od, e2, e3⟩ := R.led _ (Cx.inAll h2)
  exact ⟨_, od, ⟨e1, rfl, rfl, e2⟩, e3, rfl, e2⟩
theorem geta_own {x d K : Addr} {es : List (Str × AV)} {name : Str} {av : AV} (h1 : (x, .inst K d) ∈ L) (h2 : (d, .dict es) ∈ L) (hc : ownAttr C.K K name = true) (hl : es.lookup name = some av) (ho : okA av = true) (h : Q av L) :
    GETA C n (.obj x) name L Q := fun A g s v b r R hv => by
  cases hv
  obtain ⟨ox, od, I, hor, _, _⟩ := instAt R h1 h2
  unfold ownAttr at hc
  simp only [Bool.and_eq_true, beq_iff_eq] at hc
  have hlk := lookIn_or hor name
  rw [hl] at hlk
  obtain ⟨v, e1, e2⟩ := hlk
  refine get_value R.Xs I (plainGet_of hc.1.1).1 (findObj_own hc.1.2 hc.2 rfl e1) (okA_handed e2 ho) ⟨g, L, .refl g, R.toks _, av, e2, h⟩
theorem getm_inst {x d K f : Addr} {es : List (Str × AV)} {name : Str} {Q : AV → List AV → Led → Prop} (h1 : (x, .inst K d) ∈ L) (h2 : (d, .dict es) ∈ L) (hc : methAttr C.K K name f = true) (hl : es.lookup name = none) (h : Q (.obj f) [.obj x] L) :
    GETM C n (.obj x) name L Q := fun A g s v pl r R hv => by
  cases hv
  obtain ⟨ox, od, I, hor, _, _⟩ := instAt R h1 h2
  unfold methAttr at hc
  simp only [Bool.and_eq_true, beq_iff_eq] at hc
  have hlk := lookIn_or hor name
  rw [hl] at hlk
  have hp := plainGet_of hc.1.1.1
  have hfn : typeIn C.K (.ref f) = some (.type "function") := by have := hc.2; unfold isFn at this; exact beq_iff_eq.mp this
  refine method_fn R.Xs I hp.1 hp.2 hc.1.2 hfn (by unfold shadowIn; dsimp only; rw [hlk]; rfl) ⟨g, L, .refl g, R, .obj f, [.obj x], .obj _, .cons (.obj _) .nil, h⟩
theorem geta_meth {x d K f : Addr} {es : List (Str × AV)} {name : Str} (h1 : (x, .inst K d) ∈ L) (h2 : (d, .dict es) ∈ L) (hc : methAttr C.K K name f = true) (hf : specialIn C.K (.ref f) "__get__" = some (some (.builtin "function.__get__")))
    (ht : takesIn C.K (.ref f) = some false) (hcp : copiedNames.contains name = false) (hl : es.lookup name = none) (h : Q (.meth f (.obj x)) L) : GETA C n (.obj x) name L Q := fun A g s v b r R hv => by
  cases hv
  obtain ⟨ox, od, I, hor, _, _⟩ := instAt R h1 h2
  unfold methAttr at hc
  simp only [Bool.and_eq_true, beq_iff_eq] at hc
  have hlk := lookIn_or hor name
  rw [hl] at hlk
  have hp := plainGet_of hc.1.1.1
  have hfn : typeIn C.K (.ref f) = some (.type "function") := by have := hc.2; unfold isFn at this; exact beq_iff_eq.mp this
  obtain ⟨cd, hcd, hhd⟩ := any_some (show (clsIn C.K K).any (·.hasDict) = true from hc.1.1.2)
  have hfo : findObj C.K K (some od) name = some (.bind (.builtin "function.__get__") (.ref f)) := by
    unfold findObj
    rw [hcd, hc.1.2]
    simp only [Option.bind_some, hf, ht]
    unfold W.ownOf
    rw [hhd]
    simp only [if_true, hlk, Option.bind_some, hcp, Bool.false_and, Bool.false_eq_true, if_false]
  refine get_bind R.Xs I hp.1 hfo hp.2 (wpAny_call (fn_get (s := { s with toks := s.toks + 1 }) R.Xs hfn ?_))
  show wpAny _ _ (handedOut _) _ _ _
  obtain ⟨g', k, R', hg⟩ := R.allocG (o := methodObj (.ref f) (.ref x)) rfl (s.toks + 1)
  exact wpAny_pure ⟨g', L, k, R', .meth f (.obj x), .recd (by decide) hg (.cons (.obj _) (.cons (.obj _) .nil)), h⟩

theorem seta_own {x d K : Addr} {es : List (Str × AV)} {name : Str} {av : AV} {L' : Led} {Q : Led → Prop} (h1 : (x, .inst K d) ∈ L) (h2 : (d, .dict es) ∈ L) (hc : setsPlain C.K K name = true) (hS : LSet d (.dict (putE es name av)) L L') (hz : es.length ≤ 1000) (h : Q L') :
    SETA C n (.obj x) name av L Q := fun A g s v u r R hv hu => by
  cases hv
  obtain ⟨ox, od, I, hor, hd, hod⟩ := instAt R h1 h2
  unfold setsPlain at hc
  simp only [Bool.and_eq_true, beq_iff_eq] at hc
  obtain ⟨⟨⟨c1, c2⟩, c3⟩, c4⟩ := hc
  have I0 := I
  refine set_plain R.Xs I c1 (osa_open (s := { s with toks := s.toks + 1 }) R.Xs I c2 c3 fun b => ?_)
  obtain ⟨cd, hcd, hhd⟩ := any_some (show (clsIn C.K K).any (·.hasDict) = true from c4)
  obtain ⟨hx, hcl, hn, -⟩ := I
  obtain ⟨oc, odi, oda, osl⟩ := ox
  dsimp only at hcl hd
  subst hcl hd
  refine wpAny_bind (wpAny_pure (wpAny_bind (wpAny_bind (wpAny_loadPart (s := { s with toks := s.toks + 1 }) hx (wpAny_bind (Looks.here (s := { s with toks := s.toks + 1 }) (looks_clsIn (M := C.M) R.Xs hcd) ?_))))))
  rw [hhd]
  refine wpAny_pure (a := some d) (wpAny_bind (wpAny_pure (wpAny_bind ?_)))
  unfold nsSet
  refine wpAny_bind (wpAny_bind (wpAny_askSetting (wpAny_pure (wpAny_bind (wpAny_mkText (wpAny_bind (wpAny_loadPart hod ?_)))))))
  obtain ⟨⟨w1, w2, w3⟩, cs, ep, kvs, e1, e2, e3, e4, e5, e6⟩ := id hor
  obtain ⟨q1, q2, q3, q4⟩ := od
  dsimp only at w1 w2 w3 e1
  subst w1 w2 w3 e1
  have hlen : cs.size = es.length := by
    have a1 := e3.length
    have a2 : kvs.length = es.length := by have := congrArg List.length e5; simpa using this
    simpa [a2] using a1
  have hlk := lookIn_or hor name
  have hc : (!cs.any (·.key.isStr name) && cs.any (·.refKey)) = false := by
    have : cs.any (·.refKey) = false := by
      rw [Bool.eq_false_iff]
      intro hany
      rw [← Array.any_toList] at hany
      obtain ⟨e, he, hr⟩ := List.any_eq_true.mp hany
      obtain ⟨k, hk, _⟩ := e2 e (by simpa using he)
      obtain ⟨u, hu⟩ := Value.isStrOf_shape hk
      unfold DictEntry.refKey at hr
      rw [hu] at hr
      cases hr
    rw [this, Bool.and_false]
  dsimp only
  rw [aRefKeyMayBeTheName_at, hc]
  refine wpAny_updatePart hod ?_
  have hput := putName_dict name (PyData.keyHash C.w.params name) (.str name (s.toks + 1)) u cs.toList ep
  have hobj : (Obj.putName name (PyData.keyHash C.w.params name) (.str name (s.toks + 1)) u { cls := .type "dict", data := .dict cs ep }) = dictOf (putL name (PyData.keyHash C.w.params name) (.str name (s.toks + 1)) u cs.toList) (putN name cs.toList ep) := hput
  have hup := Heap.get?_update_self (h := s.heap) (a := d) (Obj.putName name (PyData.keyHash C.w.params name) (.str name (s.toks + 1)) u) hod (by rw [hobj]; rfl)
  rw [hobj] at hup
  obtain ⟨s1, s2⟩ := putE_stored (x := name) e5 e6 hu
  have hlen2 : (putL name (PyData.keyHash C.w.params name) (.str name (s.toks + 1)) u cs.toList).length ≤ cs.size + 1 := by
    have : ∀ l : List DictEntry, (putL name (PyData.keyHash C.w.params name) (.str name (s.toks + 1)) u l).length ≤ l.length + 1 := by
      intro l
      induction l with
      | nil => simp [putL]
      | cons e r ih => unfold putL; split <;> simp <;> omega
    simpa using this cs.toList
  refine wpAny_bind (wpAny_lookBehind hup (pastItsLine_dict (by rw [List.size_toArray, sizeLine_eq]; omega)) ?_)
  refine wpAny_pure ⟨g, L', .refl g, R.set hS (Heap.SameBut.update ..) ⟨_, hup, ⟨rfl, rfl, rfl⟩, _, _, stored kvs name u, rfl, fun e he => ?_, ?_, stored_nodup e4, s1, s2⟩ _, h⟩
  · exact putL_keys (C := C) (x := name) (t := s.toks + 1) (v := u) (es := cs.toList) (fun e he => e2 e (by simpa using he)) e (List.mem_toArray.mp he)
  · simpa using putL_pairs (C := C) e3 e4
end
end Mine
end
section
set_option maxRecDepth 100000
set_option maxHeartbeats 4000000
set_option linter.unusedVariables false
namespace Mine
open PySem PySem.Spec PySem.Calls PyProof.Rows PySem.W
section
variable {C : Cx} {F : SF} {ρ : Vars} {L : Led} {n : Nat} {Q : AV → Led → Prop}
theorem ev_Attr {o : Expr} {name : Str} {pos : Pos} (h : EV C F ρ L o fun a L1 => GETA C F.n a name L1 Q) (hb : ∀ env whole, attributeBase o name env whole = whole) : EV C F ρ L (.Attribute o name pos) Q := fun A env own g s r0 hE Fo => by
  show FrL C A env own ρ (attributeBase o name env (eval o env) >>= fun ov => standAt pos.atName >>= fun zz => holding [ov] (getAttr ov name true) >>= fun r => letTemporaryGo o ov r >>= fun zz => pure r) g s (VK Q)
  rw [hb]
  refine (h A env own g s r0 hE Fo).bindV fun g1 v L1 s1 k1 Fo1 a ha h1 => .stand ?_
  refine FrL.bind (.holding (Fo1.liftV fun g₁ k R => h1 A g₁ s1 v true r0 R (ha.mono k))) fun g2 w L2 s2 k2 Fo2 ⟨b, hb, h2⟩ => ?_
  exact wpAny_bind (wpAny_letTemporaryGo (wpAny_pure ⟨g2, L2, .refl _, Fo2, b, hb, h2⟩))
theorem asg_attr {o : Expr} {name : Str} {pos : Pos} {av : AV} {Q : Vars → Led → Prop} (h : EV C F ρ L o fun a L1 => SETA C F.n a name av L1 fun L2 => Q ρ L2) : ASG C F ρ L (.Attribute o name pos) av Q := fun A env own g s v r0 hE Fo hv => by
  show wpAny C.M A (holding [v] (eval o env) >>= fun ov => standAt pos.atName >>= fun zz => holding [v, ov] (setAttr ov name v) >>= fun zz => release [v, ov] []) _ _ _
  refine wpAny_bind (wpAny_holding (onV (h A env own g s r0 hE Fo) (fun ov s1 g1 L1 k1 Fo1 a ha h1 => wpAny_bind (wpAny_standAt ?_))))
  refine wpAny_bind (wpAny_holding (on5 (Fo1.liftE fun g₁ k R => h1 A g₁ s1 ov v r0 R (ha.mono k) ((hv.mono k1).mono k)) (fun zz s2 g2 L2 k2 Fo2 h2 => ?_)))
  exact wpAny_release ⟨g2, ρ, L2, k1.trans k2, Fo2, h2⟩

theorem callc_meth {f : Addr} {self : AV} {xs : List AV} {ks : List (Str × AV)} (h : CALLC C n (.obj f) (self :: xs) ks L Q) : CALLC C n (.meth f self) xs ks L Q := fun A g s vf vs kv r R hf hv hk => by
  apply hf.eRecd2; intro a v1 v2 h1 q1 q2
  obtain rfl := q1.isObj
  exact method_call (R.sub _ _ h1) (h A g s (.ref f) (v2 :: vs) kv r R (.obj f) (.cons q2 hv) hk)
set_option tactic.hygienic true in
theorem keep_methK {f : Addr} {self : AV} (hf : fnIn C.K f = true) : KEEP C (.meth f self) := by
  unfold fnIn at hf
  split at hf
  · rename_i h; exact keep_meth h
  · cases hf

theorem tcw (a : Args) : (Code.builtin "type.__call__" a).weight ≤ 3 := by
  unfold Code.weight
  have : (Code.builtin "type.__call__" a).frames = 0 := by kernel_rfl
  rw [this]
  have h2 : (Code.builtin "type.__call__" a).isCaller = false := by kernel_rfl
  rw [h2]
  split <;> split <;> first | (simp; done) | (simp; omega)
theorem tcu (a : Args) : (Code.builtin "type.__call__" a).cUnits = 1 := by
  unfold Code.cUnits
  have : (Code.builtin "type.__call__" a).frames = 0 := by kernel_rfl
  simp [this]
theorem AV_alloc2 {g : Heap} {s : Shared} {K : Addr} (R : RepL C g L s) (t : Nat) :
    RepL C g ((s.heap.objs.size + 1, .inst K s.heap.objs.size) :: (s.heap.objs.size, .dict []) :: L) { s with heap := (s.heap.push emptyDict).push (instObj K s.heap.objs.size), toks := t } := by
  have R1 := R.alloc (o := emptyDict) (x := .dict []) ⟨⟨rfl, rfl, rfl⟩, #[], 0, [], rfl, fun e he => by simp at he, .nil, List.nodup_nil, rfl, .nil⟩ rfl t
  have R2 := R1.alloc (o := instObj K s.heap.objs.size) (x := .inst K s.heap.objs.size) ⟨#[], rfl⟩ rfl t
  have e : (s.heap.push emptyDict).objs.size = s.heap.objs.size + 1 := Heap.size_push _ _
  simp only [e] at R2
  exact R2
theorem call_class {K fI : Addr} {xs : List AV} {ks : List (Str × AV)} (hm : makesIn C.K K = true) (hi : findIn C.K (.ref K) "__init__" = some (some (.ref fI))) (hf : typeIn C.K (.ref fI) = some (.type "function"))
    (h : ∀ x d, CALLC C (n + 1) (.obj fI) (.obj x :: xs) ks ((x, .inst K d) :: (d, .dict []) :: L) fun v L' => v = .none ∧ Q (.obj x) L') : CALLC C n (.obj K) xs ks L Q := fun A g s vf vs kv r R hvf hvs hk => by
  cases hvf
  have Y := makes_of (M := C.M) R.Xs hm
  obtain ⟨hh, gg, dd, t, os⟩ := s
  refine make_core Y (looks_findIn R.Xs hi) (fun self => bind_fn R.Xs self hf) (.inl rfl) ?_
  have R' := AV_alloc2 (K := K) R t
  have rm : Room (A.under (.builtin "type.__call__" ⟨.ref K :: vs, (ks.map (fun zz => zz.1)).zip kv⟩)) (n + 1) := by
    have w1 := tcw ⟨.ref K :: vs, (ks.map (fun zz => zz.1)).zip kv⟩
    have w2 := tcu ⟨.ref K :: vs, (ks.map (fun zz => zz.1)).zip kv⟩
    exact ⟨r.handled, by show A.depth + (Code.builtin "type.__call__" ⟨.ref K :: vs, (ks.map (fun zz => zz.1)).zip kv⟩).weight ≤ _; have := r.depth; omega, by show A.units + (Code.builtin "type.__call__" ⟨.ref K :: vs, (ks.map (fun zz => zz.1)).zip kv⟩).cUnits ≤ _; have := r.units; omega⟩
  refine codeAny_mono (h _ _ _ g _ (.ref fI) (.ref (hh.objs.size + 1) :: vs) kv rm R' (.obj _) (.cons (.obj _) hvs) hk) ?_
  rintro rr s' ⟨v, rfl, g', L', k, R2, av, hv, rfl, hq⟩
  cases hv
  exact ⟨rfl, _, rfl, g', L', k, R2, .obj _, .obj _, hq⟩
end
end Mine
end
section
set_option maxRecDepth 100000
set_option maxHeartbeats 4000000
set_option linter.unusedVariables false
namespace Mine
open PySem PySem.Spec PySem.Calls PyProof.Rows PySem.W
theorem md_get_lookup : typeLookup (.type "method_descriptor") "__get__" = pure (some (.builtin "method_descriptor.__get__")) := by rw [typeLookup_type, builtinLookup_eq_fast]; kernel_rfl
theorem md_set_lookup : typeLookup (.type "method_descriptor") "__set__" = pure none := by rw [typeLookup_type, builtinLookup_eq_fast]; kernel_rfl
theorem md_del_lookup : typeLookup (.type "method_descriptor") "__delete__" = pure none := by rw [typeLookup_type, builtinLookup_eq_fast]; kernel_rfl
theorem md_entry : entryFor table "method_descriptor.__get__" = some Builtin.«method_descriptor.__get__» := entryFor_of_tree (by kernel_rfl)
theorem md_args (a b c : Value) : argsOk "method_descriptor.__get__" ⟨[a, b, c], []⟩ := by unfold argsOk; kernel_rfl
theorem md_slot : Slot "method_descriptor" "__get__" "method_descriptor.__get__" :=
  .of (owner := "method_descriptor") (n := "__get__") md_get_lookup (by decide +kernel) (by decide +kernel) (by decide +kernel) (by first | exact .inl (by decide +kernel) | exact .inr (by decide +kernel)) (by rw [isSubtype_type]; kernel_rfl)
section
variable {prog : Program} {w : World} {A : Around} {E : Value → Shared → Prop} {s : Shared}
theorem getAttr_append {a : Addr} {xs : Array Value} {k : Nat} {b : Bool} {Q : Value → Shared → Prop} (hx : s.heap.get? a = some (listOf xs k))
    (h : ∀ t, Q (.ref s.heap.objs.size) { s with heap := s.heap.push (fldsOf "builtin_function_or_method" #[.builtin "list.append", .ref a]), toks := t }) :
    wpAny (model prog w) A (getAttr (.ref a) (Str.ofString "append") b) Q E s := by
  obtain ⟨hp, g, d, tk, os⟩ := s
  have hT : ∀ tk', (⟨hp, g, d, tk', os⟩ : Shared).TypeIs (.ref a) "list" := fun zz => ⟨_, hx, rfl⟩
  have f3 := PySem.F.slot_list_getattribute.lookup
  have f4 := PySem.F.slot_list_getattribute.bind (.ref a)
  have f5 := am_list_getattr_none
  unfold getAttr getAttrBy
  repeat (any_goals (first | assumption | exact hT _ | wp_step))
  have e1 : (b && onTheHeap (Value.builtin "list.__getattribute__")) = false := by cases b <;> rfl
  rw [e1, if_neg (by simp)]
  unfold boundAndCalled
  rw [f4]
  refine wpAny_bind (wpAny_pure ?_)
  dsimp only [List.cons_append, List.nil_append]
  refine wpAny_call_entry PySem.F.slot_list_getattribute (hT _) am_entry_list_getattribute ?_ (PySem.F.args_list_getattribute_2 _ _)
  have l1 : typeLookup (.type "list") (Str.ofString "append") = pure (some (.builtin "list.append")) := PySem.F.slot_list_append.lookup
  have l2 := PySem.F.type_list_append
  have l3 := md_get_lookup
  have l4 := md_set_lookup
  have l5 := md_del_lookup
  unfold Builtin.«object.__getattribute__»
  repeat (any_goals (first | assumption | exact hT _ | wp_step))
  have hT2 : (⟨hp, g, d, tk + 1, os⟩ : Shared).TypeIs (.builtin "list.append") "method_descriptor" := l2
  refine codeAny_call_builtin md_slot.plain md_entry (md_slot.check _ _ _ _ _ _ _ _ hT2 (md_args _ _ _) ?_)
  have l6 : isSubtype (.type "list") (.type "list") = pure true := by rw [isSubtype_type]; kernel_rfl
  unfold Builtin.«method_descriptor.__get__»
  repeat (any_goals (first | assumption | exact hT _ | wp_step))
  have l7 : isSubtype (listOf xs k).cls (Value.type (".".intercalate ("list.append".cutAt '.').dropLast)) = pure true := by
    rw [show (".".intercalate ("list.append".cutAt '.').dropLast) = "list" by decide +kernel]; exact l6
  refine wpAny_of_eq l7 ?_
  refine wpAny_pure ?_
  refine wpAny_bind (wpAny_newObj_type ?_ (by show 2 ≤ sizeLine + 2; omega))
  exact wpAny_pure (wpAny_pure ⟨_, rfl, wpAny_pure (h _)⟩)
end
end Mine
end
section
set_option maxRecDepth 100000
set_option maxHeartbeats 4000000
set_option linter.unusedVariables false
namespace Mine
open PySem PySem.Spec PySem.Calls PyProof.Rows PySem.W

noncomputable def ITEM (C : Cx) (n : Nat) (a i : AV) (L : Led) (Q : AV → Led → Prop) : Prop :=
  ∀ A g s o iv, Room A n → RepL C g L s → VR g a o → VR g i iv → (∃ T id, s.TypeIs o T ∧ typeLookup (.type T) "__getitem__" = pure (some (.builtin id))) ∧ OpL C A (getItem o iv) g s (VK Q)
section
variable {C : Cx} {F : SF} {ρ : Vars} {L : Led} {n : Nat} {Q : AV → Led → Prop}
set_option tactic.hygienic true in
theorem subscripted_eq (slice : Expr) (o i : Value) : ∃ ops, subscripted slice false o i = operate ops (getItem o i) := by
  unfold subscripted
  split
  · exact ⟨_, rfl⟩
  · rename_i h; cases h
  · exact ⟨_, rfl⟩
theorem ev_Sub {value slice : Expr} {pos : Pos} (h : EV C F ρ L value fun o L1 => EV C F ρ L1 slice fun i L2 => ITEM C F.n o i L2 Q) : EV C F ρ L (.Subscript value slice pos) Q := fun A env own g s r0 hE Fo => by
  rw [PySem.eval_Subscript]
  refine wpAny_bind (onV (h A env own g s r0 hE Fo) (fun o s1 g1 L1 k1 Fo1 a ha h1 => ?_))
  refine wpAny_bind (wpAny_holding (onV (h1 A env own g1 s1 r0 hE Fo1) (fun i s2 g2 L2 k2 Fo2 b hb h2 => wpAny_bind (wpAny_standAt ?_))))
  obtain ⟨⟨T, id, hT, hl⟩, _⟩ := h2 A g2 s2 o i r0 Fo2.rep (ha.mono k2) hb
  refine wpAny_bind ?_
  rw [getitemInPython_of_ne hT.not_modules]
  refine wpAny_bind (wpAny_specialOf hT hl ?_)
  obtain ⟨ops, hs⟩ := subscripted_eq slice o i
  have hop : FrL C A env own ρ (getItem o i) g2 s2 (VK Q) := Fo2.liftV fun g₁ k R => (h2 A g₁ s2 o i r0 R ((ha.mono k2).mono k) (hb.mono k)).2
  have fin : wpAny C.M A (subscripted slice false o i) (fun r s₃ => wpAny C.M A (letTemporaryGo value o r >>= fun zz => pure r) (P5 (FrameOk C env own ρ) g (VK Q)) Never s₃) Never s2 := by
    rw [hs]
    exact wpAny_operating (onV hop (fun r s3 g3 L3 k3 Fo3 av h3 h4 => wpAny_bind (wpAny_letTemporaryGo (wpAny_pure ⟨g3, L3, (k1.trans k2).trans k3, Fo3, av, h3, h4⟩))))
  exact wpAny_pure (wpAny_bind fin)

noncomputable def SeqV (L : Led) (a : AV) (xs : List AV) : Prop := a = .lst xs ∨ ∃ d, a = .obj d ∧ (d, AO.list xs) ∈ L
theorem SeqV.lst {xs : List AV} : SeqV L (.lst xs) xs := .inl rfl
theorem SeqV.led {d : Addr} {xs : List AV} (h : (d, AO.list xs) ∈ L) : SeqV L (.obj d) xs := .inr ⟨d, rfl, h⟩
theorem SeqV.at {a : AV} {xs : List AV} {g : Heap} {s : Shared} {v : Value} (h : SeqV L a xs) (R : RepL C g L s) (hv : VR g a v) : ∃ d vs, v = .ref d ∧ s.heap.IsList d vs ∧ VRs g xs vs.toList := by
  rcases h with rfl | ⟨d, rfl, hm⟩
  · cases hv.isLst with
    | mk _ _ _ _ e h1 h2 h3 h4 => subst e; exact ⟨_, _, rfl, ⟨_, R.sub _ _ h1, h2, _, h3⟩, h4⟩
  · cases hv
    obtain ⟨vs, m, h1, h2⟩ := led_list R hm
    exact ⟨d, vs, rfl, isL h1, h2⟩
theorem item_seq {a : AV} {xs : List AV} {k : Int} {x : AV} (hs : SeqV L a xs) (h0 : 0 ≤ k) (hfit : k < 2 ^ 63) (hx : xs[k.toNat]? = some x) (h : Q x L) : ITEM C n a (.int k) L Q := fun A g s o iv r R ho hi => by
  obtain ⟨d, vs, rfl, hl, hvs⟩ := hs.at R ho
  cases hi
  obtain ⟨v, e1, e2⟩ := hvs.get hx
  refine ⟨⟨"list", _, hl.typeIs, list_getitem_lookup⟩, ?_⟩
  exact wpAny_getItem_list hl h0 hfit (by rw [← Array.getElem?_toList]; exact e1) ⟨g, L, .refl g, R, x, e2, h⟩
theorem item_seq_neg {a : AV} {xs : List AV} {k : Int} {x : AV} (hs : SeqV L a xs) (h0 : k < 0) (h1 : -(xs.length : Int) ≤ k) (hfit : -(2 ^ 63) ≤ k) (hx : xs[(k + xs.length).toNat]? = some x) (h : Q x L) : ITEM C n a (.int k) L Q := fun A g s o iv r R ho hi => by
  obtain ⟨d, vs, rfl, hl, hvs⟩ := hs.at R ho
  cases hi
  obtain ⟨v, e1, e2⟩ := hvs.get hx
  have hsz : vs.size = xs.length := by rw [hvs.length]; simp
  refine ⟨⟨"list", _, hl.typeIs, list_getitem_lookup⟩, ?_⟩
  exact wpAny_getItem_list_neg hl h0 (by rw [hsz]; exact h1) hfit (by rw [hsz, ← Array.getElem?_toList]; exact e1) ⟨g, L, .refl g, R, x, e2, h⟩
theorem item_tup {xs : List AV} {k : Int} {x : AV} (h0 : 0 ≤ k) (hfit : k < 2 ^ 63) (hx : xs[k.toNat]? = some x) (h : Q x L) : ITEM C n (.tup xs) (.int k) L Q := fun A g s o iv r R ho hi => by
  cases ho.isTup with
  | mk a ob vs m e h1 h2 h3 h4 =>
    subst e
    cases hi
    obtain ⟨v, e1, e2⟩ := h4.get hx
    have ht : IsTup s.heap a vs := ⟨_, R.sub _ _ h1, h2, _, h3⟩
    refine ⟨⟨"tuple", _, ht.typeIs, PyProof.Rows.slot_tuple_getitem.lookup⟩, ?_⟩
    have hlt : k.toNat < vs.size := by
      have := (List.getElem?_eq_some_iff.mp e1).1
      simpa using this
    refine PyProof.Rows.getItem_tuple ht (by omega) hfit (j := k.toNat) ?_ (by rw [← Array.getElem?_toList]; exact e1) ⟨g, L, .refl g, R, x, e2, h⟩
    unfold seqIndex?
    simp only [show ¬ k < 0 by omega, if_false]
    rw [if_pos (by simp only [Bool.and_eq_true, decide_eq_true_eq]; omega)]
theorem item_dict {d : Addr} {es : List (Str × AV)} {x : Str} {v : AV} (hm : (d, .dict es) ∈ L) (hl : es.lookup x = some v) (h : Q v L) : ITEM C n (.obj d) (.str x) L Q := fun A g s o iv r R ho hi => by
  cases ho
  obtain ⟨t, rfl⟩ : ∃ t, iv = .str x t := by cases hi; exact ⟨_, rfl⟩
  obtain ⟨od, e1, e2⟩ := R.led _ (Cx.inAll hm)
  obtain ⟨kvs, hd, hk, hv⟩ := OR.dictOf e1 e2
  have hlk := lookup_of_keys (x := x) hk hv
  rw [hl] at hlk
  obtain ⟨u, hu1, hu2⟩ := hlk
  refine ⟨⟨"dict", _, hd.typeIs, slot_dict_getitem.lookup⟩, ?_⟩
  exact wpAny_getItem_of (by show Value.isStrOf x (.str x t) = true; simp [Value.isStrOf]) hd.mapOf hu1 ⟨g, L, .refl g, R.toks _, v, hu2, h⟩

noncomputable abbrev AV.slc (l u : AV) : AV := .recd "slice" [l, u, .none]
theorem ev_Slice {lower upper : Option Expr} {p : Pos} (h : (match lower with | some e => EV C F ρ L e | none => fun Q => Q .none L) fun l L1 => (match upper with | some e => EV C F ρ L1 e | none => fun Q => Q .none L1) fun u L2 => Q (.slc l u) L2) :
    EV C F ρ L (.Slice lower upper none p) Q := fun A env own g s r0 hE Fo => by
  show FrL C A env own ρ (valueOrNone (evalOpt lower env) >>= fun l => holding [l] (valueOrNone (evalOpt upper env)) >>= fun u => holding [l, u] (valueOrNone (evalOpt none env)) >>= fun st => newFields "slice" [l, u, st]) g s (VK Q)
  have part : ∀ (o : Option Expr) (L : Led) (g : Heap) (s : Shared) (Q : AV → Led → Prop), FrameOk C env own ρ g L s → (match o with | some e => EV C F ρ L e | none => fun Q => Q .none L) Q → FrL C A env own ρ (valueOrNone (evalOpt o env)) g s (VK Q) := by
    intro o L g s Q Fo h
    cases o with
    | none => exact wpAny_pure ⟨g, L, .refl g, Fo, .none, .none, h⟩
    | some e => exact h A env own g s r0 hE Fo
  refine (part lower L g s _ Fo h).bindV fun g1 l L1 s1 k1 Fo1 la hla h1 => ?_
  refine FrL.bind (.holding (part upper L1 g1 s1 _ Fo1 h1)) fun g2 u L2 s2 k2 Fo2 ⟨ua, hua, h2⟩ => ?_
  refine wpAny_bind (wpAny_holding (wpAny_pure ?_))
  refine wpAny_newObj_type ?_ (by show 3 ≤ sizeLine + 2; rw [sizeLine_eq]; omega)
  have Fo3 : FrameOk C env own ρ g2 L2 { s2 with heap := s2.heap.push (fldsOf "slice" #[l, u, .none]), toks := s2.toks } := Fo2.ext fun b o e => Heap.get?_push_of_some _ e
  obtain ⟨k3, Fo4⟩ := Fo3.wide
  have hf := Fo2.fresh (heap_none (Nat.le_refl s2.heap.objs.size))
  exact ⟨_, L2, k3, Fo4, .slc la ua, .recd (by decide) (hideAll_get _ (Heap.get?_push_size _ rfl) fun h => (List.mem_append.mp h).elim hf.2.1 hf.2.2) (.cons ((hla.mono k2).mono k3) (.cons (hua.mono k3) (.cons .none .nil))), h2⟩
inductive PartV : AV → Option Int → Prop
  | none : PartV .none none
  | int (i : Int) : PartV (.int i) (some i)
theorem PartV.is {a : AV} {o : Option Int} {g : Heap} {v : Value} (h : PartV a o) (hv : VR g a v) : IsPart v o := by
  cases h <;> cases hv
  · exact .none
  · exact .int _ _
noncomputable def sliceL (xs : List AV) : Option Int → Option Int → List AV
  | none, none => xs
  | some i, none => xs.drop i.toNat
  | none, some j => if 0 ≤ j then xs.take j.toNat else xs.take (xs.length - (-j).toNat)
  | some i, some j => (xs.drop i.toNat).take (j.toNat - i.toNat)
theorem item_slice {a l u : AV} {xs : List AV} {lo hi : Option Int} (hs : SeqV L a xs) (pl : PartV l lo) (pu : PartV u hi) (hlo : ∀ i, lo = some i → 0 ≤ i) (hbo : ∀ i j, lo = some i → hi = some j → i ≤ j ∧ j ≤ xs.length) (hz : xs.length ≤ sizeLine) (h : Q (.lst (sliceL xs lo hi)) L) :
    ITEM C n a (.slc l u) L Q := fun A g s o iv r R ho hi' => by
  obtain ⟨d, vs, rfl, hl, hvs⟩ := hs.at R ho
  · apply hi'.eRecd3; intro b v1 v2 v3 h1 q1 q2 q3
    obtain rfl := q3.isNone
    have hsz : vs.size = xs.length := by rw [hvs.length]; simp
    refine ⟨⟨"list", _, hl.typeIs, list_getitem_lookup⟩, ?_⟩
    have hsl : s.heap.IsSliceOf b v1 v2 .none := ⟨_, R.sub _ _ h1, rfl, rfl⟩
    refine wpAny_getItem_list_slice hl hsl (pl.is q1) (pu.is q2) .none (by simp) ?_ (by rw [hsz]; exact hz)
    obtain ⟨g', k, R', hg⟩ := R.allocG (o := { cls := .type "list", data := .seq (slicePick vs lo hi none) }) rfl s.toks
    refine ⟨g', L, k, R', _, .lst hg rfl rfl ?_, h⟩
    refine VRs.mono ?_ k
    match lo, hi, pl, pu with
    | none, none, _, _ => rw [slicePick_all]; exact hvs
    | some i, none, _, _ =>
      have hi0 := hlo i rfl
      obtain ⟨i, rfl⟩ := Int.eq_ofNat_of_zero_le hi0
      rw [slicePick_from']
      simpa [sliceL] using hvs.drop i
    | none, some j, _, _ =>
      by_cases hj : 0 ≤ j
      · obtain ⟨j, rfl⟩ := Int.eq_ofNat_of_zero_le hj
        rw [slicePick_upto']
        simpa [sliceL] using hvs.take j
      · obtain ⟨k', hk'⟩ : ∃ k' : Nat, j = -(k' : Int) := ⟨(-j).toNat, by omega⟩
        subst hk'
        rw [slicePick_butLast _ _ (by omega), hsz]
        simp only [sliceL, if_neg hj]
        rw [show (- -(k' : Int)).toNat = k' by omega]
        simpa using hvs.take (xs.length - k')
    | some i, some j, _, _ =>
      have hi0 := hlo i rfl
      obtain ⟨h3, h4⟩ := hbo i j rfl rfl
      obtain ⟨i, rfl⟩ := Int.eq_ofNat_of_zero_le hi0
      obtain ⟨j, rfl⟩ := Int.eq_ofNat_of_zero_le (show 0 ≤ j by omega)
      rw [slicePick_run _ _ _ (by omega) (by omega)]
      simpa [sliceL] using (hvs.drop i).take (j - i)

theorem x_aug_sub {o i value : Expr} {op : Operator} {p pos : Pos} {X : XQ}
    (h : EV C F ρ L o fun a L1 => EV C F ρ L1 i fun k L2 => ITEM C F.n a k L2 fun old L3 => EV C F ρ L3 value fun b L4 => OP2 C F.n (inplaceOp op) old b L4 fun c L5 => OP3U C F.n setItem a k c L5 fun L6 => X.nx ρ L6)
    (ha : ∀ ov iv new, augStore i ov iv new = (do holding [new, ov, iv] (setItem ov iv new); release [new, ov, iv] []; pure .next)) : EX1 C F ρ L (.AugAssign (.Subscript o i p) op value pos) X := fun A env own g s r0 hE Fo => by
  refine PyProof.Rows.wpAny_AugAssign_Subscript_any (onV (h A env own g s r0 hE Fo) (fun ov s1 g1 L1 k1 Fo1 a ha h1 => ?_)) ha
  refine onV (h1 A env own g1 s1 r0 hE Fo1) (fun iv s2 g2 L2 k2 Fo2 k hk h2 => ?_)
  have hop := Fo2.liftV (Q := _) fun g₁ kk R => (h2 A g₁ s2 ov iv r0 R ((ha.mono k2).mono kk) (hk.mono kk)).2
  refine onV hop (fun old s3 g3 L3 k3 Fo3 oa hoa h3 => ?_)
  refine onV (h3 A env own g3 s3 r0 hE Fo3) (fun v s4 g4 L4 k4 Fo4 b hb h4 => ?_)
  refine onV (Fo4.liftV fun g₁ kk R => h4 A g₁ s4 old v r0 R ((hoa.mono k4).mono kk) (hb.mono kk)) (fun new s5 g5 L5 k5 Fo5 c hc h5 => ?_)
  refine on5 (Fo5.liftE fun g₁ kk R => h5 A g₁ s5 ov iv new r0 R (((((ha.mono k2).mono k3).mono k4).mono k5).mono kk) ((((hk.mono k3).mono k4).mono k5).mono kk) (hc.mono kk)) (fun zz s6 g6 L6 k6 Fo6 h6 => ?_)
  exact ⟨g6, ρ, L6, ((((k1.trans k2).trans k3).trans k4).trans k5).trans k6, Fo6, h6⟩
set_option tactic.hygienic true in
theorem set_list {d : Addr} {xs : List AV} {k : Int} {c : AV} {L' : Led} {Q : Led → Prop} (hm : (d, .list xs) ∈ L) (h0 : 0 ≤ k) (hfit : k < 2 ^ 63) (hk : k < xs.length) (hS : LSet d (.list (xs.set k.toNat c)) L L') (h : Q L') : OP3U C n setItem (.obj d) (.int k) c L Q :=
  fun A g s v u x r R hv hu hx => by
    cases hv; cases hu
    obtain ⟨vs, m, h1, h2⟩ := led_list R hm
    have hsz : vs.size = xs.length := by rw [h2.length]; simp
    have hl := isL h1
    rename_i tk
    unfold setItem
    try with_reducible refine wpAny_holding ?_
    first | refine wpAny_bind (wpAny_pure ?_) | skip
    refine wpAny_bind (wpAny_sequenceKey hl.typeIs (by decide) ?_)
    refine wpAny_bind (wpAny_callSpecial?_slot (name := Str.ofString "__setitem__") hl.typeIs slot_list_setitem
      (wpAny_call_entry slot_list_setitem hl.typeIs entry_list_setitem ?_ (args_list_setitem _ _ _)))
    show wpAny _ _ (Builtin.List.listSubscript? (.int k tk) >>= _) _ _ s
    refine wpAny_bind (wpAny_listSubscript_int (fitsIndex_of h0 hfit) ?_)
    clear hfit
    obtain ⟨j, rfl⟩ := Int.eq_ofNat_of_zero_le h0
    have hj : j < vs.size := by omega
    have hx' : vs[j]? = some vs[j] := Array.getElem?_eq_getElem hj
    show wpAny _ _ ((seqItemAt d j >>= fun r => pure (r.map (j, ·))) >>= _) _ _ s
    refine wpAny_bind (wpAny_bind (wpAny_seqItemAt h1 rfl (wpAny_pure ?_)))
    rw [hx']
    show wpAny _ _ (setSeqItemAt d j x >>= _) _ _ s
    have hup := Heap.get?_update_self (h := s.heap) (a := d) (Obj.mapSeq (·.setIfInBounds j x)) h1 rfl
    have fin : P5 (RepL C) g (EK fun zz L' => Q L') () { s with heap := s.heap.update d (Obj.mapSeq (·.setIfInBounds j x)) } :=
      ⟨g, L', .refl g, R.set hS (Heap.SameBut.update ..) ⟨_, hup, _, _, rfl, by simpa using h2.set j hx⟩ s.toks, h⟩
    refine wpAny_bind (wpAny_setSeqItemAt h1 rfl ?_)
    first
      | exact wpAny_bind (wpAny_pure (wpAny_pure ⟨.none, rfl, wpAny_pure fin⟩))
      | exact wpAny_pure ⟨.none, rfl, wpAny_pure fin⟩
end
end Mine
end
section
set_option maxRecDepth 100000
set_option maxHeartbeats 400000
set_option linter.unusedVariables false
namespace Mine
open PySem PySem.Spec PySem.Calls PyProof.Rows PySem.W
open PySem.SeqAt (EqAt RcAt)

inductive Smp : AV → Prop
  | str (x : Str) : Smp (.str x)
  | tup (xs : List Str) : Smp (.tup (xs.map .str))
theorem str_eq {g : Heap} {s : Shared} {x : Str} {v u : Value} {A : Around} (hx : VR g (.str x) v) (hy : VR g (.str x) u) : EqAt A s v u true := by
  cases hx with
  | str _ t1 => cases hy with
    | str _ t2 =>
      have := EqAt.str_str (A := A) (s := s) x t1 x t2
      rwa [beq_self_eq_true] at this
theorem strs_eq {g : Heap} {s : Shared} {xs : List Str} {vs us : List Value} {A : Around} (hx : VRs g (xs.map .str) vs) (hy : VRs g (xs.map .str) us) (j : Nat) (v u : Value) (h1 : vs[j]? = some v) (h2 : us[j]? = some u) : EqAt A s v u true := by
  have hj : j < xs.length := by
    have := (List.getElem?_eq_some_iff.mp h1).1
    have := hx.length
    rw [List.length_map] at this
    omega
  have e : (xs.map AV.str)[j]? = some (.str xs[j]) := by rw [List.getElem?_map, List.getElem?_eq_getElem hj]; rfl
  obtain ⟨v', e1, r1⟩ := hx.get e
  obtain ⟨u', e2, r2⟩ := hy.get e
  cases h1.symm.trans e1
  cases h2.symm.trans e2
  exact str_eq r1 r2
set_option tactic.hygienic true in
theorem smp_eq {g : Heap} {s : Shared} (k : Le g s.heap) {x : AV} {v u : Value} {A : Around} (hs : Smp x) (hx : VR g x v) (hy : VR g x u) (hu : A.units + 1 < cLine) : EqAt A s v u true := by
  cases hs with
  | str x => exact str_eq hx hy
  | tup xs =>
    obtain ⟨p, o, vs, n, rfl, h1, h2, h3, h4⟩ := hx.isTup
    · cases hy.isTup with
      | mk q o2 us n2 e k1 k2 k3 k4 =>
        subst e
        by_cases hpq : p = q
        · subst hpq; exact EqAt.same _
        · have hl : us.size = vs.size := by have a := h4.length; have b := k4.length; simp at a b; omega
          have := RcAt.tuples (A := A) (e := fun zz => true) ⟨_, k _ _ h1, h2, _, h3⟩ ⟨_, k _ _ k1, k2, _, k3⟩ (by omega) fun j j1 j2 => strs_eq h4 k4 j _ _ (by simp [j1]) (by simp [j2])
          refine EqAt.of_refs hpq ?_
          have e : ((List.range (min vs.size us.size)).all (fun zz => true) && vs.size == us.size) = true := by rw [List.all_eq_true.mpr fun zz zz => rfl, hl]; simp
          rwa [e] at this
section
variable {C : Cx} {F : SF} {ρ : Vars} {L : Led} {n : Nat} {Q : AV → Led → Prop}
theorem room_units {A : Around} (r : Room A n) (hn : n ≤ 190) (d : Nat) (hd : d ≤ 1000) : A.units + d < cLine := by
  have := r.units
  unfold cLine
  omega
set_option tactic.hygienic true in
theorem cmp_ne_same {xs : List AV} (he : ∀ x ∈ xs, Smp x) (hn : n ≤ 190) (h : Q (.bool false) L) : OP2 C n (compareOp .NotEq) (.lst xs) (.lst xs) L Q := fun A g s v u r R hv hw => by
  have hu := room_units r hn 3 (by omega)
  have post : P5 (RepL C) g (VK Q) (.bool false) s := ⟨g, L, .refl g, R, .bool false, .bool _, h⟩
  obtain ⟨p, o, vs, n, rfl, h1, h2, h3, h4⟩ := hv.isLst
  · cases hw.isLst with
    | mk q o2 us n2 e k1 k2 k3 k4 =>
      subst e
      have hsz : vs.size = us.size := by have a := h4.length; have b := k4.length; simp at a b; omega
      refine PySem.SeqAt.RcNeAt.lists ⟨_, R.sub _ _ h1, h2, _, h3⟩ ⟨_, R.sub _ _ k1, k2, _, k3⟩ hsz (by omega) (A := A) (e := fun zz => true) (fun j j1 j2 => ?_) C.prog C.w Never _ ?_
      · have hj : j < xs.length := by have a := h4.length; simp at a; omega
        obtain ⟨v', e1, r1⟩ := h4.get (List.getElem?_eq_getElem hj)
        obtain ⟨u', e2, r2⟩ := k4.get (List.getElem?_eq_getElem hj)
        have e1 : vs[j] = v' := by simpa [j1] using e1
        have e2 : us[j] = u' := by simpa [j2] using e2
        rw [e1, e2]
        exact smp_eq R.sub (he _ (List.getElem_mem hj)) r1 r2 (by show A.units + 1 + 1 < cLine; omega)
      · rw [List.all_eq_true.mpr fun zz zz => rfl]; exact post

theorem cmp_is_none {x : AV} (hx : x ≠ .none) (hb : ∀ v, x ≠ .cst v) (h : Q (.bool false) L) : OP2 C n (compareOp .Is) x .none L Q := fun A g s v u r R hv hu => by
  cases hu
  have hp : plainIs v .none = true := by cases hv <;> first | rfl | exact absurd rfl (hb _)
  have hne : v ≠ .none := by
    intro q; subst q
    cases hv
    · exact hx rfl
    · exact hb _ rfl
  exact wpAny_is_other hp hne ⟨g, L, .refl g, R, .bool false, .bool _, h⟩
theorem cmp_isnot_none {x : AV} (hx : x ≠ .none) (hb : ∀ v, x ≠ .cst v) (h : Q (.bool true) L) : OP2 C n (compareOp .IsNot) x .none L Q := fun A g s v u r R hv hu => by
  cases hu
  have hp : plainIs v .none = true := by cases hv <;> first | rfl | exact absurd rfl (hb _)
  have hne : v ≠ .none := by
    intro q; subst q
    cases hv
    · exact hx rfl
    · exact hb _ rfl
  exact wpAny_isNot_other hp hne ⟨g, L, .refl g, R, .bool true, .bool _, h⟩
theorem cmp_none_is_none (h : Q (.bool true) L) : OP2 C n (compareOp .Is) .none .none L Q := fun A g s v u r R hv hu => by
  cases hu; cases hv
  exact wpAny_is_self rfl ⟨g, L, .refl g, R, .bool true, .bool _, h⟩
theorem cmp_none_isnot_none (h : Q (.bool false) L) : OP2 C n (compareOp .IsNot) .none .none L Q := fun A g s v u r R hv hu => by
  cases hu; cases hv
  exact wpAny_isNot_self rfl ⟨g, L, .refl g, R, .bool false, .bool _, h⟩
theorem cmp_is_type {X : String} (h : Q (.bool true) L) : OP2 C n (compareOp .Is) (.cst (.type X)) (.cst (.type X)) L Q := fun A g s v u r R hv hu => by
  cases hu; cases hv
  exact wpAny_is_self rfl ⟨g, L, .refl g, R, .bool true, .bool _, h⟩
theorem cmp_isnot_type {X : String} (h : Q (.bool false) L) : OP2 C n (compareOp .IsNot) (.cst (.type X)) (.cst (.type X)) L Q := fun A g s v u r R hv hu => by
  cases hu; cases hv
  exact wpAny_isNot_self rfl ⟨g, L, .refl g, R, .bool false, .bool _, h⟩

theorem call_type_str {x : Str} (h : Q (.cst (.type "str")) L) : CALL C n (.cst (.type "type")) [.str x] [] L Q := fun A g s vf vs kv r R hf hv hk => by
  cases hf; cases hk
  apply hv.eOne; intro v1 q1
  cases q1
  change OpL C A (call _ [_] []) g s (VK Q)
  exact call_type_of (typeIs_str s x _) (by decide) ⟨g, L, .refl g, R, _, .cst _, h⟩
theorem call_type_list {a : AV} {xs : List AV} (hs : SeqV L a xs) (h : Q (.cst (.type "list")) L) : CALL C n (.cst (.type "type")) [a] [] L Q := fun A g s vf vs kv r R hf hv hk => by
  cases hf; cases hk
  apply hv.eOne; intro v1 q1
  obtain ⟨d, ws, rfl, hl, _⟩ := hs.at R q1
  change OpL C A (call _ [_] []) g s (VK Q)
  exact call_type_of hl.typeIs (by decide) ⟨g, L, .refl g, R, _, .cst _, h⟩
theorem call_len {a : AV} {xs : List AV} (hs : SeqV L a xs) (hz : xs.length ≤ sizeLine) (h : Q (.int xs.length) L) : CALL C n (.cst (.builtin "len")) [a] [] L Q := fun A g s vf vs kv r R hf hv hk => by
  cases hf; cases hk
  apply hv.eOne; intro v1 q1
  obtain ⟨d, ws, rfl, hl, hw⟩ := hs.at R q1
  have hsz : ws.size = xs.length := by rw [hw.length]; simp
  rw [sizeLine_eq] at hz
  change OpL C A (call _ [_] []) g s (VK Q)
  refine call_len_list hl (by omega) ⟨g, L, .refl g, R.toks _, .int xs.length, ?_, h⟩
  rw [hsz]; exact .int _ _
theorem call_str_int {i : Int} (hi : i.natAbs.log2 < 1920) (h : Q (.str (toString i)) L) : CALL C n (.cst (.type "str")) [.int i] [] L Q := fun A g s vf vs kv r R hf hv hk => by
  cases hf; cases hk
  apply hv.eOne; intro v1 q1
  cases q1
  change OpL C A (call _ [_] []) g s (VK Q)
  exact PySem.P.str_of_int hi ⟨g, L, .refl g, R.toks _, _, .str _ _, h⟩
theorem op_mul_int {x y : Int} (hm : IntMulOk x y) (h : Q (.int (x * y)) L) : OP2 C n (binaryOp .Mult) (.int x) (.int y) L Q := fun A g s v u r R hv hu => by
  cases hv; cases hu
  with_reducible refine mul_int ?_ hm
  exact ⟨g, L, .refl g, R.toks _, _, .int _ _, h⟩
theorem call_lower {x : Str} (hz : (Txt.lower x).length ≤ sizeLine) (h : Q (.str (Txt.lower x)) L) : CALL C n (.cst (.builtin "str.lower")) [.str x] [] L Q := fun A g s vf vs kv r R hf hv hk => by
  cases hf; cases hk
  apply hv.eOne; intro v1 q1
  cases q1
  change OpL C A (call _ [_] []) g s (VK Q)
  exact SC.lower (by unfold Builtin.Str.tooLong; simp; omega) ⟨g, L, .refl g, R.toks _, _, .str _ _, h⟩
theorem opl_newListF {xs : List AV} (hz : xs.length ≤ sizeLine) (h : Q (.lst xs) L) : OPL C n newList xs L Q := fun A g s vs r R hv => by
  obtain ⟨g', k, R', hg⟩ := R.allocG (o := { cls := .type "list", data := .seq vs.toArray }) rfl s.toks
  exact wpAny_newObj_type ⟨g', L, k, R', _, .lst hg rfl rfl (by simpa using hv.mono k), h⟩ (by show vs.toArray.size ≤ sizeLine; rw [List.size_toArray, ← hv.length]; exact hz)
theorem LOOPC.inv {ao : AO} {Post : AO → Led → Prop} {ρ1 : Vars} {F1 : SF} {L1 : Led} {mid : Env → Addr → Sem Unit} {tg : Expr} {ifs : List Expr} {a : AV} (xs : List AV) (I : Nat → AO → Led → Prop) {H : Led → Prop} (hI : ∀ P, ITERABLE (C.pn P) F1.n tg a L1 xs H) (h0 : I 0 ao L1)
    (hH : ∀ i ao L, I i ao L → H L)
    (turn : ∀ i x ao L P, xs[i]? = some x → I i ao L → ASG (C.pn P) F1 ρ1 L tg x fun ρ' L' => SubV ρ1 ρ' ∧ TESTS (C.pn P) F1 ρ' L' ifs fun b L2 => if b = true then EMIT C F1 mid ρ' L2 ao (I (i + 1)) else I (i + 1) ao L2)
    (done : ∀ ao L, I xs.length ao L → Post ao L) : LOOPC C F1 mid tg ifs ρ1 L1 a ao Post := ⟨xs, H, I, hI, h0, hH, turn, done⟩
theorem LOOPC.plain {Post : AO → Led → Prop} {ρ1 : Vars} {F1 : SF} {L1 : Led} {elt tg : Expr} {ifs : List Expr} {a : AV} (xs : List AV) (f : AV → List AV) {H : Led → Prop} (hI : ∀ P, ITERABLE (C.pn P) F1.n tg a L1 xs H) (hH : H L1) (hz : xs.length ≤ 1000000)
    (hf : ∀ x ∈ xs, (f x).length ≤ 1)
    (turn : ∀ x P, x ∈ xs → ASG (C.pn P) F1 ρ1 L1 tg x fun ρ' L' => SubV ρ1 ρ' ∧ TESTS (C.pn P) F1 ρ' L' ifs fun b L2 => if b = true then ∀ P, EV (C.pn P) F1 ρ' L2 elt fun y L3 => f x = [y] ∧ L3 = L1 else (f x = [] ∧ L2 = L1))
    (done : Post (.list (xs.flatMap f)) L1) : LOOPC C F1 (fun env D => listEmit elt (.ref D) env) tg ifs ρ1 L1 a (.list []) Post := by
  have hlen : ∀ i, ((xs.take i).flatMap f).length ≤ i := by
    intro i
    have : ∀ l : List AV, (∀ x ∈ l, (f x).length ≤ 1) → (l.flatMap f).length ≤ l.length := by
      intro l
      induction l with
      | nil => intro _; simp
      | cons a l ih =>
        intro h
        have h1 := h a List.mem_cons_self
        have h2 := ih fun x hx => h x (List.mem_cons_of_mem _ hx)
        simp only [List.flatMap_cons, List.length_append, List.length_cons]
        omega
    exact Nat.le_trans (this (xs.take i) fun x hx => hf x (List.mem_of_mem_take hx)) (by rw [List.length_take]; exact Nat.min_le_left _ _)
  refine LOOPC.inv xs (fun i ao L => i ≤ xs.length ∧ ao = .list ((xs.take i).flatMap f) ∧ L = L1) hI ⟨Nat.zero_le _, by simp, rfl⟩ (fun i ao L h => by obtain ⟨_, _, rfl⟩ := h; exact hH) ?_ ?_
  · rintro i x ao L P hx ⟨hi, rfl, rfl⟩
    have hlt : i < xs.length := (List.getElem?_eq_some_iff.mp hx).1
    have hmem : x ∈ xs := List.mem_of_getElem? hx
    have e1 : (xs.take (i + 1)).flatMap f = (xs.take i).flatMap f ++ f x := by rw [List.take_add_one, hx]; simp
    intro A env own g s v r0 hE Fo hv
    refine on6 (turn x P hmem A env own g s v r0 hE Fo hv) (fun zz s' g' ρ' L' k Fo' hh => ⟨g', ρ', L', k, Fo', hh.1, ?_⟩)
    have h2 := hh.2
    have conv : ∀ b L2, (if b = true then ∀ P, EV (C.pn P) F1 ρ' L2 elt fun y L3 => f x = [y] ∧ L3 = L else (f x = [] ∧ L2 = L)) →
        (if b = true then EMIT C F1 (fun env D => listEmit elt (.ref D) env) ρ' L2 (.list ((xs.take i).flatMap f)) (fun ao L3 => i + 1 ≤ xs.length ∧ ao = .list ((xs.take (i + 1)).flatMap f) ∧ L3 = L)
          else i + 1 ≤ xs.length ∧ AO.list ((xs.take i).flatMap f) = .list ((xs.take (i + 1)).flatMap f) ∧ L2 = L) := by
      intro b L2 h
      cases b with
      | true =>
        simp only [if_true] at h ⊢
        refine emit_list (by have := hlen i; rw [sizeLine_eq]; omega) fun P => (h P).mono fun y L3 ⟨q1, q2⟩ => ⟨hlt, by rw [e1, q1], q2⟩
      | false =>
        simp only [Bool.false_eq_true, if_false] at h ⊢
        exact ⟨hlt, by rw [e1, h.1, List.append_nil], h.2⟩
    unfold TESTS at h2 ⊢
    split at h2
    · exact conv true L' h2
    · intro A env own g s r0 hE Fo
      exact on5 (h2 A env own g s r0 hE Fo) (fun b s' g' L3 k Fo' h3 => ⟨g', L3, k, Fo', conv b L3 h3⟩)
    · exact h2
  · rintro ao L ⟨_, rfl, rfl⟩
    rw [List.take_length]; exact done
end
end Mine
end
section
set_option maxRecDepth 100000
set_option maxHeartbeats 1000000
set_option linter.unusedVariables false
namespace Mine
open PySem PySem.Spec PySem.Calls PyProof.Rows PySem.W
section
variable {C : Cx} {F : SF} {ρ : Vars} {L : Led} {n : Nat} {Q : AV → Led → Prop}

theorem asg_pair {x y : Expr} {k : Nat} {pos : Pos} {a b : AV} {Q : Vars → Led → Prop} (h : ASG C F ρ L x a fun ρ1 L1 => ASG C F ρ1 L1 y b Q) (he : ∀ env, assignEach [x, y] env = [(false, assign x env), (false, assign y env)]) :
    ASG C F ρ L (.Tuple [x, y] k pos) (.tup [a, b]) Q := fun A env own g s v r0 hE Fo hv => by
  · apply hv.eTup2; intro d o v1 v2 m h1 h2 h3 q1 q2
    have ht : s.heap.IsTuple d #[v1, v2] := ⟨_, Fo.rep.sub _ _ h1, h2, _, h3⟩
    refine PySem.wpAny_assign_Tuple r0.handled ht (by rw [he]; rfl) (by rw [he]; rfl) fun h' hs => ?_
    rw [he]
    show wpAny C.M A (assignInOrder [assign x env, assign y env] [v1, v2]) _ _ _
    unfold assignInOrder assignInOrder assignInOrder
    have Fo1 : FrameOk C env own ρ g L { s with heap := h', toks := s.toks } := by
      obtain ⟨f1, f2, f3⟩ := Fo.fresh (heap_none (Nat.le_refl s.heap.objs.size))
      exact Fo.heap (a := s.heap.objs.size) hs f1 f2 f3
    refine wpAny_bind (wpAny_holding (on6 (h A env own g _ v1 r0 hE Fo1 q1) (fun zz s1 g1 ρ1 L1 k1 Fo2 h5 => ?_)))
    exact wpAny_bind (wpAny_holding (wpAny_mono (h5 A env own g1 s1 v2 r0 hE Fo2 (q2.mono k1)) (fun zz zz x => wpAny_pure (x.le k1)) fun zz zz f => f))

theorem x_try {body orelse : List Stmt} {h₀ : ExceptHandler} {hs : List ExceptHandler} {pos : Pos} {X : XQ} (h : EX C F ρ L body ⟨fun ρ' L' => EX C F ρ' L' orelse X, X.bk, X.ct, X.rt⟩) : EX1 C F ρ L (.Try body (h₀ :: hs) orelse [] pos) X := fun A env own g s r0 hE Fo => by
  refine wpAny_Try_except (wpAny_mono (h A env own g s r0 hE Fo) (fun f s' hf => ?_) fun zz zz f => False.elim f)
  cases f with
  | next =>
    obtain ⟨g', ρ', L', k, Fo', h'⟩ := hf
    exact wpAny_mono (h' A env own g' s' r0 hE Fo') (fun f s'' hx => hx.trans k) fun zz zz f => f
  | brk => exact hf
  | cont => exact hf
  | ret v => exact hf

theorem x_del_own {o i : Expr} {p pos : Pos} {X : XQ} 
    (h : EV C F ρ L o fun a L1 => EV C F ρ L1 i fun k L2 => ∃ x d K f es, a = .obj x ∧ (x, AO.inst K d) ∈ L2 ∧ (d, AO.dict es) ∈ L2 ∧ noSeq C.K K = true ∧ findIn C.K (.ref K) "__delitem__" = some (some (.ref f)) ∧ isFn C.K (.ref f) = true ∧
      CALL C F.n (.obj f) [.obj x, k] [] L2 fun zz L3 => X.nx ρ L3) : EX1 C F ρ L (.Delete [.Subscript o i p] pos) X := fun A env own g s r0 hE Fo => by
  show wpAny C.M A (standAt pos >>= fun zz => (delete (.Subscript o i p) env >>= fun zz => pure ()) >>= fun zz => pure Flow.next) _ _ _
  refine wpAny_bind (wpAny_standAt (wpAny_bind (wpAny_bind ?_)))
  refine PyProof.Rows.delete_Subscript (onV (h A env own g s r0 hE Fo) (fun ov s1 g1 L1 k1 Fo1 a ha h1 => ?_))
  refine onV (h1 A env own g1 s1 r0 hE Fo1) (fun iv s2 g2 L2 k2 Fo2 k hk hz => ?_)
  obtain ⟨x, d, K, f, es, rfl, m1, m2, hq, hfi, hf, h2⟩ := hz
  cases ha
  have key : FrL C A env own ρ (delItem (.ref x) iv) g2 s2 (EK fun zz L' => X.nx ρ L') := Fo2.liftE fun g₁ kk R => by
    obtain ⟨ox, od, I, _, _, _⟩ := instAt R m1 m2
    unfold delItem sequenceKey
    refine wpAny_holding (wpAny_bind (wpAny_bind (I.type.here ?_)))
    refine wpAny_bind ((anyM_none R.Xs hq).here ?_)
    rw [if_pos (show (!false) = true from rfl)]
    refine wpAny_pure (wpAny_bind (special_fn R.Xs I hfi (beq_iff_eq.mp hf) (onV (h2 A g₁ s2 (.ref f) [.ref x, iv] [] r0 R (.obj f) (.cons (.obj x) (.cons (hk.mono kk) .nil)) .nil) (fun v s3 g3 L3 k3 R3 av hv h3 => ?_))))
    exact wpAny_pure ⟨g3, L3, k3, R3, h3⟩
  exact on5 key (fun zz s3 g3 L3 k3 Fo3 h3 => wpAny_pure (wpAny_pure ⟨g3, ρ, L3, (k1.trans k2).trans k3, Fo3, h3⟩))

theorem in_strV {x y : Str} (h : Q (.bool !(Builtin.Str.occurrences x y 0 x.length 1).isEmpty) L) : OP2 C n (compareOp .In) (.str y) (.str x) L Q := fun A g s v u r R hv hu => by
  cases hv; cases hu
  exact PyProof.Rows.in_str ⟨g, L, .refl g, R, _, .bool _, h⟩
theorem split_len (x y : Str) : (Builtin.Str.partsBetween x (Builtin.Str.occurrences x y 0 x.length (x.length + 1)) y.length).length ≤ x.length + 2 := by
  rw [length_partsBetween]
  have := StrLaws.occ_length_le x y 0 x.length (x.length + 1)
  omega
theorem call_split {x y : Str} (hy : (y.length == 0) = false) (hx : x.length ≤ 1000000) (h : Q (.lst ((Txt.split x y).map .str)) L) : CALL C n (.cst (.builtin "str.split")) [.str x, .str y] [] L Q := fun A g s vf vs kv r R hf hv hk => by
  cases hf; cases hk
  apply hv.eTwo; intro v1 v2 q1 q2
  obtain ⟨t, rfl⟩ : ∃ t, v1 = .str x t := by cases q1; exact ⟨_, rfl⟩
  obtain ⟨u, rfl⟩ : ∃ t, v2 = .str y t := by cases q2; exact ⟨_, rfl⟩
  change OpL C A (call _ [_, _] []) g s (VK Q)
  have fin : ∀ (l : List (Str × Tok)) (k : Nat) (t' : Nat), l.map (fun zz => zz.1) = Txt.split x y → P5 (RepL C) g (VK Q) (.ref s.heap.objs.size) { s with heap := s.heap.push { cls := .type "list", data := .seq (strValues l).toArray k }, toks := t' } := by
    intro l k t' e
    obtain ⟨g', kk, R', hg⟩ := R.allocG (o := { cls := .type "list", data := .seq (strValues l).toArray k }) rfl t'
    refine ⟨g', L, kk, R', _, .lst hg rfl rfl ?_, h⟩
    rw [← e]
    have : ∀ l : List (Str × Tok), VRs g' ((l.map (fun zz => zz.1)).map .str) (strValues l) := by
      intro l
      induction l with
      | nil => exact .nil
      | cons p r ih => exact .cons (.str _ _) ih
    simpa using this l
  cases h1 : (decide (x.length < y.length) || decide (PySem.Builtin.Str.strKind x < PySem.Builtin.Str.strKind y))
  · cases hf : (Builtin.Str.occurrences x y 0 x.length (x.length + 1)).isEmpty
    · refine call_meets PySem.F.slot_str_split (typeIs_str _ _ _) PySem.F.entry_str_split (PySem.F.args_str_split_2 _ _) (meets_str_split_sep x y t u h1 hy hf (by rw [sizeLine_eq]; omega) (by have := split_len x y; rw [sizeLine_eq]; omega)) ?_
      show wants _ Never _ { s with toks := _, heap := s.heap.push { cls := .type "list", data := .seq (strsFrom s.toks (Builtin.Str.partsBetween x (Builtin.Str.occurrences x y 0 x.length (x.length + 1)) y.length)).toArray } }
      rw [strsFrom_eq]
      exact fin (numbered s.toks _) 0 _ ((numbered_texts _ _).trans ((if_neg (ne_true_of_eq_false h1)).trans (if_neg (ne_true_of_eq_false hf))).symm)
    · exact call_meets PySem.F.slot_str_split (typeIs_str _ _ _) PySem.F.entry_str_split (PySem.F.args_str_split_2 _ _) (meets_str_split_not_found x y t u h1 hy hf) (fin [(x, t)] 0 s.toks ((if_neg (ne_true_of_eq_false h1)).trans (if_pos hf)).symm)
  · exact call_meets PySem.F.slot_str_split (typeIs_str _ _ _) PySem.F.entry_str_split (PySem.F.args_str_split_2 _ _) (meets_str_split_cannot_occur x y t u h1) (fin [(x, t)] 0 s.toks (if_pos h1).symm)
end
end Mine
end
section
set_option maxRecDepth 100000
set_option maxHeartbeats 3000000
set_option linter.unusedVariables false
namespace Mine
open PySem PySem.Spec PySem.Calls PyProof.Rows PySem.W

noncomputable def addK {K : Type} [DecidableEq K] (acc : List K) (k : K) : List K := if k ∈ acc then acc else acc ++ [k]
noncomputable def ddK {K : Type} [DecidableEq K] (l : List K) : List K := l.foldl addK []
theorem ddK_snoc {K : Type} [DecidableEq K] (l : List K) (k : K) : ddK (l ++ [k]) = addK (ddK l) k := by unfold ddK; rw [List.foldl_append]; rfl
set_option tactic.hygienic true in
theorem addK_nodup {K : Type} [DecidableEq K] {acc : List K} (h : acc.Nodup) (k : K) : (addK acc k).Nodup := by
  unfold addK
  split
  · exact h
  · rename_i hk
    exact List.nodup_append.mpr ⟨h, by simp, fun a ha b hb q => by simp at hb; subst hb; subst q; exact hk ha⟩
set_option tactic.hygienic true in
theorem mem_addK {K : Type} [DecidableEq K] {acc : List K} {k x : K} : x ∈ addK acc k ↔ x ∈ acc ∨ x = k := by
  unfold addK
  split
  · rename_i hk
    exact ⟨.inl, fun h => h.elim id fun q => q ▸ hk⟩
  · simp
theorem ddK_len {K : Type} [DecidableEq K] (l : List K) : (ddK l).length ≤ l.length := by
  have : ∀ (l acc : List K), (l.foldl addK acc).length ≤ acc.length + l.length := by
    intro l
    induction l with
    | nil => intro acc; simp
    | cons a l ih =>
      intro acc
      have := ih (addK acc a)
      have h2 : (addK acc a).length ≤ acc.length + 1 := by unfold addK; split <;> simp
      simp only [List.foldl_cons, List.length_cons]; omega
  unfold ddK; simpa using this l []
theorem ddK_nodup {K : Type} [DecidableEq K] (l : List K) : (ddK l).Nodup := by
  have : ∀ (l acc : List K), acc.Nodup → (l.foldl addK acc).Nodup := by
    intro l
    induction l with
    | nil => intro acc h; exact h
    | cons a l ih => intro acc h; exact ih _ (addK_nodup h a)
  exact this l [] List.nodup_nil
theorem mem_ddK {K : Type} [DecidableEq K] (l : List K) (x : K) : x ∈ ddK l ↔ x ∈ l := by
  have : ∀ (l acc : List K), x ∈ l.foldl addK acc ↔ x ∈ acc ∨ x ∈ l := by
    intro l
    induction l with
    | nil => intro acc; simp
    | cons a l ih =>
      intro acc
      simp only [List.foldl_cons, List.mem_cons]
      rw [ih, mem_addK]
      constructor
      · rintro ((h | h) | h)
        · exact .inl h
        · exact .inr (.inl h)
        · exact .inr (.inr h)
      · rintro (h | h | h)
        · exact .inl (.inl h)
        · exact .inl (.inr h)
        · exact .inr h
  unfold ddK; simpa using this l []
section
variable {prog : Program} {w : World} {K : Type} [DecidableEq K] [BEq K] [LawfulBEq K] {knd : KeyKind prog w K} {A : Around} {R : Result → Shared → Prop} {I : Addr} {fp wr : List Addr} {G : Array GenState → Array GenState → Prop} {n : Nat} {P : Nat → Value → Prop} {St : Nat → Shared → Prop}
theorem set_step {acc : List K} {k : K} {h : Heap} {a : Addr} (hS : h.SetOf knd a (fun k' => decide (k' ∈ acc) || decide (k' = k)) (if decide (k ∈ acc) = true then acc.length else acc.length + 1)) :
    h.SetOf knd a (fun k' => decide (k' ∈ addK acc k)) (addK acc k).length := by
  refine SetOf_congr hS (fun k' => ?_) ?_
  · rw [← Bool.decide_or]; exact decide_eq_decide.mpr mem_addK.symm
  · unfold addK
    by_cases h : k ∈ acc <;> simp [h]
theorem set_loop (W : WalksS prog w A.in1 I fp wr G n P St) (S : Addr) (hSf : S ∉ fp) (l : List K) (hl : l.length = n) (hval : ∀ i v k, P i v → l[i]? = some k → knd.is k v = true ∧ v.scannable = true) (hb : n + 1 < scanBound) :
    ∀ (d i : Nat) (s : Shared), n - i = d → i ≤ n → St i s → s.heap.SetOf knd S (fun k' => decide (k' ∈ ddK (l.take i))) (ddK (l.take i)).length →
      (∀ s', Moved (S :: wr) G s s' → s'.heap.SetOf knd S (fun k' => decide (k' ∈ ddK l)) (ddK l).length → R (.ok (.ret .none)) s') →
      codeAny (model prog w) A (.builtin "set.update.loop" ⟨[.ref S, .ref I], []⟩) R s := by
  have hSw : S ∉ wr := fun h => hSf (W.sub _ h)
  intro d
  induction d with
  | zero =>
    intro i s hd hi hst hS hR
    have hin : i = n := by omega
    refine codeAny_builtin F.entry_set_update_loop ?_
    rw [Around.under_plainId F.plain_set_update_loop _]
    show wpAny _ A.in1 (pyNext (.ref I) >>= _) _ _ s
    refine wpAny_bind (W.done s _ _ (hin ▸ hst) fun s' hm => ?_)
    refine wpAny_pure (hR s' ⟨fun b o hb => hm.heap b o fun q => hb (List.mem_cons_of_mem _ q), hm.gens, hm.drawn, hm.os, hm.toks⟩ ?_)
    rw [List.take_of_length_le (by omega)] at hS
    obtain ⟨o, es, ep, t, ho, rest⟩ := hS
    exact ⟨o, es, ep, t, hm.heap S _ hSw ho, rest⟩
  | succ d ih =>
    intro i s hd hi hst hS hR
    have hlt : i < n := by omega
    refine codeAny_builtin F.entry_set_update_loop ?_
    rw [Around.under_plainId F.plain_set_update_loop _]
    show wpAny _ A.in1 (pyNext (.ref I) >>= _) _ _ s
    refine wpAny_bind (W.item i s _ _ hlt hst fun v s1 hP hst1 hm => ?_)
    have hk : l[i]? = some l[i] := List.getElem?_eq_getElem (by omega)
    obtain ⟨v1, v2⟩ := hval i v _ hP hk
    have hS1 : s1.heap.SetOf knd S (fun k' => decide (k' ∈ ddK (l.take i))) (ddK (l.take i)).length := by
      obtain ⟨o, es, ep, t, ho, rest⟩ := hS
      exact ⟨o, es, ep, t, hm.heap S _ hSw ho, rest⟩
    show wpAny _ A.in1 (holding [v] (setAdd S v) >>= _) _ _ s1
    refine wpAny_bind (wpAny_holding ?_)
    unfold setAdd
    refine wpAny_holding (wpAny_bind (knd.pyHash v1 ?_))
    have hroom : (ddK (l.take i)).length + 1 < scanBound := by
      have := ddK_len (l.take i)
      rw [List.length_take] at this
      omega
    refine wpAny_setAddHashed_of (s := { s1 with toks := s1.toks + 1 }) v1 v2 hS1 hroom fun h2 hsb hS2 => ?_
    have hS3 := set_step hS2
    have e : addK (ddK (l.take i)) l[i] = ddK (l.take (i + 1)) := by rw [List.take_add_one, hk]; exact (ddK_snoc _ _).symm
    rw [e] at hS3
    refine wpAny_pure ⟨plainId_quiet F.plain_set_update_loop _, ih (i + 1) _ (by omega) hlt (W.frame _ s1 _ _ hst1 (Nat.le_succ _) fun b hb o eo => ?_) hS3 fun s3 hm3 hS' => hR s3 ?_ hS'⟩
    · rw [hsb.2 b (fun q : b = S => hSf (q ▸ hb))]; exact eo
    · refine ⟨fun b o hb eo => hm3.heap b o hb ?_, W.gtrans _ _ _ hm.gens hm3.gens, hm3.drawn.trans hm.drawn, hm3.os.trans hm.os, Nat.le_trans hm.toks (Nat.le_trans (Nat.le_succ _) hm3.toks)⟩
      show h2.get? b = some o
      rw [hsb.2 b (fun q : b = S => hb (q ▸ List.mem_cons_self))]
      exact hm.heap b o (fun q => hb (List.mem_cons_of_mem _ q)) eo
end
noncomputable abbrev setObj0 (b : Bool) : Obj := { cls := .type "set", dict := none, data := .set #[] 0 (.fresh 0 0 b) }
section
variable {prog : Program} {w : World} {K : Type} [DecidableEq K] [BEq K] [LawfulBEq K] {knd : KeyKind prog w K} {A : Around} {E : Value → Shared → Prop} {s : Shared}
theorem set_filled {S l : Addr} {items : Array Value} {ks : List K} {R : Result → Shared → Prop} {A1 : Around} (hh : A1.in1.handled = none) (hl : s.heap.IsList l items) (hS : s.heap.SetOf knd S (fun zz => false) 0) (hne : S ≠ l) (hk : ks.length = items.size) (hb : items.size + 1 < scanBound)
    (hval : ∀ (i : Nat) v k, items[i]? = some v → ks[i]? = some k → knd.is k v = true ∧ v.scannable = true)
    (h : ∀ h' tk, h'.SetOf knd S (fun k' => decide (k' ∈ ddK ks)) (ddK ks).length → (∀ b o, b ≠ S → s.heap.get? b = some o → h'.get? b = some o) → R (.ok (.ret .none)) { s with heap := h', toks := tk }) :
    wpAny (model prog w) A1 (pyIter (.ref l)) (fun it s1 => codeAny (model prog w) A1 (.builtin "set.update.loop" ⟨[.ref S, it], []⟩) R s1) E s := by
  refine wpAny_pyIter_list hl ?_
  have hlS : l < s.heap.objs.size := by obtain ⟨o, e, _⟩ := hl; exact Heap.lt_size e
  have hSS : S < s.heap.objs.size := by obtain ⟨o, _, _, _, e, _⟩ := hS; exact Heap.lt_size e
  have e0 : (ddK (ks.take 0)) = [] := rfl
  refine set_loop ((Walks.list hh s.heap.objs.size l (Nat.ne_of_lt hlS) items).toS) S (by simp only [List.mem_cons, List.not_mem_nil, or_false, not_or]; exact ⟨Nat.ne_of_lt hSS, hne⟩) ks hk hval hb (items.size - 0) 0 _ (by omega) (Nat.zero_le _)
    ⟨⟨_, Heap.get?_push_size _ rfl, rfl, rfl⟩, hl.push _⟩ ?_ fun s' hm hS' => ?_
  · obtain ⟨o, es, ep, t, ho, rest⟩ := hS
    exact SetOf_congr (n := 0) (n' := 0) ⟨o, es, ep, t, Heap.get?_push_of_some _ ho, rest⟩ (fun zz => rfl) rfl
  · obtain ⟨h', g', d', tk', os'⟩ := s'
    have eg : g' = s.gens := hm.gens
    have ed : d' = s.drawn := hm.drawn
    have eo : os' = s.os := hm.os
    subst eg; subst ed; subst eo
    refine h h' tk' hS' fun b o hb e => ?_
    have hb2 : b ≠ s.heap.objs.size := Nat.ne_of_lt (Heap.lt_size e)
    exact hm.heap b o (by simp only [List.mem_cons, List.not_mem_nil, or_false, not_or]; exact ⟨hb, hb2⟩) (Heap.get?_push_of_some _ e)
theorem call_set_any {l : Addr} {items : Array Value} {ks : List K} {Q : Value → Shared → Prop} (hh : A.handled = none) (hl : s.heap.IsList l items) (hk : ks.length = items.size) (hb : items.size + 1 < scanBound)
    (hval : ∀ (i : Nat) v k, items[i]? = some v → ks[i]? = some k → knd.is k v = true ∧ v.scannable = true)
    (h : ∀ h' tk, h'.SetOf knd s.heap.objs.size (fun k' => decide (k' ∈ ddK ks)) (ddK ks).length → (∀ b o, s.heap.get? b = some o → h'.get? b = some o) → Q (.ref s.heap.objs.size) { s with heap := h', toks := tk }) :
    wpAny (model prog w) A (call (.type "set") [.ref l]) Q E s := by
  obtain ⟨c, tl, hmro⟩ := F.called_set.mro
  have hmade := F.called_set.made
  have hsub := F.called_set.sub
  refine wpAny_call (codeAny_of_tree ?_)
  show wpAny _ _ (callAny (.type "set") _) _ _ _
  refine wpAny_pure ⟨Code.quiet_builtin _ (by decide +kernel), codeAny_builtin F.entry_type_call ?_⟩
  rw [Around.under_plain (weight_type_call_type "set" [.ref l] []) rfl]
  have h1 := F.called_set.notType
  have h2 := F.called_set.canCreate
  have hct := F.typeCall_set_1 (.ref l)
  repeat (any_goals (first | assumption | wp_step))
  refine codeAny_mono (code_set_new_1 (.ref l) (E := E) (Q₁ := fun obj s₁ => ∃ led : Bool, obj = .ref s.heap.objs.size ∧ s₁ = { s with heap := s.heap.push (setObj0 led) }) fun led => ⟨led, rfl, rfl⟩) fun r s₁ hr => ?_
  rcases r with e | (_ | _ | _ | obj)
  · exact hr
  · exact hr.elim
  · exact hr.elim
  · exact hr.elim
  · obtain ⟨led, rfl, rfl⟩ := hr
    have hS : (s.heap.push (setObj0 led)).get? s.heap.objs.size = some (setObj0 led) := Heap.get?_push_size _ rfl
    have hT : Shared.TypeIs { s with heap := s.heap.push (setObj0 led) } (.ref s.heap.objs.size) "set" := ⟨_, hS, rfl⟩
    have hli := F.called_set.init.lookup
    have hbi := F.called_set.init.bind (.ref s.heap.objs.size)
    repeat (any_goals (first | assumption | wp_step))
    refine codeAny_mono (codeAny_call_builtin (R := wants (fun r s₂ => r = .none ∧ ∃ h' tk, s₂ = { s with heap := h', toks := tk } ∧ h'.SetOf knd s.heap.objs.size (fun k' => decide (k' ∈ ddK ks)) (ddK ks).length ∧
        (∀ b o, s.heap.get? b = some o → h'.get? b = some o)) E) F.called_set.init.plain F.entry_set_init (check_set_init_1 hT ?_)) fun r₂ s₂ hr₂ => ?_
    · have hl1 : (s.heap.push (setObj0 led)).IsList l items := hl.push _
      obtain ⟨ol, hol, hcl, nl, hdl⟩ := id hl1
      obtain ⟨ocls, odict, odata, oslots⟩ := ol
      simp only at hcl hdl
      subst hcl; subst hdl
      have hsls := F.sub_list_set
      have hslf := F.sub_list_frozenset
      have hne : (Value.type "list" == Value.type "dict") = false := by decide
      have hlS : l < s.heap.objs.size := by obtain ⟨o, e, _⟩ := hl; exact Heap.lt_size e
      unfold Builtin.«set.__init__» noKeywords Builtin.Frozenset.updateFrom
      have hS0 : (s.heap.push (setObj0 led)).SetOf knd s.heap.objs.size (fun zz => false) 0 := (setObjOf_fresh (knd := knd) led).setOf hS (by unfold scanBound; omega)
      generalize hPI : pyIter = PI
      wp_walk
      subst hPI
      refine wpAny_mono (set_filled (knd := knd) (E := _) (s := { s with heap := s.heap.push (setObj0 led) }) (A1 := A.in1.in1) (R := fun r s' => r = .ok (.ret .none) ∧ ∃ h' tk, s' = { s with heap := h', toks := tk } ∧
          h'.SetOf knd s.heap.objs.size (fun k' => decide (k' ∈ ddK ks)) (ddK ks).length ∧ (∀ b o, s.heap.get? b = some o → h'.get? b = some o))
        (by simp [hh]) hl1 hS0 (Nat.ne_of_gt hlS) hk hb hval fun h' tk hS' hk' => ⟨rfl, h', tk, rfl, hS', fun b o e => hk' b o (Nat.ne_of_lt (Heap.lt_size e)) (Heap.get?_push_of_some _ e)⟩)
        (fun it s1 hc => wpAny_bind (wpAny_runValue (codeAny_mono hc ?_))) fun zz zz f => f
      rintro r s2 ⟨rfl, h', tk, rfl, hS', hk'⟩
      exact wpAny_pure (wpAny_pure ⟨rfl, h', tk, rfl, hS', hk'⟩)
    · rcases r₂ with e | (_ | _ | _ | r)
      · exact hr₂
      · exact hr₂.elim
      · exact hr₂.elim
      · exact hr₂.elim
      · obtain ⟨rfl, h', tk, rfl, hS', hk'⟩ := hr₂
        repeat (any_goals (first | assumption | wp_step))
        exact h _ _ hS' hk'
end
end Mine
end
section
set_option maxRecDepth 100000
set_option maxHeartbeats 1000000
set_option linter.unusedVariables false
namespace Mine
open PySem PySem.Spec PySem.Calls PyProof.Rows PySem.W
open PySem.Builtin PySem.Builtin.Re

theorem plainAttrs_pat : PlainAttrs "re.Pattern" :=
  ⟨⟨"object.__getattribute__", by rw [typeLookup_type, builtinLookup_eq_fast]; kernel_rfl, by decide +kernel⟩, by rw [typeLookup_type, builtinLookup_eq_fast]; kernel_rfl⟩
theorem slot_search : Slot "re.Pattern" "search" "re.Pattern.search" :=
  .of (owner := "re.Pattern") (n := "search") (by rw [typeLookup_type, builtinLookup_eq_fast]; kernel_rfl) (by decide +kernel) (by decide +kernel) (by decide +kernel)
    (by first | exact .inl (by decide +kernel) | exact .inr (by decide +kernel)) (by rw [isSubtype_type]; kernel_rfl)
theorem type_search : typeOf (.builtin "re.Pattern.search") = pure (.type "method_descriptor") := by show builtinType _ = _; rw [builtinType_eq_fast]; kernel_rfl
theorem entry_search : entryFor table "re.Pattern.search" = some Builtin.«re.Pattern.search» := entryFor_of_tree (by kernel_rfl)
theorem args_search (a b : Value) : argsOk "re.Pattern.search" ⟨[a, b], []⟩ := by unfold argsOk; kernel_rfl

noncomputable def sreFresh (code text : Array Nat) (groups lim : Nat) : Sre.M :=
  { code, text, lim, start := 0, pc := (Sre.header code).2, pos := 0, handed := 0, marks := Array.replicate (2 * groups) none, mustAdvance := false,
    seen := if (Sre.header code).2 == 0 then {} else ({} : Sre.Seen).add 14 }
theorem forSearch_eq (code text : Array Nat) (groups lim : Nat) : Sre.forSearch code text groups 0 lim false =
    if (decide (0 > lim) || decide (lim - 0 < (Sre.header code).1)) = true then (sreFresh code text groups lim).say false
    else ({ sreFresh code text groups lim with lastStart := if (decide ((Sre.header code).1 > 1) && !((Sre.header code).2 != 0 && code.getD 2 0 &&& 5 != 0)) = true then max 0 (lim - ((Sre.header code).1 - 1)) else lim } : Sre.M).attemptFrom 0 true := rfl
noncomputable def NoneIn (code text : Array Nat) : Prop := ∀ i, i < text.size → ∀ seen, ∃ seen', Sre.inSet code (text.getD i 0) code.size 5 true seen = .ok (false, seen')
theorem admitted_none {m : Sre.M} (hn : NoneIn m.code m.text) (hl : m.lim ≤ m.text.size) : ∀ (fuel s : Nat) (seen : Sre.Seen), ∃ seen', Sre.M.admitted m fuel s seen = .ok (none, seen')
  | 0, _, seen => ⟨seen, rfl⟩
  | fuel + 1, s, seen => by
    unfold Sre.M.admitted
    by_cases h : s ≥ m.lim
    · rw [if_pos h]; exact ⟨seen, rfl⟩
    · rw [if_neg h]
      obtain ⟨seen', e⟩ := hn s (by omega) seen
      rw [e]
      exact admitted_none hn hl fuel (s + 1) seen'
theorem attemptFrom_none {m : Sre.M} (hf : m.hasFirstSet = true) (hn : NoneIn m.code m.text) (hl : m.lim ≤ m.text.size) (s : Nat) (b : Bool) : ∃ seen', m.attemptFrom s b = ({ m with seen := seen' } : Sre.M).say false := by
  obtain ⟨seen', e⟩ := admitted_none hn hl (m.lim + 1 - s) s m.seen
  refine ⟨seen', ?_⟩
  unfold Sre.M.attemptFrom
  rw [hf]
  simp only [Bool.not_true, Bool.false_eq_true, if_false]
  rw [e]
theorem search_failed {code text : Array Nat} {groups : Nat} (hn : NoneIn code text) (hf : (sreFresh code text groups text.size).hasFirstSet = true) :
    ∃ m, (Sre.forSearch code text groups 0 text.size false) = m ∧ m.outcome = none ∧ m.answer = some false ∧ m.frames = [] := by
  rw [forSearch_eq]
  split
  · exact ⟨_, rfl, rfl, rfl, rfl⟩
  · refine ⟨_, rfl, ?_⟩
    obtain ⟨seen', e⟩ := attemptFrom_none (m := { sreFresh code text groups text.size with lastStart := if (decide ((Sre.header code).1 > 1) && !((Sre.header code).2 != 0 && code.getD 2 0 &&& 5 != 0)) = true then max 0 (text.size - ((Sre.header code).1 - 1)) else text.size }) hf hn (Nat.le_refl _) 0 true
    rw [e]
    exact ⟨rfl, rfl, rfl⟩
theorem step_failed {m : Sre.M} (h1 : m.outcome = none) (h2 : m.answer = some false) (h3 : m.frames = []) : (m.runFor reTurnSteps).outcome = some .failed := by
  have e : m.step = { m with outcome := some .failed } := by
    unfold Sre.M.step
    rw [h1, h2, h3]
    rfl
  show (Sre.M.runFor 4 m).outcome = _
  unfold Sre.M.runFor
  rw [h1]
  simp only [Option.isSome_none, Bool.false_eq_true, if_false]
  rw [e]
  unfold Sre.M.runFor
  simp
theorem drive_one {m : Sre.M} (h : (m.runFor reTurnSteps).outcome.isSome = true) (k : Nat) : reDrive (k + 1) m = pure (m.runFor reTurnSteps) := by
  unfold reDrive
  dsimp only
  rw [if_pos h]
theorem rules_run {M : Model} {A : Around} {E : Value → Shared → Prop} {s : Shared} (m : Sre.M) {Q : PUnit → Shared → Prop} (h : Q ⟨⟩ s) : ∀ l : List Nat, wpAny M A (forIn l PUnit.unit fun i zz => (if m.seen.has i = true then do rule (Sre.names.getD i ""); pure (ForInStep.yield PUnit.unit) else pure (ForInStep.yield PUnit.unit) : Sem (ForInStep PUnit))) Q E s
  | [] => wpAny_pure h
  | i :: l => by
    rw [List.forIn_cons]
    refine wpAny_bind ?_
    by_cases hb : m.seen.has i = true
    · rw [if_pos hb]; exact wpAny_bind (wpAny_rule (wpAny_pure (rules_run m h l)))
    · rw [if_neg hb]; exact wpAny_pure (rules_run m h l)
theorem min_huge {k : Nat} (h : k ≤ 16777216) : min (Int.toNat (2 ^ 63 - 1)) k = k := by
  have : Int.toNat (2 ^ 63 - 1) = 9223372036854775807 := by decide
  rw [this]; omega
theorem drive_all {m : Sre.M} (h : (m.runFor reTurnSteps).outcome.isSome = true) : reDrive (2 ^ 64) m = pure (m.runFor reTurnSteps) := by
  have e : (2 : Nat) ^ 64 = 18446744073709551615 + 1 := by decide
  rw [e]
  generalize 18446744073709551615 = k
  exact drive_one h k
theorem reAnswer_none {M : Model} {A : Around} {E : Value → Shared → Prop} {s : Shared} {t : ReTarget} {M0 : Sre.M} {R : Value → Shared → Prop} (h : ∃ m, M0 = m ∧ m.outcome = none ∧ m.answer = some false ∧ m.frames = []) (post : R .none s) :
    wpAny M A (reAnswer t M0) (fun fin s' => ∃ v, fin = Fin.done (Flow.ret v) ∧ R v s') E s := by
  obtain ⟨m, rfl, m1, m2, m3⟩ := h
  have st := step_failed m1 m2 m3
  unfold reAnswer reRunToEnd
  rw [drive_all (by rw [st]; rfl)]
  refine wpAny_bind (wpAny_bind (wpAny_pure (wpAny_bind ?_)))
  refine rules_run _ ?_ _
  rw [st]
  exact wpAny_pure (wpAny_pure ⟨_, rfl, post⟩)
section
variable {C : Cx} {L : Led} {n : Nat} {Q : AV → Led → Prop}
theorem call_search {p cd : Addr} {od : Option Addr} {sl sl2 : Array (Option Value)} {od2 : Option Addr} {n2 : Nat} {fs items : Array Value} {x : Str} (hk : C.K.lookup p = some ⟨.type "re.Pattern", od, .fields fs, sl⟩) (h5 : fs.getD 5 .none = .ref cd) (h6 : reRawNat (fs.getD 6 .none) = 0)
    (hc : C.K.lookup cd = some ⟨.type "tuple", od2, .seq items n2, sl2⟩) (hn : NoneIn (items.map reRawOf |>.map (·.toNat)) x.cps) (hf : (sreFresh (items.map reRawOf |>.map (·.toNat)) x.cps (reRawNat (fs.getD 2 .none)) x.cps.size).hasFirstSet = true) (hz : x.length ≤ sizeLine) (h : Q .none L) :
    CALL C n (.cst (.builtin "re.Pattern.search")) [.obj p, .str x] [] L Q := fun A g s vf vs kv r R hvf hv hkk => by
  cases hvf; cases hkk
  apply hv.eTwo; intro v1 v2 q1 q2
  obtain ⟨t, rfl⟩ : ∃ t, v2 = .str x t := by cases q2; exact ⟨_, rfl⟩
  cases q1
  change OpL C A (call _ [_, _] []) g s (VK Q)
  have hp := R.Xs _ _ hk
  have hcd := R.Xs _ _ hc
  have hT : s.TypeIs (.ref p) "re.Pattern" := ⟨_, hp, rfl⟩
  refine wpAny_call_entry slot_search hT entry_search ?_ (args_search _ _)
  have post : P5 (RepL C) g (VK Q) .none s := ⟨g, L, .refl g, R, .none, .none, h⟩
  obtain ⟨hh, gg, dd, tk, os⟩ := s
  unfold Builtin.«re.Pattern.search» reTarget
  repeat (any_goals (first | assumption | wp_step))
  have e1 : ¬ ((reRawNat (fs.getD 6 Value.none) == 1 && 0 == 0) = true) := by rw [h6]; decide
  rw [if_neg e1]
  show wpAny _ _ (reNoCollectionInside (.str x t) 0 >>= _) _ _ _
  refine wpAny_bind (wpAny_pure ?_)
  rw [h5]
  unfold reRawItems
  refine wpAny_bind (wpAny_bind (wpAny_seqItems (s := ⟨hh, gg, dd, tk, os⟩) hcd rfl (wpAny_pure (wpAny_pure ?_))))
  dsimp only
  have hx : x.cps.size ≤ 16777216 := by rw [sizeLine_eq] at hz; exact hz
  have c1 : min (Int.toNat 0) x.cps.size = 0 := by simp
  have c2 : min (Int.toNat (2 ^ 63 - 1)) x.cps.size = x.cps.size := min_huge hx
  rw [c1, c2]
  obtain ⟨m, em, m1, m2, m3⟩ := search_failed (groups := reRawNat (fs.getD 2 Value.none)) hn hf
  refine reAnswer_none ?_ post
  exact ⟨m, em, m1, m2, m3⟩
end
end Mine
end
section
set_option maxRecDepth 100000
set_option linter.unusedVariables false
namespace Mine
open PySem PySem.Spec PySem.Calls PyProof.Rows PySem.W

theorem RepL.allocAt {C : Cx} {L : Led} {g : Heap} {s : Shared} (R : RepL C g L s) {h' : Heap} (k : Le s.heap h') {o : Obj} {x : AO} (ho : h'.get? s.heap.objs.size = some o) (hx : OR C g x o) (t : Nat) (hng : x.genE = none) :
    RepL C g ((s.heap.objs.size, x) :: L) { s with heap := h', toks := t } := by
  refine ⟨R.ok, R.base, R.sub.trans k, ?_, ?_, ?_, R.os, GensOk.cons (L := C.all L) R.gens hng⟩
  · exact List.nodup_cons.mpr ⟨R.freshL, R.nd⟩
  · intro a ha
    rcases List.mem_cons.mp ha with rfl | ha
    · exact R.fresh
    · exact R.free a ha
  · intro p hp
    rcases List.mem_cons.mp hp with rfl | hp
    · exact ⟨o, ho, hx⟩
    · obtain ⟨o', h1, h2⟩ := R.led p hp
      exact ⟨o', k _ _ h1, h2⟩

section
variable {C : Cx} {n : Nat} {L : Led} {Q : AV → Led → Prop}
theorem VRs.at_str {g : Heap} {ks : List Str} {vs : List Value} (h : VRs g (ks.map .str) vs) {i : Nat} {v : Value} {k : Str} (hv : vs[i]? = some v) (hk : ks[i]? = some k) : ∃ t, v = .str k t := by
  obtain ⟨v', e1, e2⟩ := h.get (i := i) (x := .str k) (by rw [List.getElem?_map, hk]; rfl)
  rw [hv] at e1; cases e1; cases e2; exact ⟨_, rfl⟩
theorem VRs.at_int {g : Heap} {ks : List Int} {vs : List Value} (h : VRs g (ks.map .int) vs) {i : Nat} {v : Value} {k : Int} (hv : vs[i]? = some v) (hk : ks[i]? = some k) : ∃ t, v = .int k t := by
  obtain ⟨v', e1, e2⟩ := h.get (i := i) (x := .int k) (by rw [List.getElem?_map, hk]; rfl)
  rw [hv] at e1; cases e1; cases e2; exact ⟨_, rfl⟩

theorem call_set_strs {a : AV} {ks : List Str} (hs : SeqV L a (ks.map .str)) (hz : ks.length ≤ 4000) (h : ∀ S, Q (.obj S) ((S, .sset (ddK ks)) :: L)) : CALL C n (.cst (.type "set")) [a] [] L Q := fun A g s vf vs kv r R hf hv hk => by
  cases hf; cases hk
  apply hv.eOne; intro v1 q1
  obtain ⟨d, ws, rfl, hl, hw⟩ := hs.at R q1
  have hsz : ks.length = ws.size := by have := hw.length; simpa using this
  change OpL C A (call _ [_] []) g s (VK Q)
  refine call_set_any (knd := C.SK) (ks := ks) r.handled hl hsz (by unfold scanBound; omega) (fun i v k hv hk => ?_) fun h' tk hS hk => ?_
  · obtain ⟨t, rfl⟩ := hw.at_str (by simpa using hv) hk
    exact ⟨strKind_is _ _ _ _, rfl⟩
  · obtain ⟨o, ho, hso⟩ := hS.objOf
    refine ⟨g, _, .refl g, R.allocAt (x := .sset (ddK ks)) hk ho ⟨ddK_nodup _, ?_⟩ tk rfl, _, .obj _, h _⟩
    exact hso
theorem call_set_ints {a : AV} {ks : List Int} (hs : SeqV L a (ks.map .int)) (hz : ks.length ≤ 4000) (h : ∀ S, Q (.obj S) ((S, .iset (ddK ks)) :: L)) : CALL C n (.cst (.type "set")) [a] [] L Q := fun A g s vf vs kv r R hf hv hk => by
  cases hf; cases hk
  apply hv.eOne; intro v1 q1
  obtain ⟨d, ws, rfl, hl, hw⟩ := hs.at R q1
  have hsz : ks.length = ws.size := by have := hw.length; simpa using this
  change OpL C A (call _ [_] []) g s (VK Q)
  refine call_set_any (knd := C.IK) (ks := ks) r.handled hl hsz (by unfold scanBound; omega) (fun i v k hv hk => ?_) fun h' tk hS hk => ?_
  · obtain ⟨t, rfl⟩ := hw.at_int (by simpa using hv) hk
    exact ⟨intKind_is _ _ _ _, rfl⟩
  · obtain ⟨o, ho, hso⟩ := hS.objOf
    refine ⟨g, _, .refl g, R.allocAt (x := .iset (ddK ks)) hk ho ⟨ddK_nodup _, ?_⟩ tk rfl, _, .obj _, h _⟩
    exact hso
theorem call_set_empty (h : ∀ S, Q (.obj S) ((S, .sset []) :: L)) : CALL C n (.cst (.type "set")) [] [] L Q := fun A g s vf vs kv r R hf hv hk => by
  cases hf; cases hk; cases hv
  change OpL C A (call _ [] []) g s (VK Q)
  refine PySem.call_set_0 fun led => ?_
  refine ⟨g, _, .refl g, R.alloc (x := .sset []) (o := setObj0 led) ⟨List.nodup_nil, ?_⟩ rfl s.toks, _, .obj _, h _⟩
  have : (fun k : Str => decide (k ∈ ([] : List Str))) = fun zz => false := funext fun k => by simp
  rw [this]
  exact setObjOf_fresh (knd := C.SK) led
theorem led_sset {S : Addr} {ks : List Str} {g : Heap} {s : Shared} (R : RepL C g L s) (hm : (S, .sset ks) ∈ L) (hz : ks.length ≤ 4000) : s.heap.SetOf C.SK S (fun k => decide (k ∈ ks)) ks.length := by
  obtain ⟨o, h1, _, h2⟩ := R.get hm
  exact h2.setOf h1 (by unfold scanBound; omega)
theorem getm_set {S : Addr} {ks : List Str} {name : Str} {id : String} {Q : AV → List AV → Led → Prop} (hm : (S, .sset ks) ∈ L) (hz : ks.length ≤ 4000) (slot : Slot "set" name id) (hty : typeOf (.builtin id) = pure (.type "method_descriptor"))
    (h : Q (.cst (.builtin id)) [.obj S] L) : GETM C n (.obj S) name L Q :=
  fun A g s v pl r R hv => by
    cases hv
    have hS := led_sset R hm hz
    with_reducible refine getMethod_builtin (T := "set") hS.typeIs PySem.F.plainAttrs_set slot hty hS.noDict ?_
    exact ⟨g, L, .refl g, R, _, _, .cst _, .cons (.obj _) .nil, h⟩
set_option tactic.hygienic true in
theorem set_add_str {S : Addr} {ks : List Str} {x : Str} {L' : Led} (hm : (S, .sset ks) ∈ L) (hz : ks.length ≤ 4000) (hs : LSet S (.sset (addK ks x)) L L') (h : Q .none L') : CALL C n (.cst (.builtin "set.add")) [.obj S, .str x] [] L Q := fun A g s vf vs kv r R hf hv hk => by
  cases hf; cases hk
  apply hv.eTwo; intro v1 v2 q1 q2
  cases q1; cases q2
  rename_i t
  have hS := led_sset R hm hz
  have hnd : ks.Nodup := let ⟨o, _, h, _⟩ := R.get hm; h
  change OpL C A (call _ [_, _] []) g s (VK Q)
  refine call_set_add (knd := C.SK) (k := x) (strKind_is _ _ _ _) rfl hS (by unfold scanBound; omega) fun h' hsb hS' => ?_
  have hS2 := set_step hS'
  obtain ⟨o, ho, hso⟩ := hS2.objOf
  exact ⟨g, L', .refl g, R.set hs hsb ⟨o, ho, addK_nodup hnd x, hso⟩ _, _, .none, h⟩
theorem notin_sset {S : Addr} {ks : List Str} {x : Str} (hm : (S, .sset ks) ∈ L) (hz : ks.length ≤ 4000) (h : Q (.bool (!decide (x ∈ ks))) L) : OP2 C n (compareOp .NotIn) (.str x) (.obj S) L Q := fun A g s v u r R hv hu => by
  cases hv; cases hu
  exact wpAny_notInSet_of (knd := C.SK) (k := x) (strKind_is _ _ _ _) rfl (led_sset R hm hz) ⟨g, L, .refl g, R.toks _, _, .bool _, h⟩
theorem len_sset {S : Addr} {ks : List Str} (hm : (S, .sset ks) ∈ L) (hz : ks.length ≤ 4000) (h : Q (.int ks.length) L) : CALL C n (.cst (.builtin "len")) [.obj S] [] L Q := fun A g s vf vs kv r R hf hv hk => by
  cases hf; cases hk
  apply hv.eOne; intro v1 q1
  cases q1
  obtain ⟨o, h1, _, hex, es, ep, t, hd, _, _, hn, hft⟩ := R.get hm
  change OpL C A (call _ [_] []) g s (VK Q)
  refine call_len_set h1 hex hd hft (by omega) ⟨g, L, .refl g, R.toks _, .int ks.length, ?_, h⟩
  rw [hn]; exact .int _ _
theorem len_iset {S : Addr} {ks : List Int} (hm : (S, .iset ks) ∈ L) (hz : ks.length ≤ 4000) (h : Q (.int ks.length) L) : CALL C n (.cst (.builtin "len")) [.obj S] [] L Q := fun A g s vf vs kv r R hf hv hk => by
  cases hf; cases hk
  apply hv.eOne; intro v1 q1
  cases q1
  obtain ⟨o, h1, _, hex, es, ep, t, hd, _, _, hn, hft⟩ := R.get hm
  change OpL C A (call _ [_] []) g s (VK Q)
  refine call_len_set h1 hex hd hft (by omega) ⟨g, L, .refl g, R.toks _, .int ks.length, ?_, h⟩
  rw [hn]; exact .int _ _
set_option tactic.hygienic true in
theorem call_min_int {x y : Int} (h : Q (.int (if y < x then y else x)) L) : CALL C n (.cst (.builtin "min")) [.int x, .int y] [] L Q := fun A g s vf vs kv r R hf hv hk => by
  cases hf; cases hk
  apply hv.eTwo; intro v1 v2 q1 q2
  cases q1; cases q2
  rename_i t1 t2
  change OpL C A (call _ [_, _] []) g s (VK Q)
  refine PySem.min_two_ints r.handled fun h' tk hk => ⟨g, L, .refl g, R.heapAll hk tk, _, ?_, h⟩
  split <;> exact .int _ _
theorem tests_none {F : SF} {ρ : Vars} {P R : Led → Prop} (h : P L) : TESTS C F ρ L [] fun b L2 => if b = true then P L2 else R L2 := by
  show if (true : Bool) = true then P L else R L
  rw [if_pos rfl]; exact h
theorem tests_if {F : SF} {ρ : Vars} {e : Expr} {P : Bool → Led → Prop} (h : ET C F ρ L e P) : TESTS C F ρ L [e] P := h
end
end Mine
end
section
set_option maxRecDepth 100000
set_option linter.unusedVariables false
namespace Mine
open PySem PySem.Spec PySem.Calls PyProof.Rows PySem.W
noncomputable def fname (i : Nat) : Str := ([Str.ofString "OPTIMIZED", Str.ofString "NEWLOCALS", Str.ofString "VARARGS", Str.ofString "VARKEYWORDS", Str.ofString "NESTED", Str.ofString "GENERATOR", Str.ofString "NOFREE", Str.ofString "COROUTINE",
  Str.ofString "ITERABLE_COROUTINE", Str.ofString "ASYNC_GENERATOR", Str.ofString "0x400", Str.ofString "0x800"][i]?).getD Str.empty
noncomputable def fnames (m k : Nat) : List Str := ((List.range k).filter (fun i => m.testBit i)).map fname
noncomputable def prettyS (m : Nat) : Str := if m = 0 then Str.ofString "0x0" else Txt.join (Str.ofString ", ") (fnames m 12)
theorem fnames_succ (m k : Nat) : fnames m (k + 1) = fnames m k ++ (if m.testBit k then [fname k] else []) := by
  unfold fnames
  rw [List.range_succ, List.filter_append, List.map_append]
  by_cases h : m.testBit k <;> simp [h]
theorem fnames_zero (k : Nat) : fnames 0 k = [] := by unfold fnames; simp
theorem fnames_above {m n : Nat} (hm : m < 2 ^ n) : ∀ k, fnames m (n + k) = fnames m n
  | 0 => rfl
  | k + 1 => by
    rw [← Nat.add_assoc, fnames_succ, fnames_above hm k, Nat.testBit_lt_two_pow (Nat.lt_of_lt_of_le hm (Nat.pow_le_pow_right (by decide) (Nat.le_add_right n k)))]
    simp
theorem fname_length : ∀ i, (fname i).length ≤ 18
  | 0 | 1 | 2 | 3 | 4 | 5 | 6 | 7 | 8 | 9 | 10 | 11 => by decide
  | _ + 12 => by show (Str.empty).length ≤ 18; decide
theorem fnames_length (m k : Nat) : (fnames m k).length ≤ k := by
  unfold fnames
  rw [List.length_map]
  exact Nat.le_trans (List.length_filter_le _ _) (by simp)
theorem fnames_sum (m k : Nat) : ((fnames m k).map (·.length)).sum ≤ 18 * k := by
  induction k with
  | zero => simp [fnames]
  | succ k ih =>
    rw [fnames_succ, List.map_append, List.sum_append]
    have := fname_length k
    by_cases h : m.testBit k <;> simp [h] <;> omega
noncomputable def rest (m i : Nat) : Nat := m / 2 ^ i * 2 ^ i
theorem rest_zero (m : Nat) : rest m 0 = m := by simp [rest]
theorem rest_and (m i : Nat) : Builtin.bitAnd (rest m i : Int) (1 * 2 ^ i) = if m.testBit i then ((2 ^ i : Nat) : Int) else 0 := by
  rw [Int.one_mul, kbt_bit]
  unfold rest
  have hp : (0 : Int) < 2 ^ i := Int.pow_pos (by decide)
  have e : ((m / 2 ^ i * 2 ^ i : Nat) : Int) / 2 ^ i = ((m / 2 ^ i : Nat) : Int) := by
    have e2 : ((m / 2 ^ i * 2 ^ i : Nat) : Int) = ((m / 2 ^ i : Nat) : Int) * 2 ^ i := by rw [Int.natCast_mul]; simp
    rw [e2, Int.mul_ediv_cancel _ (by omega)]
  rw [e, Nat.testBit_eq_decide_div_mod_eq]
  have h2 : (m / 2 ^ i) % 2 = 0 ∨ (m / 2 ^ i) % 2 = 1 := by omega
  have ep : ((2 ^ i : Nat) : Int) = 2 ^ i := by simp
  rcases h2 with h | h <;> simp [h]
  · have : ((m / 2 ^ i : Nat) : Int) % 2 = 0 := by omega
    rw [show ((m : Int) / 2 ^ i) = ((m / 2 ^ i : Nat) : Int) by simp, this]; simp
  · have : ((m / 2 ^ i : Nat) : Int) % 2 = 1 := by omega
    rw [show ((m : Int) / 2 ^ i) = ((m / 2 ^ i : Nat) : Int) by simp, this]; simp
theorem rest_succ_of (m i : Nat) (h : m.testBit i = false) : rest m (i + 1) = rest m i := by
  rw [Nat.testBit_eq_decide_div_mod_eq] at h
  have h : (m / 2 ^ i) % 2 = 0 := by have := of_decide_eq_false h; omega
  unfold rest
  rw [Nat.pow_succ, ← Nat.div_div_eq_div_mul]
  have : m / 2 ^ i = m / 2 ^ i / 2 * 2 := by omega
  rw [← Nat.mul_assoc, Nat.mul_right_comm, ← this]
theorem rest_xor (m i : Nat) (h : m.testBit i = true) : Builtin.bitXor (rest m i : Int) (1 * 2 ^ i) = (rest m (i + 1) : Int) := by
  rw [bitXor_and, rest_and, h]
  simp only [if_true]
  rw [Nat.testBit_eq_decide_div_mod_eq] at h
  have h : (m / 2 ^ i) % 2 = 1 := of_decide_eq_true h
  unfold rest
  rw [Nat.pow_succ, ← Nat.div_div_eq_div_mul]
  have e : m / 2 ^ i = m / 2 ^ i / 2 * 2 + 1 := by omega
  generalize m / 2 ^ i / 2 = q at *
  rw [e]
  have ep : ((2 ^ i : Nat) : Int) = 2 ^ i := by simp
  rw [← ep]
  generalize 2 ^ i = p
  have e1 : (q * 2 + 1) * p = q * (p * 2) + p := by rw [Nat.add_mul, Nat.mul_assoc, Nat.mul_comm 2 p, Nat.one_mul]
  rw [e1]
  omega
theorem rest_high {m n : Nat} (h : m < 2 ^ n) (k : Nat) : rest m (n + k) = 0 := by
  unfold rest
  rw [Nat.div_eq_of_lt (Nat.lt_of_lt_of_le h (Nat.pow_le_pow_right (by decide) (Nat.le_add_right n k)))]; simp
theorem rest_zero_names {m i n : Nat} (h : rest m i = 0) (hi : i ≤ n) : fnames m n = fnames m i := by
  have hm : m < 2 ^ i := by
    unfold rest at h
    have := Nat.two_pow_pos i
    rcases Nat.mul_eq_zero.mp h with h | h
    · exact (Nat.div_eq_zero_iff_lt this).mp h
    · omega
  obtain ⟨k, rfl⟩ := Nat.exists_eq_add_of_le hi
  exact fnames_above hm k
theorem shr_bit (m i : Nat) : (Builtin.bitAnd ((m : Int).fdiv (2 ^ (i : Int).toNat)) 1 != 0) = m.testBit i := by
  rw [bitAnd_m1, Nat.testBit_eq_decide_div_mod_eq]
  have e : (m : Int).fdiv (2 ^ (i : Int).toNat) = ((m / 2 ^ i : Nat) : Int) := by
    rw [Int.fdiv_eq_ediv_of_nonneg _ (Int.le_of_lt (Int.pow_pos (by decide)))]
    simp
  rw [e]
  by_cases h : (m / 2 ^ i) % 2 = 1
  · rw [decide_eq_true h, bne_iff_ne]; omega
  · rw [decide_eq_false h]
    have : ((m / 2 ^ i : Nat) : Int) % 2 = 0 := by omega
    rw [this]; rfl
noncomputable def bitName (m : Nat) : AV → List AV
  | .int k => if m.testBit k.toNat then [AV.str (fname k.toNat)] else []
  | _ => []
theorem bitName_le (m : Nat) (x : AV) : (bitName m x).length ≤ 1 := by
  unfold bitName
  split
  · split <;> simp
  · simp
theorem fnames_flat (m : Nat) : ∀ k, (nums k).flatMap (bitName m) = (fnames m k).map .str
  | 0 => rfl
  | k + 1 => by
    have e : nums (k + 1) = nums k ++ [.int (k : Int)] := by unfold nums; rw [List.range_succ]; simp
    rw [e, List.flatMap_append, fnames_flat m k, fnames_succ, List.map_append]
    congr 1
    simp only [List.flatMap_cons, List.flatMap_nil, List.append_nil, bitName, Int.toNat_natCast]
    split <;> simp
noncomputable def keysInt (es : Array DictEntry) : Bool := es.toList.all fun e => match e.key with | .int k _ => e.hash == hashInt k | _ => false
set_option tactic.hygienic true in
theorem keysInt_of {C : Cx} {es : Array DictEntry} (h : keysInt es = true) : KeysOf C.IK es := fun e he => by
  have := List.all_eq_true.mp h e (by simpa using he)
  revert this
  cases hk : e.key <;> intro this <;> first | (simp at this; done) | skip
  rename_i k t
  exact ⟨k, by rw [show C.IK.is k (.int k t) = Value.isInt k (.int k t) from rfl]; simp [Value.isInt], (by simpa using this : e.hash = hashInt k)⟩
end Mine
end
section
set_option maxRecDepth 100000
set_option linter.unusedVariables false
namespace Mine
open PySem PySem.Spec PySem.Calls PyProof.Rows PySem.W
noncomputable def elemPlaces : List Nat := [10, 11, 9, 7, 5, 8, 4, 1, 6, 0, 2, 3]
noncomputable def attrS (k : Nat) : Str := Str.ofString " " ++ fname k ++ Str.ofString "=\"\""
noncomputable def elemAttrs (m : Nat) : List Str := (elemPlaces.filter fun k => m.testBit k).map attrS
noncomputable def elemS (m : Nat) : Str := Str.ofString "<s" ++ Txt.join (Str.ofString "") (elemAttrs m) ++ Str.ofString "></s>"
noncomputable def bitAttr (m : Nat) : AV → List AV
  | .int k => if m.testBit k.toNat then [AV.str (attrS k.toNat)] else []
  | _ => []
theorem bitAttr_le (m : Nat) (x : AV) : (bitAttr m x).length ≤ 1 := by
  unfold bitAttr
  split
  · split <;> simp
  · simp
theorem elemAttrs_flat (m : Nat) : (elemPlaces.map fun k => AV.int (k : Nat)).flatMap (bitAttr m) = (elemAttrs m).map .str := by
  unfold elemAttrs
  generalize elemPlaces = l
  induction l with
  | nil => rfl
  | cons k l ih =>
    rw [List.map_cons, List.flatMap_cons, ih]
    by_cases h : m.testBit k <;> simp [bitAttr, h]
theorem str_len_append (x y : Str) : (x ++ y).length = x.length + y.length := by
  show (Str.append x y).length = _
  unfold Str.append Str.length
  simp
theorem attrS_length (k : Nat) : (attrS k).length ≤ 22 := by
  unfold attrS
  rw [str_len_append, str_len_append]
  have := fname_length k
  have h1 : (Str.ofString " ").length = 1 := by decide
  have h2 : (Str.ofString "=\"\"").length = 3 := by decide
  omega
theorem elemAttrs_length (m : Nat) : (elemAttrs m).length ≤ 12 := by
  unfold elemAttrs
  rw [List.length_map]
  exact Nat.le_trans (List.length_filter_le _ _) (by decide)
theorem sum_le_of {α : Type} (f : α → Nat) (c : Nat) : ∀ l : List α, (∀ x ∈ l, f x ≤ c) → (l.map f).sum ≤ c * l.length
  | [], _ => by simp
  | a :: l, h => by
    have h1 := h a List.mem_cons_self
    have h2 := sum_le_of f c l fun x hx => h x (List.mem_cons_of_mem _ hx)
    rw [List.map_cons, List.sum_cons, List.length_cons, Nat.mul_succ]; omega
theorem elemAttrs_sum (m : Nat) : ((elemAttrs m).map (·.length)).sum ≤ 264 := by
  have h1 : ((elemAttrs m).map (·.length)).sum ≤ 22 * (elemAttrs m).length := sum_le_of _ 22 _ fun x hx => by
    unfold elemAttrs at hx
    obtain ⟨k, _, rfl⟩ := List.mem_map.mp hx
    exact attrS_length k
  have h2 := elemAttrs_length m
  omega
theorem join_length (sep : Str) : ∀ xs : List Str, (Txt.join sep xs).length ≤ (xs.map (·.length)).sum + sep.length * xs.length := by
  intro xs
  show (Builtin.Str.glued sep xs).length ≤ _
  rw [size_glued]
  have : (xs.length - 1) * sep.length ≤ xs.length * sep.length := Nat.mul_le_mul_right _ (by omega)
  rw [Nat.mul_comm sep.length]; omega
theorem elemS_length (m : Nat) : (elemS m).length ≤ 300 := by
  unfold elemS
  rw [str_len_append, str_len_append]
  have h1 := join_length (Str.ofString "") (elemAttrs m)
  have h2 := elemAttrs_sum m
  have h3 : (Str.ofString "").length = 0 := by decide
  have h4 : (Str.ofString "<s").length = 2 := by decide
  have h5 : (Str.ofString "></s>").length = 5 := by decide
  rw [h3] at h1
  omega
end Mine
end
section
set_option maxRecDepth 100000
set_option linter.unusedVariables false
namespace Mine
open PySem PySem.Spec PySem.Calls PyProof.Rows PySem.W
noncomputable abbrev noCtl (x : Str) : Prop := ∀ c ∈ x.cps.toList, 32 ≤ c ∧ c < 127
noncomputable def nameCode : Array Nat := #[14, 10, 4, 1, 1, 22, 0, 31, 16, 127, 0, 13, 7, 22, 0, 31, 16, 127, 0, 1]
noncomputable def valueCode : Array Nat := #[14, 14, 4, 1, 1, 9, 4294966783, 0, 0, 2147483648, 0, 0, 0, 0, 0, 13, 11, 9, 4294966783, 0, 0, 2147483648, 0, 0, 0, 0, 0, 1]
theorem name_step (c : Nat) (h1 : 32 ≤ c) (h2 : c < 127) (seen : Sre.Seen) : ∃ seen', Sre.inSet nameCode c 20 5 true seen = .ok (false, seen') := by
  refine ⟨((seen.add 22).add 16).add 0, ?_⟩
  have a : (decide (0 ≤ c) && decide (c ≤ 31)) = false := by simp; omega
  have b : (c == 127) = false := by simp; omega
  show (if (decide (0 ≤ c) && decide (c ≤ 31)) = true then _ else _) = _
  rw [if_neg (by rw [a]; decide)]
  show (if (c == 127) = true then _ else _) = _
  rw [if_neg (by rw [b]; decide)]
  rfl
theorem value_step (c : Nat) (h1 : 32 ≤ c) (h2 : c < 127) (seen : Sre.Seen) : ∃ seen', Sre.inSet valueCode c 28 5 true seen = .ok (false, seen') := by
  refine ⟨((seen.add 9).add 0), ?_⟩
  have a : ∀ c, c < 127 → 32 ≤ c → (decide (c < 256) && (valueCode.getD (5 + (1 + c / 32)) 0).testBit (c % 32)) = false := by decide +kernel
  show (if (decide (c < 256) && (valueCode.getD (5 + (1 + c / 32)) 0).testBit (c % 32)) = true then _ else _) = _
  rw [if_neg (by rw [a c h2 h1]; decide)]
  rfl
theorem noCtl_at {x : Str} (h : noCtl x) {i : Nat} (hi : i < x.cps.size) : 32 ≤ x.cps.getD i 0 ∧ x.cps.getD i 0 < 127 := by
  have e : x.cps.getD i 0 = x.cps[i] := by simp [Array.getD, hi]
  rw [e]
  exact h _ (by simp)
theorem name_none {x : Str} (h : noCtl x) : NoneIn nameCode x.cps := fun i hi seen => name_step _ (noCtl_at h hi).1 (noCtl_at h hi).2 seen
theorem value_none {x : Str} (h : noCtl x) : NoneIn valueCode x.cps := fun i hi seen => value_step _ (noCtl_at h hi).1 (noCtl_at h hi).2 seen
theorem name_first (text : Array Nat) (g lim : Nat) : (sreFresh nameCode text g lim).hasFirstSet = true := by rfl
theorem value_first (text : Array Nat) (g lim : Nat) : (sreFresh valueCode text g lim).hasFirstSet = true := by rfl
end Mine
end
section
set_option maxRecDepth 100000
set_option linter.unusedVariables false
namespace Mine
open PySem PySem.Spec PySem.Calls PyProof.Rows PySem.W
section
variable {C : Cx} {n : Nat} {L : Led} {Q : AV → Led → Prop}
theorem bind1d {fd : FuncData} {a da : AV} {x z : Str} {dv : Value} (hd : ∀ g, VR g da dv) (h : ∀ S v, peek C.K S (bindArgs fd ⟨[v], []⟩) = some [(x, v), (z, dv)]) : BIND C fd [a] [] [(x, a), (z, da)] := fun g s vs kv X hv hk => by
  cases hk
  apply hv.eOne; intro v h1
  exact ⟨[v, dv], kp_binds X fun S => h S v, .cons h1 (.cons (hd g) .nil)⟩
theorem bind2d {fd : FuncData} {a b da : AV} {x y z : Str} {dv : Value} (hd : ∀ g, VR g da dv) (h : ∀ S v u, peek C.K S (bindArgs fd ⟨[v, u], []⟩) = some [(x, v), (y, u), (z, dv)]) : BIND C fd [a, b] [] [(x, a), (y, b), (z, da)] := fun g s vs kv X hv hk => by
  cases hk
  apply hv.eTwo; intro v u h1 h2
  exact ⟨[v, u, dv], kp_binds X fun S => h S v u, .cons h1 (.cons h2 (.cons (hd g) .nil))⟩
theorem bind4d {fd : FuncData} {a b c d da : AV} {x y z w q : Str} {dv : Value} (hd : ∀ g, VR g da dv) (h : ∀ S v u t r, peek C.K S (bindArgs fd ⟨[v, u, t, r], []⟩) = some [(x, v), (y, u), (z, t), (w, r), (q, dv)]) : BIND C fd [a, b, c, d] [] [(x, a), (y, b), (z, c), (w, d), (q, da)] := fun g s vs kv X hv hk => by
  cases hk
  apply hv.eFour; intro v u t r h1 h2 h3 h4
  exact ⟨[v, u, t, r, dv], kp_binds X fun S => h S v u t r, .cons h1 (.cons h2 (.cons h3 (.cons h4 (.cons (hd g) .nil))))⟩
theorem bind2k {fd : FuncData} {a b c : AV} {x y z k : Str} (h : ∀ v u t, bindArgs fd ⟨[v, u], [(k, t)]⟩ = pure [(x, v), (y, u), (z, t)]) : BIND C fd [a, b] [(k, c)] [(x, a), (y, b), (z, c)] := fun g s vs kv X hv hk => by
  apply hk.eOne; intro t h3
  apply hv.eTwo; intro v u h1 h2
  exact ⟨[v, u, t], .of_eq (h v u t), .cons h1 (.cons h2 (.cons h3 .nil))⟩
theorem bind2p {fd : FuncData} {a b : AV} {x y : Str} (h : ∀ S v u, peek C.K S (bindArgs fd ⟨[v, u], []⟩) = some [(x, v), (y, u)]) : BIND C fd [a, b] [] [(x, a), (y, b)] := fun g s vs kv X hv hk => by
  cases hk
  apply hv.eTwo; intro v u h1 h2
  exact ⟨[v, u], kp_binds X fun S => h S v u, .cons h1 (.cons h2 .nil)⟩
end
end Mine
end
section
set_option maxRecDepth 100000
set_option linter.unusedVariables false
namespace Mine
open PySem PySem.Spec PySem.Calls PyProof.Rows PySem.W
section
variable {C : Cx} {F : SF} {ρ : Vars} {L : Led} {n : Nat}
theorem asg_sub {o i : Expr} {pos : Pos} {c : AV} {Q : Vars → Led → Prop} (h : EV C F ρ L o fun a L1 => EV C F ρ L1 i fun k L2 => OP3U C F.n setItem a k c L2 fun L3 => Q ρ L3) : ASG C F ρ L (.Subscript o i pos) c Q := fun A env own g s v r0 hE Fo hv => by
  rw [PySem.assign_Subscript]
  refine wpAny_bind (wpAny_holding (onV (h A env own g s r0 hE Fo) (fun ov s1 g1 L1 k1 Fo1 a ha h1 => ?_)))
  refine wpAny_bind (wpAny_holding (onV (h1 A env own g1 s1 r0 hE Fo1) (fun iv s2 g2 L2 k2 Fo2 k hk h2 => wpAny_bind (wpAny_standAt ?_))))
  refine wpAny_bind (wpAny_holding (on5 (Fo2.liftE fun g₁ kk R => h2 A g₁ s2 ov iv v r0 R ((ha.mono k2).mono kk) (hk.mono kk) (((hv.mono k1).mono k2).mono kk)) (fun zz s3 g3 L3 k3 Fo3 h3 => ?_)))
  exact wpAny_release ⟨g3, ρ, L3, (k1.trans k2).trans k3, Fo3, h3⟩
theorem set_list_all {d : Addr} {xs ys : List AV} {L' : Led} {Q : Led → Prop} (hm : (d, .list xs) ∈ L) (hS : LSet d (.list ys) L L') (hz : xs.length + ys.length ≤ sizeLine) (h : Q L') : OP3U C n setItem (.obj d) (.slc .none .none) (.lst ys) L Q :=
  fun A g s v u x r R hv hu hx => by
    cases hv
    obtain ⟨vs, m, h1, h2⟩ := led_list R hm
    have hl := isL h1
    have hsz : vs.size = xs.length := by rw [h2.length]; simp
    cases hx with
    | @lst _ ws e o k e1 e2 e3 e4 =>
      have hwz : ws.size = ys.length := by rw [e4.length]; simp
      have hed : d ≠ e := fun q => by
        have := R.free d (List.mem_map_of_mem (f := (fun zz => zz.1)) (Cx.inAll hm))
        rw [q, e1] at this; cases this
      have e1s := R.sub _ _ e1
      have hTe : s.TypeIs (.ref e) "list" := ⟨_, e1s, e2⟩
      · apply hu.eRecd3; intro b v1 v2 v3 f1 q1 q2 q3
        obtain rfl := q1.isNone; obtain rfl := q2.isNone; obtain rfl := q3.isNone
        have hb := R.sub _ _ f1
        have hTs : s.TypeIs (.ref b) "slice" := ⟨_, hb, rfl⟩
        unfold setItem
        try with_reducible refine wpAny_holding ?_
        first | refine wpAny_bind (wpAny_pure ?_) | skip
        refine wpAny_bind (wpAny_sequenceKey hl.typeIs (by decide) ?_)
        refine wpAny_bind (wpAny_callSpecial?_slot (name := Str.ofString "__setitem__") hl.typeIs slot_list_setitem
          (wpAny_call_entry slot_list_setitem hl.typeIs entry_list_setitem ?_ (args_list_setitem _ _ _)))
        show wpAny _ _ (Builtin.List.listSubscript? (.ref b) >>= _) _ _ s
        refine wpAny_bind ?_
        unfold Builtin.List.listSubscript?
        refine wpAny_bind (wpAny_specialOf hTs slice_no_index ?_)
        simp only [Option.isNone_none, if_true]
        refine wpAny_pure ?_
        show wpAny _ _ (typeOf (.ref b) >>= _) _ _ s
        refine wpAny_bind (wpAny_typeOf hTs ?_)
        rw [if_neg (by decide)]
        rw [listSliceParts_eq]
        refine wpAny_bind (wpAny_bind (wpAny_field hb rfl (x := .none) rfl (wpAny_bind (wpAny_listPart .none ?_))))
        rw [if_neg (by decide)]
        refine wpAny_bind (wpAny_field hb rfl (x := .none) rfl (wpAny_bind (wpAny_listPart .none ?_)))
        refine wpAny_bind (wpAny_field hb rfl (x := .none) rfl (wpAny_bind (wpAny_listPart .none (wpAny_pure ?_))))
        rw [if_neg (show ¬ (Builtin.List.listSameRef (.ref d) (.ref e) = true) from by simp [Builtin.List.listSameRef]; exact hed)]
        refine wpAny_bind (m := Builtin.List.listAllItems (.ref e) _) ?_
        unfold Builtin.List.listAllItems
        refine wpAny_bind (wpAny_typeOf hTe ?_)
        rw [if_pos (by decide)]
        refine wpAny_listItems e1s e3 ?_
        refine wpAny_bind (wpAny_listItems h1 rfl ?_)
        refine wpAny_bind (wpAny_of_eq (sliceIndices_raw none none none vs.size (by simp)) ?_)
        show wpAny _ _ (if ((1 : Int) == 1) = true then _ else _) _ _ s
        rw [if_pos (by decide)]
        refine wpAny_bind (wpAny_rule ?_)
        have hbig : ¬ (Builtin.List.listTooLong (vs.size + ws.size) = true) := by unfold Builtin.List.listTooLong; simp; omega
        rw [if_neg hbig]
        have hst : (sliceBounds none none none vs.size).1.toNat = 0 := by simp [sliceBounds]
        have hsp : (max (sliceBounds none none none vs.size).1 (sliceBounds none none none vs.size).2.1).toNat = vs.size := by simp [sliceBounds]
        rw [hst, hsp]
        refine wpAny_bind (m := updateSeq d _) (wpAny_updateSeq h1 rfl ?_ (by rw [hsz]; omega) ?_)
        · refine wpAny_bind (wpAny_letGo ?_)
          have fin : P5 (RepL C) g (EK fun zz L' => Q L') () { s with heap := s.heap.update d (Obj.mapSeq fun xs => xs.extract 0 0 ++ ws ++ xs.extract vs.size xs.size) } := by
            have hob : ∃ q, Obj.mapSeq (fun xs => xs.extract 0 0 ++ ws ++ xs.extract vs.size xs.size) (listOf vs m) = listOf ws q := by
              have ee : vs.extract 0 0 ++ ws ++ vs.extract vs.size vs.size = ws := by simp
              refine ⟨if ws.size == vs.size then m else m + 1, ?_⟩
              show Obj.mapSeq _ (listOf vs m) = _
              unfold Obj.mapSeq
              dsimp only
              rw [ee]
            obtain ⟨q, hq⟩ := hob
            exact ⟨g, L', .refl g, R.set hS (Heap.SameBut.update ..) ⟨_, Heap.get?_update_self _ h1 rfl, ws, q, hq, e4⟩ s.toks, h⟩
          first
            | exact wpAny_bind (wpAny_pure (wpAny_pure ⟨.none, rfl, wpAny_pure fin⟩))
            | exact wpAny_pure ⟨.none, rfl, wpAny_pure fin⟩
        · simp; omega
end
end Mine
end
section
set_option maxRecDepth 100000
set_option linter.unusedVariables false
namespace Mine
open PySem PySem.Spec PySem.Calls PyProof.Rows PySem.W
theorem flat_take_le {α β : Type} (f : α → List β) (xs : List α) (i : Nat) : ((xs.take i).flatMap f).length ≤ (xs.flatMap f).length := by
  conv => rhs; rw [← List.take_append_drop i xs]
  rw [List.flatMap_append, List.length_append]; omega
section
variable {C : Cx} {F : SF} {ρ : Vars} {L : Led} {n : Nat}
theorem LOOPC.plainFrom {Post : AO → Led → Prop} {ρ1 : Vars} {F1 : SF} {L1 : Led} {elt tg : Expr} {ifs : List Expr} {a : AV} (ys xs : List AV) (f : AV → List AV) {H : Led → Prop} (hI : ∀ P, ITERABLE (C.pn P) F1.n tg a L1 xs H) (hH : H L1) (hz : ys.length + (xs.flatMap f).length ≤ 1000000)
    (turn : ∀ x P, x ∈ xs → ASG (C.pn P) F1 ρ1 L1 tg x fun ρ' L' => SubV ρ1 ρ' ∧ TESTS (C.pn P) F1 ρ' L' ifs fun b L2 => if b = true then ∀ P, EV (C.pn P) F1 ρ' L2 elt fun y L3 => f x = [y] ∧ L3 = L1 else (f x = [] ∧ L2 = L1))
    (done : Post (.list (ys ++ xs.flatMap f)) L1) : LOOPC C F1 (fun env D => listEmit elt (.ref D) env) tg ifs ρ1 L1 a (.list ys) Post := by
  refine LOOPC.inv xs (fun i ao L => i ≤ xs.length ∧ ao = .list (ys ++ (xs.take i).flatMap f) ∧ L = L1) hI ⟨Nat.zero_le _, by simp, rfl⟩ (fun i ao L h => by obtain ⟨_, _, rfl⟩ := h; exact hH) ?_ ?_
  · rintro i x ao L P hx ⟨hi, rfl, rfl⟩
    have hlt : i < xs.length := (List.getElem?_eq_some_iff.mp hx).1
    have hmem : x ∈ xs := List.mem_of_getElem? hx
    have e1 : (xs.take (i + 1)).flatMap f = (xs.take i).flatMap f ++ f x := by rw [List.take_add_one, hx]; simp
    intro A env own g s v r0 hE Fo hv
    refine on6 (turn x P hmem A env own g s v r0 hE Fo hv) (fun zz s' g' ρ' L' k Fo' hh => ⟨g', ρ', L', k, Fo', hh.1, ?_⟩)
    have h2 := hh.2
    have conv : ∀ b L2, (if b = true then ∀ P, EV (C.pn P) F1 ρ' L2 elt fun y L3 => f x = [y] ∧ L3 = L else (f x = [] ∧ L2 = L)) →
        (if b = true then EMIT C F1 (fun env D => listEmit elt (.ref D) env) ρ' L2 (.list (ys ++ (xs.take i).flatMap f)) (fun ao L3 => i + 1 ≤ xs.length ∧ ao = .list (ys ++ (xs.take (i + 1)).flatMap f) ∧ L3 = L)
          else i + 1 ≤ xs.length ∧ AO.list (ys ++ (xs.take i).flatMap f) = .list (ys ++ (xs.take (i + 1)).flatMap f) ∧ L2 = L) := by
      intro b L2 h
      cases b with
      | true =>
        simp only [if_true] at h ⊢
        refine emit_list (by have := flat_take_le f xs i; rw [List.length_append, sizeLine_eq]; omega) fun P => (h P).mono fun y L3 ⟨q1, q2⟩ => ⟨hlt, by rw [e1, q1, List.append_assoc], q2⟩
      | false =>
        simp only [Bool.false_eq_true, if_false] at h ⊢
        exact ⟨hlt, by rw [e1, h.1, List.append_nil], h.2⟩
    unfold TESTS at h2 ⊢
    split at h2
    · exact conv true L' h2
    · intro A env own g s r0 hE Fo
      exact on5 (h2 A env own g s r0 hE Fo) (fun b s' g' L3 k Fo' h3 => ⟨g', L3, k, Fo', conv b L3 h3⟩)
    · exact h2
  · rintro ao L ⟨_, rfl, rfl⟩
    rw [List.take_length]; exact done
theorem LOOPC.nest {Post : AO → Led → Prop} {ρ1 : Vars} {F1 : SF} {L1 : Led} {elt tg t2 iter2 t0 iter0 : Expr} {ifs0 ifs2 : List Expr} {scope : Scope} {pos : Pos} {a : AV} (xs : List AV) (f : AV → List AV) {H : Led → Prop} (hI : ∀ P, ITERABLE (C.pn P) F1.n tg a L1 xs H) (hH : H L1)
    (hfs : ∀ env x, foldedSetIterable iter2 env x = pure x) (hz : (xs.flatMap f).length ≤ 100000)
    (turn : ∀ x P, x ∈ xs → ASG (C.pn P) F1 ρ1 L1 tg x fun ρ' L' => SubV ρ1 ρ' ∧ ∀ ys P', ys.length + (f x).length ≤ 100000 → EV (C.pn P') F1 ρ' L' iter2 fun a L2 => LOOPC C F1 (fun env D => listEmit elt (.ref D) env) t2 ifs2 ρ' L2 a (.list ys) fun ao L3 => ao = .list (ys ++ f x) ∧ L3 = L1)
    (done : Post (.list (xs.flatMap f)) L1) : LOOPC C F1 (nestMid (.ListComp elt [⟨t0, iter0, ifs0, 0⟩, ⟨t2, iter2, ifs2, 0⟩] scope pos) iter2) tg [] ρ1 L1 a (.list []) Post := by
  refine LOOPC.inv xs (fun i ao L => ao = .list ((xs.take i).flatMap f) ∧ L = L1) hI ⟨by simp, rfl⟩ (fun i ao L h => by obtain ⟨_, rfl⟩ := h; exact hH) ?_ ?_
  · rintro i x ao L P hx ⟨rfl, rfl⟩
    have hmem : x ∈ xs := List.mem_of_getElem? hx
    have e1 : (xs.take (i + 1)).flatMap f = (xs.take i).flatMap f ++ f x := by rw [List.take_add_one, hx]; simp
    intro A env own g s v r0 hE Fo hv
    refine on6 (turn x P hmem A env own g s v r0 hE Fo hv) (fun zz s' g' ρ' L' k Fo' hh => ⟨g', ρ', L', k, Fo', hh.1, ?_⟩)
    have h2 := hh.2
    refine tests_none ?_
    have hb := flat_take_le f xs (i + 1)
    rw [e1, List.length_append] at hb
    refine emit_nest hfs fun P' => (h2 ((xs.take i).flatMap f) P' (by omega)).mono fun a L2 hl => ?_
    obtain ⟨zs, H2, I2, q1, q2, q3, q4, q5⟩ := hl
    exact ⟨zs, H2, I2, q1, q2, q3, q4, fun ao L h => by obtain ⟨rfl, rfl⟩ := q5 ao L h; exact ⟨by rw [e1], rfl⟩⟩
  · rintro ao L ⟨rfl, rfl⟩
    rw [List.take_length]; exact done
end
end Mine
end
section
set_option maxRecDepth 100000
set_option linter.unusedVariables false
namespace Mine
open PySem PySem.Spec PySem.Calls PyProof.Rows PySem.W

noncomputable abbrev NXK (Q : Option AV → Led → Prop) : Heap → Option Value → Led → Prop := fun g r L => match r with
  | none => Q none L
  | some v => ∃ x, VR g x v ∧ Q (some x) L
theorem NXK.d {Q : Option AV → Led → Prop} : ∀ (g' g'' : Heap) (a : Option Value) (L' : Led), LeD g' g'' → NXK Q g' a L' → NXK Q g'' a L'
  | _, _, none, _, _, h => h
  | _, _, some _, _, k, ⟨x, h1, h2⟩ => ⟨x, h1.monoD k, h2⟩
noncomputable def NEXTA (C : Cx) (A : Around) (a : AV) (L : Led) (Q : Option AV → Led → Prop) : Prop :=
  ∀ g s v, RepL C g L s → VR g a v → OpL C A (pyNext v) g s (NXK Q)

section
variable {C : Cx} {F : SF} {ρ : Vars} {L : Led} {X : XQ}
structure LOOPN (C : Cx) (F : SF) (ρ : Vars) (L : Led) (target : Expr) (ia : Addr) (body orelse : List Stmt) (X : XQ) : Prop where
  ok : ∀ A, Room A F.n → ∃ (I : Nat → Vars → Led → Prop) (n : Nat), I n ρ L ∧ ∀ n ρ L, I n ρ L → NEXTA C A (.obj ia) L fun r L' => match r with
    | none => EX C F ρ L' orelse X
    | some x => (∃ k st, (ia, AO.gen k st) ∈ L') ∧ ASG C F ρ L' target x fun ρ' L'' => EX C F ρ' L'' body ⟨LessV I n, X.nx, LessV I n, X.rt⟩
theorem x_forN {target iter : Expr} {body orelse : List Stmt} {pos : Pos} (h : EV C F ρ L iter fun a L1 => ∃ ia k st, a = .obj ia ∧ (ia, AO.gen k st) ∈ L1 ∧ LOOPN C F ρ L1 target ia body orelse X)
    (hs : ∀ env x, foldedSetIterable iter env x = pure x) : EX1 C F ρ L (.For target iter body orelse pos) X := fun A env own g s r0 hE Fo => by
  rw [exec_For]
  refine wpAny_bind (wpAny_standAt (wpAny_bind (onV (h A env own g s r0 hE Fo) (fun v s1 g1 L1 k1 Fo1 a ha hz => ?_))))
  obtain ⟨ia, k, st, rfl, hm, ⟨ok⟩⟩ := hz
  cases ha
  rw [hs]
  refine wpAny_bind (wpAny_pure (wpAny_bind (wpAny_standAt ?_)))
  refine wpAny_bind (wpAny_holding ?_)
  obtain ⟨o, ho, hcl, nm, qn, hd, hsl⟩ := Fo1.rep.led _ (Cx.inAll hm)
  refine wpAny_pyIter_gen ⟨o, nm, qn, ho, hcl, hd, hsl⟩ ?_
  obtain ⟨I, n, h0, turn⟩ := ok A r0
  refine wpAny_runOwn (codeAny_mono (codeAny_for (R := OkX C env own g X) (fun n s' => AsPost C env own g1 (I n) s') (fun n s2 hz => ?_) n ⟨g1, ρ, L1, .refl _, Fo1, h0⟩) fun zz zz h => by obtain ⟨f, rfl, hf⟩ := h; exact hf)
  · obtain ⟨g2, ρ2, L2, k2, Fo2, hI2⟩ := hz
    refine on5 (Fo2.lift (K' := NXK _) (fun g₁ k R => turn n ρ2 L2 hI2 g₁ s2 (.ref ia) R (.obj ia)) NXK.d) (fun r s3 g3 L3 k3 Fo3 hr => ?_)
    cases r with
    | none =>
      have hr' : EX C F ρ2 L3 orelse X := hr
      exact wpAny_mono (hr' A env own g3 s3 r0 hE Fo3) (fun f s4 h4 => ⟨f, rfl, h4.trans ((k1.trans k2).trans k3)⟩) fun zz zz f => f
    | some v =>
      obtain ⟨x, hx, ⟨k, st, hm3⟩, hA⟩ := hr
      obtain ⟨o3, ho3, hcl3, _⟩ := Fo3.rep.led _ (Cx.inAll hm3)
      refine letGo_pure ho3 hcl3 (by decide) ?_
      have kk : Le g g3 := (k1.trans k2).trans k3
      refine on6 (hA A env own g3 s3 v r0 hE Fo3 hx) (fun zz s4 g4 ρ4 L4 k4 Fo4 hX => ?_)
      refine wpAny_mono (hX A env own g4 s4 r0 hE Fo4) (fun f s5 h5 => h5.turn (kk.trans k4) fun h5 => ?_) fun zz zz f => f
      obtain ⟨g5, ρ5, L5, k5, Fo5, m, hm, hI5⟩ := h5
      exact ⟨m, hm, g5, ρ5, L5, ((k2.trans k3).trans k4).trans k5, Fo5, hI5⟩
end

structure GFr (scope : Scope) (cdv : Value) (env : Env) (lo : Obj) (m : Str → Option Value) : Prop where
  scope : env.scope = scope
  globals : env.globals = mainGlobals
  builtins : env.builtins = builtinsNs
  code : env.code = cdv
  ns : ∀ h : Heap, h.get? env.locals = some lo → h.Ns env.locals m
noncomputable def AV.bare : AV → Option Value
  | .none => some .none
  | .obj a => some (.ref a)
  | .cst v => some v
  | _ => Option.none
theorem AV.bare_eq {g : Heap} {av : AV} {v u : Value} (h : VR g av v) (e : av.bare = some u) : v = u := by
  cases h <;> simp [AV.bare] at e <;> exact e
theorem lookup_nodup {x : Str} {v : Value} : ∀ {l : List (Str × Value)}, (l.map (fun zz => zz.1)).Nodup → (x, v) ∈ l → l.lookup x = some v
  | (y, u) :: r, hn, h => by
    have hn' := List.nodup_cons.mp hn
    rw [List.lookup_cons]
    rcases List.mem_cons.mp h with e | h
    · cases e; simp
    · have : (x == y) = false := by
        have : x ≠ y := fun e => hn'.1 (e ▸ List.mem_map_of_mem (f := (fun zz => zz.1)) h)
        simpa using this
      rw [this]
      exact lookup_nodup hn'.2 h
set_option tactic.hygienic true in
theorem zip_look {g : Heap} {x : Str} {av : AV} : ∀ {ρ : Vars} {us : List Value}, VRs g (ρ.map (fun zz => zz.2)) us → ρ.lookup x = some av → ∃ v, (x, v) ∈ (ρ.map (fun zz => zz.1)).zip us ∧ VR g av v
  | [], _, _, e => by simp at e
  | (y, w) :: r, us, h, e => by
    cases h with
    | cons h1 h2 =>
      rename_i v us
      rw [List.lookup_cons] at e
      by_cases hx : x = y
      · subst hx
        simp at e
        subst e
        exact ⟨v, by simp, h1⟩
      · have hb : (x == y) = false := by simpa using hx
        rw [hb] at e
        obtain ⟨u, m1, m2⟩ := zip_look h2 e
        exact ⟨u, List.mem_cons_of_mem _ m1, m2⟩
theorem RepL.newGen {C : Cx} {L : Led} {g : Heap} {s : Shared} (R : RepL C g L s) {o : Obj} {st : GenState} (hx : OR C g (.gen s.gens.size st) o) (hf : o.isFreed = false) (hb : st.bare = true) (t : Nat) :
    RepL C g ((s.heap.objs.size, .gen s.gens.size st) :: L) { s with gens := s.gens.push st, heap := s.heap.push o, toks := t } := by
  obtain ⟨b1, b2, b3⟩ := R.gens
  have low : ∀ p ∈ genEs (C.all L), p.1 < s.gens.size := fun p hp => (Array.getElem?_eq_some_iff.mp (b3 p hp)).1
  refine ⟨R.ok, R.base, fun b o' e => Heap.get?_push_of_some _ (R.sub b o' e), ?_, ?_, ?_, R.os, ?_, ?_, ?_⟩
  · exact List.nodup_cons.mpr ⟨R.freshL, R.nd⟩
  · intro a ha
    rcases List.mem_cons.mp ha with rfl | ha
    · exact R.fresh
    · exact R.free a ha
  · intro p hp
    rcases List.mem_cons.mp hp with rfl | hp
    · exact ⟨o, Heap.get?_push_size _ hf, hx⟩
    · obtain ⟨o', h1, h2⟩ := R.led p hp
      exact ⟨o', Heap.get?_push_of_some _ h1, h2⟩
  · intro x hx
    rcases Array.mem_push.mp hx with h | h
    · exact b1 x h
    · rw [h]; exact hb
  · show ((genEs ((s.heap.objs.size, AO.gen s.gens.size st) :: C.all L)).map (fun zz => zz.1)).Nodup
    refine List.nodup_cons.mpr ⟨fun hm => ?_, b2⟩
    obtain ⟨p, hp, e⟩ := List.mem_map.mp hm
    have := low p hp
    rw [e] at this
    exact Nat.lt_irrefl _ this
  · intro p hp
    rcases List.mem_cons.mp (show p ∈ (s.gens.size, st) :: genEs (C.all L) from hp) with rfl | hp
    · simp
    · have := low p hp
      show (s.gens.push st)[p.1]? = _
      rw [Array.getElem?_push_lt this]
      have := b3 p hp
      rwa [Array.getElem?_eq_getElem (low p hp)] at this
section
variable {C : Cx} {n : Nat} {L : Led} {Q : AV → Led → Prop}
theorem callc_gen {f : Addr} {name qual : Str} {params : Arguments} {body : List Stmt} {scope : Scope} {dV kV doc pm cdv ct oc : Value} {an od : Option Addr} {osl : Array (Option Value)} {xs : List AV} {ks : List (Str × AV)} {ρ : Vars} {ns : List Str}
    (hf : C.K.lookup f = some ⟨oc, od, .func (fnOf name qual params body scope dV kV doc pm an cdv ct), osl⟩) (hcd : codeIn C.K cdv qual = true)
    (hbind : BIND C (fnOf name qual params body scope dV kV doc pm an cdv ct) xs ks ρ) (hns : ρ.map (fun zz => zz.1) = ns) (hpar : parOk scope ns = true) (hn : n ≤ 190)
    (hcell : (scope.names.all fun p => p.2 != .cell) = true)
    (h : ∀ a k env lo m, GFr scope cdv env lo m → (∀ x av u, ρ.lookup x = some av → av.bare = some u → m x = some u) → Q (.obj a) ((a, .gen k (.fresh (.func body env))) :: (env.locals, .raw lo) :: L))
    (hco : scope.isCoroutine = false := by rfl) (hgen : scope.isGenerator = true := by rfl) (hk : scope.kind = .function := by rfl) : CALLC C n (.obj f) xs ks L Q := by
  have hnd : (ρ.map (fun zz => zz.1)).Nodup := by rw [hns]; exact parOk_nodup hpar
  have hnc : ∀ y ∈ scope.names, y.2 ≠ .cell := fun y hy => by
    have := List.all_eq_true.mp hcell y hy
    simpa using this
  have hkind : ∀ x ∈ ρ.map (fun zz => zz.1), scope.names.lookup x = some .local := by
    rw [hns]
    intro x hx
    rcases parOk_kind hpar x hx with h | h
    · exact h
    · exact absurd rfl (hnc _ (PySem.mem_of_lookup h))
  intro A g s vf vs kv r R hvf hvs hkv
  cases hvf
  obtain ⟨us, hb, hus⟩ := hbind g s vs kv R.Xs hvs hkv
  have ho := R.Xs _ _ hf
  have hlim : s.heap.NoLimit := R.ok.nolimit.keeps (R.base.trans R.sub)
  have hcr : s.heap.CodeRec cdv qual := codeRec_of R.Xs hcd
  have hlenu : ρ.length = us.length := by have := hus.length; simpa using this
  have hmem : ∀ y ∈ (ρ.map (fun zz => zz.1)).zip us, y.1 ∈ ρ.map (fun zz => zz.1) := fun y hy => (List.of_mem_zip hy).1
  refine codeAny_call_generator (fd := fnOf name qual params body scope dV kV doc pm an cdv ct) (body := body) (by have := r.depth; unfold recursionLimit; omega) ho rfl hco hgen rfl hcr (hb _ _ _ _ ?_)
  refine wpAny_newFunctionEnv (fun y hy => hnc y hy) (fun y hy => hkind y.1 (hmem y hy)) (fun h1 hn1 hs1 => ?_) hk
  have hsz : h1.objs.size = s.heap.objs.size + 1 := by rw [hs1.1, Heap.size_push]
  have keep : Le s.heap h1 := fun b o e => hs1.extBut b o (Nat.ne_of_lt (Heap.lt_size e)) (Heap.get?_push_of_some _ e)
  refine ⟨hlim.keeps keep, ?_⟩
  obtain ⟨lo, es, ep, hlo, hrest⟩ := id hn1
  have R1 : RepL C g ((s.heap.objs.size, .raw lo) :: L) { s with heap := h1, toks := s.toks + ((ρ.map (fun zz => zz.1)).zip us).length } := R.allocAt (x := .raw lo) keep hlo rfl _ rfl
  refine ⟨_, rfl, g, _, .refl _, R1.newGen (st := .fresh (.func body (newEnv scope s.heap.objs.size mainGlobals [] (qual ++ ".<locals>.") (some f) cdv none builtinsNs))) ?_ rfl rfl _, .obj h1.objs.size, .obj _, ?_⟩
  · exact ⟨rfl, _, _, rfl, rfl⟩
  refine h h1.objs.size s.gens.size _ lo _ ⟨rfl, rfl, rfl, rfl, fun h' e => ⟨lo, es, ep, e, hrest⟩⟩ fun x av u hx hu => ?_
  obtain ⟨v, hm, hv⟩ := zip_look hus hx
  rw [AV.bare_eq hv hu] at hm
  have hmap : (((ρ.map (fun zz => zz.1)).zip us).map (fun zz => zz.1)) = ρ.map (fun zz => zz.1) := by
    rw [List.map_fst_zip]; simp [hlenu]
  refine lookup_nodup ?_ (List.mem_reverse.mpr hm)
  rw [List.map_reverse, hmap]
  exact ((List.reverse_perm _).nodup_iff).mpr hnd
end
end Mine
end
section
set_option maxRecDepth 100000
set_option linter.unusedVariables false
namespace Mine
open PySem PySem.Spec PySem.Calls PyProof.Rows PySem.W

section
variable {M : Model} {A : Around} {R : GenEnd} {Y : Protocol} {n : Nat} {s₀ : Shared} {c : Code} {fs : List Frame} {s : Shared} {α β : Type} {K : β → Sem PySem.Fin} {H : Value → Sem PySem.Fin} {gd : Bool → Bool} {lv : List Value → List Value}
theorem seg_bindW {m : Sem α} {f : α → Sem β} (h : wpAny M (A.over c fs) m (fun a s' => Seg M A R Y n s₀ c ((f a).wrap K H gd lv) fs s') Never s) : Seg M A R Y n s₀ c ((m >>= f).wrap K H gd lv) fs s := by
  rw [Sem.bind_eq_wrap', Sem.wrap_wrap]
  exact seg_wrap (wpAny_mono h (fun zz zz x => x) fun zz zz f => f.elim)
theorem seg_wrapN {m : Sem β} (h : wpAny M (A.over c fs) m (fun a s' => Seg M A R Y n s₀ c (K a) fs s') Never s) : Seg M A R Y n s₀ c (m.wrap K H gd lv) fs s :=
  seg_wrap (wpAny_mono h (fun zz zz x => x) fun zz zz f => f.elim)
theorem seg_runOwn {c' : Code} {env : Env} {K : Flow → Sem PySem.Fin}
    (hc : ∀ (p : Pos) (k : Result → Sem PySem.Fin), (∀ f, k (.ok f) = K f) → Seg M A R Y n s₀ c' (M.den c') (.ret k none (gd false) (lv []) c p [] :: fs) s) : Seg M A R Y n s₀ c ((runOwn c' env).wrap K H gd lv) fs s :=
by
  unfold runOwn run
  show Seg M A R Y n s₀ c (Sem.call c' none (gd false) (lv []) _) fs s
  exact seg_call fun p => hc p _ fun f => rfl
theorem seg_runValue {c' : Code} {K : Value → Sem PySem.Fin}
    (hc : ∀ (p : Pos) (k : Result → Sem PySem.Fin), (∀ v, k (.ok (.ret v)) = K v) → Seg M A R Y n s₀ c' (M.den c') (.ret k none (gd false) (lv []) c p [] :: fs) s) : Seg M A R Y n s₀ c ((runValue c').wrap K H gd lv) fs s :=
by
  unfold runValue run
  show Seg M A R Y n s₀ c (Sem.call c' none (gd false) (lv []) _) fs s
  exact seg_call fun p => hc p _ fun f => rfl
end
section
variable {prog : Program} {w : World} {A : Around} {R : GenEnd} {Y : Protocol} {n : Nat} {s₀ : Shared} {fs : List Frame} {s : Shared}
theorem seg_forLoop {target : Expr} {it : Value} {body orelse : List Stmt} {env : Env}
    (h : wpAny (model prog w) (A.over (.forLoop target it body orelse env) fs) (pyNext it) (fun r s' => match r with
      | none => Seg (model prog w) A R Y n s₀ (.forLoop target it body orelse env) (.pure (.again (.block orelse env))) fs s'
      | some v => wpAny (model prog w) (A.over (.forLoop target it body orelse env) fs) (letOwnedTupleGo target it v) (fun zz s1 => wpAny (model prog w) (A.over (.forLoop target it body orelse env) fs) (assign target env v) (fun zz s2 =>
          ∀ H, Seg (model prog w) A R Y n s₀ (.forLoop target it body orelse env) ((execs body env).wrap (fun f => match f with
            | .next | .cont => .pure (.again (.forLoop target it body orelse env))
            | .brk => .pure (.done .next)
            | .ret v => .pure (.done (.ret v))) H id id) fs s2) Never s1) Never s') Never s) :
    Seg (model prog w) A R Y n s₀ (.forLoop target it body orelse env) ((model prog w).den (.forLoop target it body orelse env)) fs s := by
  show Seg _ A R Y n s₀ _ ((forTurn target it body orelse env).onRaise (fun x => do noteFrame x env; theTreesLotGoes x)) fs s
  unfold forTurn
  rw [Sem.onRaise_eq_wrap]
  refine seg_bindW (wpAny_standAt ?_)
  refine seg_bindW (wpAny_onRaise (wpAny_mono h (fun r s1 h1 => ?_) fun zz zz f => f.elim))
  cases r with
  | none => exact h1
  | some v =>
    refine seg_bindW (wpAny_mono h1 (fun zz s2 h2 => ?_) fun zz zz f => f)
    refine seg_bindW (wpAny_mono h2 (fun zz s3 h3 => ?_) fun zz zz f => f)
    rw [Sem.bind_eq_wrap', Sem.wrap_wrap]
    rw [Sem.wrap_congr (execs body env) _ _ (K' := fun f => match f with
            | .next | .cont => .pure (.again (.forLoop target it body orelse env))
            | .brk => .pure (.done .next)
            | .ret v => .pure (.done (.ret v))) (H' := _) (fun f => by cases f <;> rfl) (fun e => rfl)]
    exact h3 _
theorem seg_block {env : Env} (h : Seg (model prog w) A R Y n s₀ (.block [] env) (.pure (.done .next)) fs s) : Seg (model prog w) A R Y n s₀ (.block [] env) ((model prog w).den (.block [] env)) fs s := h
end
end Mine
end
section
set_option maxRecDepth 100000
set_option linter.unusedVariables false
namespace Mine
open PySem PySem.Spec PySem.Calls PyProof.Rows PySem.W

theorem entry_yield_from : entryFor table "proto.yield_from" = some Builtin.«proto.yield_from» := entryFor_of_tree (by kernel_rfl)
theorem lookup_listiter_close : typeLookup (.type "list_iterator") "close" = pure none := by rw [typeLookup_type, builtinLookup_eq_fast]; kernel_rfl

section
variable {prog : Program} {w : World} {A : Around} {R : GenEnd} {Y : Protocol} {n : Nat} {s₀ : Shared} {fs : List Frame} {s : Shared}
theorem seg_bindN {M : Model} {c : Code} {α : Type} {m : Sem α} {K : α → Sem PySem.Fin} (h : wpAny M (A.over c fs) m (fun a s' => Seg M A R Y n s₀ c (K a) fs s') Never s) : Seg M A R Y n s₀ c (m >>= K) fs s :=
  seg_bind (wpAny_mono h (fun zz zz x => x) fun zz zz f => f.elim)
theorem seg_builtin {id : String} {args : Args} {b : Builtin} (hb : entryFor table id = some b) (h : Seg (model prog w) A R Y n s₀ (.builtin id args) (b args) fs s) : Seg (model prog w) A R Y n s₀ (.builtin id args) ((model prog w).den (.builtin id args)) fs s := by
  show Seg _ A R Y n s₀ _ (match entryFor table id with | some b => b args | none => unsupported ((withoutEnding? id "#data").getD id)) fs s
  rw [hb]; exact h

theorem wpAny_sleptOver {M : Model} {E : Value → Shared → Prop} {it l : Addr} {i : Nat} {b : Bool} {Q : Unit → Shared → Prop} (hit : s.heap.IsListIter it l i) (h : Q () s) : wpAny M A (Builtin.Generator.sleptOver (.ref it) b) Q E s := by
  obtain ⟨o, ho, hc, hd⟩ := hit
  unfold Builtin.Generator.sleptOver
  dsimp only
  refine wpAny_bind (wpAny_load ho ?_)
  rw [if_pos (by rw [hc]; decide)]
  exact wpAny_pure h
theorem seg_yf_item {it l : Addr} {items : Array Value} {v : Value} (hl : s.heap.IsList l items) (hit : s.heap.IsListIter it l 0) (hx : items[0]? = some v) (hfs : splitAtGen fs = none) (hfg : fs.any Frame.guarded = false)
    (h : ∀ h', h'.IsListIter it l 1 → Heap.SameBut it s.heap h' → ∀ kap : Resume → Shared → Prop, (∀ s'', s''.heap.IsListIter it l 1 →
        Seg (model prog w) A R Y n s'' (.builtin "proto.yield_from" ⟨[.ref it, .bool false, .none], []⟩) (.pure (.again (.builtin "proto.yield_from" ⟨[.ref it, .bool false, .none], []⟩))) fs s'' → kap (.send .none) s'') → Y n s₀ v { s with heap := h' } kap) :
    Seg (model prog w) A R Y (n + 1) s₀ (.builtin "proto.yield_from" ⟨[.ref it, .bool false, .none], []⟩) ((model prog w).den (.builtin "proto.yield_from" ⟨[.ref it, .bool false, .none], []⟩)) fs s := by
  refine seg_builtin entry_yield_from ?_
  unfold Builtin.«proto.yield_from»
  dsimp only
  refine seg_bindN (wpAny_pure ?_)
  obtain ⟨o, ho, hc, hd⟩ := id hit
  obtain ⟨ol, hol, _, nl, hdl⟩ := hl
  refine seg_bindN (wpAny_attempt (wpAny_holding ?_))
  simp only [Bool.false_eq_true, if_false]
  show wpAny _ _ (if (Value.none == Value.none) = true then _ else _) _ _ s
  rw [if_pos (show (Value.none == Value.none) = true from rfl)]
  refine wpAny_bind (wpAny_rule (wpAny_bind (wpAny_callSpecial?_slot (name := Str.ofString "__next__") hit.typeIs slot_listiter_next
    (wpAny_call_entry slot_listiter_next hit.typeIs entry_listiter_next ?_ (args_listiter_next _)))))
  show wpAny _ _ (field (.ref it) 0 >>= _) _ _ s
  refine wpAny_bind (wpAny_field ho hd (x := .ref l) rfl ?_)
  show wpAny _ _ (if (Value.ref l == Value.none) = true then _ else _) _ _ s
  rw [if_neg (show ¬ ((Value.ref l == Value.none) = true) from Bool.false_ne_true)]
  show wpAny _ _ (field (.ref it) 1 >>= _) _ _ s
  refine wpAny_bind (wpAny_field ho hd (x := .int (0 : Nat) 0) rfl ?_)
  show wpAny _ _ (seqItems? (.ref l) >>= _) _ _ s
  refine wpAny_bind (wpAny_seqItems hol hdl ?_)
  simp only [Int.toNat_natCast, hx]
  refine wpAny_bind (wpAny_setField ho hd (by simp) (wpAny_pure ⟨v, rfl, wpAny_pure ?_⟩))
  have hit' : (s.heap.update it (Obj.mapFields fun vs => vs.setIfInBounds 1 (rawInt (((0 : Nat) : Int) + 1)))).IsListIter it l 1 :=
    ⟨_, Heap.get?_update_self _ ho (Obj.isFreed_of_fields (Obj.data_mapFields hd _)), (Obj.cls_mapFields ..).trans hc, by rw [Obj.data_mapFields hd]; simp [rawInt]⟩
  have key := h _ hit' (Heap.SameBut.update ..)
  refine seg_bindN (wpAny_typeOf (T := "list_iterator") hit'.typeIs ?_)
  dsimp only
  refine seg_bindN (wpAny_of_eq lookup_listiter_close ?_)
  refine seg_bindN (wpAny_pure ?_)
  refine seg_bindN (wpAny_sleptOver hit' ?_)
  show Seg _ A R Y (n + 1) s₀ _ (.yield v (!true) [] _) fs _
  refine seg_yield hfs rfl hfg (key _ fun s'' hs hseg => ?_)
  show Seg _ A R Y n s'' _ (Builtin.Generator.sleptOver (.ref it) false >>= _) fs s''
  refine seg_bindN (wpAny_sleptOver hs ?_)
  exact hseg
theorem seg_yf_end {it l : Addr} {items : Array Value} {k : Result → Sem PySem.Fin} {g : Bool} {lv : List Value} {c₁ : Code} {p : Pos} (hh : (A.over (.builtin "proto.yield_from" ⟨[.ref it, .bool false, .none], []⟩) (.ret k none g lv c₁ p [] :: fs)).handled = none)
    (hl : s.heap.IsList l items) (hit : s.heap.IsListIter it l 1) (hx : items[1]? = none)
    (h : ∀ h', Heap.ExtBut it s.heap h' → Seg (model prog w) A R Y n s₀ c₁ (k (.ok (.ret .none))) fs { s with heap := h' }) :
    Seg (model prog w) A R Y n s₀ (.builtin "proto.yield_from" ⟨[.ref it, .bool false, .none], []⟩) ((model prog w).den (.builtin "proto.yield_from" ⟨[.ref it, .bool false, .none], []⟩)) (.ret k none g lv c₁ p [] :: fs) s := by
  refine seg_builtin entry_yield_from ?_
  unfold Builtin.«proto.yield_from»
  dsimp only
  refine seg_bindN (wpAny_pure ?_)
  obtain ⟨o, ho, hc, hd⟩ := id hit
  obtain ⟨ol, hol, _, nl, hdl⟩ := hl
  refine seg_bindN (wpAny_attempt (wpAny_holding ?_))
  simp only [Bool.false_eq_true, if_false]
  show wpAny _ _ (if (Value.none == Value.none) = true then _ else _) _ _ s
  rw [if_pos (show (Value.none == Value.none) = true from rfl)]
  refine wpAny_bind (wpAny_rule (wpAny_bind (wpAny_callSpecial?_slot (name := Str.ofString "__next__") hit.typeIs slot_listiter_next
    (wpAny_call_entry slot_listiter_next hit.typeIs entry_listiter_next ?_ (args_listiter_next _)))))
  show wpAny _ _ (field (.ref it) 0 >>= _) _ _ s
  refine wpAny_bind (wpAny_field ho hd (x := .ref l) rfl ?_)
  show wpAny _ _ (if (Value.ref l == Value.none) = true then _ else _) _ _ s
  rw [if_neg (show ¬ ((Value.ref l == Value.none) = true) from Bool.false_ne_true)]
  show wpAny _ _ (field (.ref it) 1 >>= _) _ _ s
  refine wpAny_bind (wpAny_field ho hd (x := .int (1 : Nat) 0) rfl ?_)
  show wpAny _ _ (seqItems? (.ref l) >>= _) _ _ s
  refine wpAny_bind (wpAny_seqItems hol hdl ?_)
  simp only [Int.toNat_natCast, hx]
  refine wpAny_bind (wpAny_rule (wpAny_bind (wpAny_setField ho hd (by simp) ?_)))
  show wpAny _ _ (newExc (.type "StopIteration") [] >>= _) _ _ _
  refine wpAny_bind ?_
  simp only [newExc, newTuple]
  refine wpAny_bind (wpAny_newObj_type ?_ (by size_fits))
  refine wpAny_bind (m := firstArgMember _ _) (wpAny_of_eq (a := Value.none) (by first | rfl | (simp only [firstArgMember]; rfl)) ?_)
  refine wpAny_newObj_type ?_ (by size_fits)
  simp only [raiseNew]
  refine wpAny_bind (wpAny_handled ?_)
  have hh' : (A.over (.builtin "proto.yield_from" ⟨[.ref it, .bool false, .none], []⟩) (.ret k none g lv c₁ p [] :: fs)).in1.handled = none := hh
  rw [hh']
  refine wpAny_bind (wpAny_pure (wpAny_throw ?_))
  have hex := Heap.get?_push_size ((s.heap.update it (Obj.mapFields fun x => x.setIfInBounds 0 Value.none)).push { cls := Value.type "tuple", data := Data.seq #[] })
    (o := { cls := Value.type "StopIteration", data := Data.fields (#[Value.ref (s.heap.update it (Obj.mapFields fun x => x.setIfInBounds 0 Value.none)).objs.size, Value.none, Value.none, Value.none, Value.bool false, Value.none] ++ ownMembersOf (Value.type "StopIteration") []) }) rfl
  refine seg_bindN ?_
  unfold Builtin.Generator.endsTheTurnAsAValue Builtin.Generator.isStopAndMetaclass
  refine wpAny_bind (wpAny_bind (wpAny_typeOf (T := "StopIteration") ⟨_, hex, rfl⟩ ?_))
  dsimp only
  refine wpAny_bind (wpAny_of_eq isSubtype_stop ?_)
  refine wpAny_bind (wpAny_of_eq (a := Value.type "type") rfl ?_)
  refine wpAny_pure ?_
  simp only [Bool.false_eq_true, if_false]
  refine wpAny_pure ?_
  rw [if_pos rfl]
  refine seg_bindN (wpAny_rule ?_)
  refine seg_bindN (wpAny_field hex rfl (x := .none) (by rw [Array.getElem?_append_left (by simp)]; rfl) ?_)
  refine seg_leaf (.ok (.ret .none)) (h _ ?_)
  exact (((Heap.SameBut.update ..).extBut.push _).push _)
end
end Mine
end
section
set_option maxRecDepth 100000
set_option linter.unusedVariables false
namespace Mine
open PySem PySem.Spec PySem.Calls PyProof.Rows PySem.W

noncomputable abbrev nsN : Str := Str.ofString "namespaces"
noncomputable abbrev revN : Str := Str.ofString "_reversed"
noncomputable abbrev stN : Str := Str.ofString "ns_stack"
noncomputable abbrev gTurn (p5 p6 p7 p8 p9 : Pos) : List Stmt := [.If (.Name nsN p5) [.Expr (.YieldFrom (.Name nsN p6) p7) p8] [] p9]
noncomputable abbrev gBody (p1 p2 p3 p4 p5 p6 p7 p8 p9 p10 : Pos) : List Stmt := [.For (.Name nsN p1) (.Call (.Name revN p2) [.Name stN p3] [] p4) (gTurn p5 p6 p7 p8 p9) [] p10]
structure GScope (sc : Scope) : Prop where
  kind : sc.kind = .function
  co : sc.isCoroutine = false
  ns : sc.names.lookup nsN = some .local
  rev : sc.names.lookup revN = some .local
  st : sc.names.lookup stN = some .local

section
variable {prog : Program} {w : World} {A : Around} {R : GenEnd} {Y : Protocol} {n : Nat} {s₀ : Shared} {fs : List Frame} {s : Shared} {E : Value → Shared → Prop}
variable {env : Env} {p1 p2 p3 p4 p5 p6 p7 p8 p9 p10 : Pos}
theorem GScope.at {sc : Scope} (S : GScope sc) (he : env.scope = sc) : env.scope.kind = .function ∧ env.scope.isCoroutine = false ∧ env.kindOf nsN = some .local ∧ env.kindOf revN = some .local ∧ env.kindOf stN = some .local := by
  subst he
  exact ⟨S.kind, S.co, S.ns, S.rev, S.st⟩
theorem seg_g_end {rit stk : Addr} {k : Result → Sem PySem.Fin} {g : Bool} {lv : List Value} {c₁ : Code} {p : Pos} (hh : (A.over (.forLoop (.Name nsN p1) (.ref rit) (gTurn p5 p6 p7 p8 p9) [] env) (.ret k none g lv c₁ p [] :: fs)).handled = none)
    (hit : s.heap.IsRevIter rit stk (-1))
    (h : ∀ h', Heap.ExtBut rit s.heap h' → Seg (model prog w) A R Y n s₀ c₁ (k (.ok .next)) fs { s with heap := h' }) :
    Seg (model prog w) A R Y n s₀ (.forLoop (.Name nsN p1) (.ref rit) (gTurn p5 p6 p7 p8 p9) [] env) ((model prog w).den (.forLoop (.Name nsN p1) (.ref rit) (gTurn p5 p6 p7 p8 p9) [] env)) (.ret k none g lv c₁ p [] :: fs) s := by
  refine seg_forLoop (wpAny_pyNext_rev_end hh hit fun h' hs => ?_)
  exact seg_again rfl (seg_block (seg_leaf (.ok .next) (h h' hs)))
theorem letGo_revIter {target : Expr} {it l : Addr} {i : Int} {v : Value} {Q : Unit → Shared → Prop} (hit : s.heap.IsRevIter it l i) (h : Q () s) : wpAny (model prog w) A (letOwnedTupleGo target (.ref it) v) Q Never s := by
  obtain ⟨o, ho, hc, hd⟩ := hit
  exact letGo_pure (C := ⟨prog, w, s.heap, [], s.os, fun zz => none, fun zz => none, []⟩) ho hc (by decide) h

theorem seg_g_head {rit stk b : Addr} {items xs : Array Value} {i : Nat} {m : Str → Option Value} {sc : Scope} (S : GScope sc) (he : env.scope = sc)
    (hit : s.heap.IsRevIter rit stk (i : Int)) (hstk : s.heap.IsList stk items) (hx : items[i]? = some (.ref b)) (hb : s.heap.IsList b xs) (hz : xs.size ≤ 1000) (hn : s.heap.Ns env.locals m)
    (n1 : env.locals ≠ rit) (n2 : b ≠ rit) (n3 : b ≠ env.locals)
    (h : ∀ h' tk m', h'.IsRevIter rit stk ((i : Int) - 1) → h'.Ns env.locals m' → m' nsN = some (.ref b) → (∀ b o, b ≠ rit → b ≠ env.locals → s.heap.get? b = some o → h'.get? b = some o) → h'.objs.size = s.heap.objs.size → ∀ H,
      Seg (model prog w) A R Y n s₀ (.forLoop (.Name nsN p1) (.ref rit) (gTurn p5 p6 p7 p8 p9) [] env) ((if (!xs.isEmpty) = true then execs [.Expr (.YieldFrom (.Name nsN p6) p7) p8] env else execs [] env).wrap (fun f => match f with
        | .next => .pure (.again (.forLoop (.Name nsN p1) (.ref rit) (gTurn p5 p6 p7 p8 p9) [] env))
        | .cont => .pure (.again (.forLoop (.Name nsN p1) (.ref rit) (gTurn p5 p6 p7 p8 p9) [] env))
        | .brk => .pure (.done .next)
        | .ret v => .pure (.done (.ret v))) H id id) fs { s with heap := h', toks := tk }) :
    Seg (model prog w) A R Y n s₀ (.forLoop (.Name nsN p1) (.ref rit) (gTurn p5 p6 p7 p8 p9) [] env) ((model prog w).den (.forLoop (.Name nsN p1) (.ref rit) (gTurn p5 p6 p7 p8 p9) [] env)) fs s := by
  obtain ⟨e1, e2, e3, e4, e5⟩ := S.at he
  refine seg_forLoop (wpAny_pyNext_rev_item hit hstk hx fun h1 hit1 hs1 => ?_)
  refine letGo_revIter hit1 ?_
  refine wpAny_bind (wpAny_standAt (wpAny_bindName (wpAny_storeName_local e3 (hn.sameBut hs1 n1) (fun h2 hn2 hs2 => ?_) (by rw [e1]; rfl))))
  intro H
  have keep : ∀ b o, b ≠ rit → b ≠ env.locals → s.heap.get? b = some o → h2.get? b = some o := fun b o q1 q2 e => (hs2.2 b q2).trans ((hs1.2 b q1).trans e)
  obtain ⟨ob, hob, hcb, nb, hdb⟩ := id hb
  have hb2 : h2.IsList b xs := ⟨ob, keep _ _ n2 n3 hob, hcb, nb, hdb⟩
  have hit2 : h2.IsRevIter rit stk ((i : Int) - 1) := hit1.at fun o e => (hs2.2 rit n1.symm).trans e
  have hns : (fun x => if x = nsN then some (Value.ref b) else m x) nsN = some (.ref b) := by simp
  refine seg_execs_cons ?_
  show Seg _ A R Y n s₀ _ ((standAt p9 >>= fun zz => isTrue (.Name nsN p5) env (eval (.Name nsN p5) env) >>= fun b => if b = true then execs [.Expr (.YieldFrom (.Name nsN p6) p7) p8] env else execs [] env).wrap _ H id id) fs _
  refine seg_bindW (wpAny_standAt (seg_bindW ?_))
  show wpAny _ _ (eval (.Name nsN p5) env >>= fun v => standAt p5 >>= fun zz => holding [v] (truthy v)) _ _ _
  refine wpAny_bind (wpAny_Name (wpAny_loadName_local e1 e3 hn2 hns ?_))
  refine wpAny_bind (wpAny_standAt (wpAny_holding ?_))
  refine wpAny_truthy_list hb2 (by omega) ?_
  have key := h h2 (s.toks + 1 + 1 + 1) _ hit2 hn2 hns keep (by rw [hs2.1, hs1.1]) H
  rw [Sem.wrap_congr (if (!xs.isEmpty) = true then execs [.Expr (.YieldFrom (.Name nsN p6) p7) p8] env else execs [] env) _ _ (K' := fun f => match f with
        | .next => .pure (.again (.forLoop (.Name nsN p1) (.ref rit) (gTurn p5 p6 p7 p8 p9) [] env))
        | .cont => .pure (.again (.forLoop (.Name nsN p1) (.ref rit) (gTurn p5 p6 p7 p8 p9) [] env))
        | .brk => .pure (.done .next)
        | .ret v => .pure (.done (.ret v))) (H' := H) (fun f => by cases f <;> rfl) (fun e => rfl)]
  exact key
theorem seg_assocW {M : Model} {c : Code} {α β γ : Type} {m : Sem α} {f : α → Sem β} {g : β → Sem γ} {K : γ → Sem PySem.Fin} {H : Value → Sem PySem.Fin} {gd : Bool → Bool} {lv : List Value → List Value}
    (h : ∀ H', Seg M A R Y n s₀ c ((m >>= f).wrap (fun b => (g b).wrap K H gd lv) H' gd lv) fs s) : Seg M A R Y n s₀ c (((m >>= f) >>= g).wrap K H gd lv) fs s := by
  rw [Sem.bind_eq_wrap' (m >>= f) g, Sem.wrap_wrap]
  exact h _
theorem seg_g_yield {rit stk D0 : Addr} {items : Array Value} {tv : Value} {m : Str → Option Value} {sc : Scope} {kF : Result → Sem PySem.Fin} {g : Bool} {lv : List Value} {c₁ : Code} {pF : Pos} (S : GScope sc) (he : env.scope = sc) (hh : A.handled = none) (hg : g = false)
    (hit : s.heap.IsRevIter rit stk ((0 : Nat) : Int)) (hstk : s.heap.IsList stk items) (hx : items[0]? = some (.ref D0)) (hb : s.heap.IsList D0 #[tv]) (hn : s.heap.Ns env.locals m)
    (n1 : env.locals ≠ rit) (n2 : D0 ≠ rit) (n3 : D0 ≠ env.locals)
    (hY : ∀ h' tk, h'.IsRevIter rit stk (-1) → h'.IsListIter s.heap.objs.size D0 1 → (∀ b o, b ≠ rit → b ≠ env.locals → s.heap.get? b = some o → h'.get? b = some o) → ∀ kap : Resume → Shared → Prop,
      (∀ s'' xs, s''.heap.IsRevIter rit stk (-1) → s''.heap.IsListIter s.heap.objs.size D0 1 → s''.heap.IsList D0 xs → xs.size = 1 →
        (∀ h3, (∀ b o, b ≠ rit → b ≠ s.heap.objs.size → s''.heap.get? b = some o → h3.get? b = some o) → Seg (model prog w) A R Y 0 s'' c₁ (kF (.ok .next)) [] { s'' with heap := h3 }) → kap (.send .none) s'') → Y 0 s₀ tv { s with heap := h', toks := tk } kap) :
    Seg (model prog w) A R Y 1 s₀ (.forLoop (.Name nsN p1) (.ref rit) (gTurn p5 p6 p7 p8 p9) [] env) ((model prog w).den (.forLoop (.Name nsN p1) (.ref rit) (gTurn p5 p6 p7 p8 p9) [] env)) [.ret kF none g lv c₁ pF []] s := by
  subst hg
  obtain ⟨e1, e2, e3, e4, e5⟩ := S.at he
  refine seg_g_head S he hit hstk hx hb (by show 1 ≤ 1000; omega) hn n1 n2 n3 fun h1 tk1 m1 hit1 hn1 hm1 keep1 hsz1 H => ?_
  rw [if_pos (show (!(#[tv] : Array Value).isEmpty) = true from rfl)]
  refine seg_execs_cons ?_
  have hi : interactive env = false := by unfold interactive; rw [e1]; rfl
  rw [exec_Expr env _ p8 hi rfl]
  refine seg_bindW (wpAny_standAt ?_)
  show Seg _ A R Y 1 s₀ _ (((eval (.Name nsN p6) env >>= fun v => standAt p7 >>= fun zz => yieldFrom env v) >>= fun x => dropValue _ p8 x).wrap _ H id id) _ _
  refine seg_assocW fun H' => seg_bindW (wpAny_Name (wpAny_loadName_local e1 e3 hn1 hm1 ?_))
  refine seg_bindW (wpAny_standAt ?_)
  obtain ⟨ob, hob, hcb, nb, hdb⟩ := id hb
  have hb1 : h1.IsList D0 #[tv] := ⟨ob, keep1 _ _ n2 n3 hob, hcb, nb, hdb⟩
  unfold yieldFrom
  refine seg_bindW (wpAny_typeOf (T := "list") hb1.typeIs ?_)
  rw [if_neg (by decide)]
  refine seg_bindW (wpAny_holding (wpAny_pyIter_list hb1 ?_))
  rw [hsz1]
  refine seg_runValue fun p k hk => ?_
  have hit2 : (h1.push { cls := .type "list_iterator", data := .fields #[.ref D0, .int 0 0] }).IsListIter s.heap.objs.size D0 0 := ⟨_, by rw [← hsz1]; exact Heap.get?_push_size _ rfl, rfl, rfl⟩
  refine seg_yf_item (n := 0) (hb1.push _) hit2 rfl rfl rfl fun h3 hit3 hs3 kap hkap => ?_
  have hrl : rit ≠ s.heap.objs.size := by
    obtain ⟨o, ho, _⟩ := hit
    exact Nat.ne_of_lt (Heap.lt_size ho)
  have hit1' : h1.IsRevIter rit stk (-1) := hit1
  refine hY h3 _ (hit1'.at fun o e => (hs3.2 rit hrl).trans (Heap.get?_push_of_some _ e)) hit3 (fun b o q1 q2 e => (hs3.2 b (Nat.ne_of_lt (Heap.lt_size e))).trans (Heap.get?_push_of_some _ (keep1 b o q1 q2 e))) kap fun s'' xs f1 f2 f3 f4 hfin => ?_
  refine hkap s'' f2 (seg_again (Code.quiet_builtin _ (by decide +kernel)) ?_)
  refine seg_yf_end hh f3 f2 (by simp [f4]) fun h4 hs4 => ?_
  rw [hk]
  refine seg_wrapN ?_
  refine wpAny_dropValue (C := ⟨prog, w, s.heap, [], s.os, fun zz => none, fun zz => none, []⟩) ?_
  refine seg_execs_nil (seg_again rfl ?_)
  refine seg_g_end hh (f1.at fun o e => hs4 rit o hrl e) fun h5 hs5 => ?_
  refine hfin h5 fun b o q1 q2 e => hs5 b o q1 (hs4 b o q2 e)
end
end Mine
end
section
set_option maxRecDepth 100000
set_option linter.unusedVariables false
namespace Mine
open PySem PySem.Spec PySem.Calls PyProof.Rows PySem.W

section
variable {prog : Program} {w : World} {A : Around} {R : GenEnd} {Y : Protocol} {n : Nat} {s₀ : Shared} {fs : List Frame} {s : Shared} {E : Value → Shared → Prop}
variable {env : Env} {p1 p2 p3 p4 p5 p6 p7 p8 p9 p10 : Pos}
structure GStack (h : Heap) (loc stk D0 : Addr) (items : Array Value) (tv : Value) : Prop where
  isStk : h.IsList stk items
  zero : items[0]? = some (.ref D0)
  one : h.IsList D0 #[tv]
  rest : ∀ j, 1 ≤ j → j < items.size → ∃ b, items[j]? = some (.ref b) ∧ b ≠ loc ∧ h.IsList b #[]
  n1 : stk ≠ loc
  n2 : D0 ≠ loc
theorem IsList.to {h h' : Heap} {a : Addr} {xs : Array Value} (x : h.IsList a xs) (k : ∀ o, h.get? a = some o → h'.get? a = some o) : h'.IsList a xs := let ⟨o, ho, r⟩ := x; ⟨o, k _ ho, r⟩
noncomputable def GYield (prog : Program) (w : World) (A : Around) (R : GenEnd) (Y : Protocol) (s₀ : Shared) (h0 : Heap) (sB : Shared) (rit li stk D0 loc : Addr) (tv : Value) (c₁ : Code) (t : Sem PySem.Fin) : Prop :=
  ∀ h' tk, h'.IsRevIter rit stk (-1) → h'.IsListIter li D0 1 → (∀ b o, b ≠ rit → b ≠ loc → h0.get? b = some o → h'.get? b = some o) → ∀ kap : Resume → Shared → Prop,
      (∀ s'' xs, s''.heap.IsRevIter rit stk (-1) → s''.heap.IsListIter li D0 1 → s''.heap.IsList D0 xs → xs.size = 1 →
        (∀ h3, (∀ b o, b ≠ rit → b ≠ li → s''.heap.get? b = some o → h3.get? b = some o) → Seg (model prog w) A R Y 0 s'' c₁ t [] { s'' with heap := h3 }) → kap (.send .none) s'') → Y 0 s₀ tv { sB with heap := h', toks := tk } kap
theorem seg_g_loop {rit stk D0 : Addr} {items : Array Value} {tv : Value} {sc : Scope} {kF : Result → Sem PySem.Fin} {g : Bool} {lv : List Value} {c₁ : Code} {pF : Pos} {h0 : Heap} {N1 : Nat} {sB : Shared} (S : GScope sc) (he : env.scope = sc) (hh : A.handled = none) (hg : g = false)
    (G : GStack h0 env.locals stk D0 items tv) (n0 : env.locals ≠ rit) (hrit : h0.get? rit = none)
    (hY : GYield prog w A R Y s₀ h0 sB rit N1 stk D0 env.locals tv c₁ (kF (.ok .next))) :
    ∀ (i : Nat) (h : Heap) (tk : Nat) (m : Str → Option Value), i < items.size → h.IsRevIter rit stk (i : Int) → h.Ns env.locals m → (∀ b o, b ≠ rit → b ≠ env.locals → h0.get? b = some o → h.get? b = some o) → h.objs.size = N1 →
    Seg (model prog w) A R Y 1 s₀ (.forLoop (.Name nsN p1) (.ref rit) (gTurn p5 p6 p7 p8 p9) [] env) ((model prog w).den (.forLoop (.Name nsN p1) (.ref rit) (gTurn p5 p6 p7 p8 p9) [] env)) [.ret kF none g lv c₁ pF []] { sB with heap := h, toks := tk }
  | 0, h, tk, m, hi, hit, hn, keep, hsz => by
    have nr : ∀ {a : Addr} {xs : Array Value}, h0.IsList a xs → a ≠ rit := fun {a xs} x q => by obtain ⟨o, ho, _⟩ := x; rw [q, hrit] at ho; cases ho
    have up : ∀ {a : Addr} {xs : Array Value}, h0.IsList a xs → a ≠ env.locals → h.IsList a xs := fun x q => IsList.to x fun o e => keep _ _ (nr x) q e
    refine seg_g_yield (s := { sB with heap := h, toks := tk }) S he hh hg hit (up G.isStk G.n1) G.zero (up G.one G.n2) hn n0 (nr G.one) G.n2 fun h' tk' f1 f2 f3 kap hkap => ?_
    have f2' : h'.IsListIter N1 D0 1 := by rw [← hsz]; exact f2
    refine hY h' tk' f1 f2' (fun b o q1 q2 e => f3 b o q1 q2 (keep b o q1 q2 e)) kap fun s'' xs g1 g2 g3 g4 g5 => hkap s'' xs g1 (by show s''.heap.IsListIter h.objs.size D0 1; rw [hsz]; exact g2) g3 g4 fun h3 k3 => g5 h3 (by rw [← hsz]; exact k3)
  | i + 1, h, tk, m, hi, hit, hn, keep, hsz => by
    have nr : ∀ {a : Addr} {xs : Array Value}, h0.IsList a xs → a ≠ rit := fun {a xs} x q => by obtain ⟨o, ho, _⟩ := x; rw [q, hrit] at ho; cases ho
    have up : ∀ {a : Addr} {xs : Array Value}, h0.IsList a xs → a ≠ env.locals → h.IsList a xs := fun x q => IsList.to x fun o e => keep _ _ (nr x) q e
    obtain ⟨b, hb1, hb2, hb3⟩ := G.rest (i + 1) (by omega) hi
    refine seg_g_head (s := { sB with heap := h, toks := tk }) S he hit (up G.isStk G.n1) hb1 (up hb3 hb2) (by show 0 ≤ 1000; omega) hn n0 (nr hb3) hb2 fun h1 tk1 m1 hit1 hn1 hm1 keep1 hsz1 H => ?_
    rw [if_neg (by decide)]
    refine seg_execs_nil (seg_again rfl ?_)
    have hit2 : h1.IsRevIter rit stk (i : Int) := by
      have e : ((i + 1 : Nat) : Int) - 1 = (i : Int) := by omega
      rw [e] at hit1; exact hit1
    exact seg_g_loop S he hh hg G n0 hrit hY i h1 tk1 m1 (by omega) hit2 hn1 (fun b o q1 q2 e => keep1 b o q1 q2 (keep b o q1 q2 e)) (hsz1.trans hsz)

theorem seg_g_first {stk D0 : Addr} {items : Array Value} {tv : Value} {sc : Scope} {m : Str → Option Value} (S : GScope sc) (he : env.scope = sc) (hh : A.handled = none)
    (G : GStack s.heap env.locals stk D0 items tv) (hn : s.heap.Ns env.locals m) (hm1 : m revN = some (.type "reversed")) (hm2 : m stN = some (.ref stk)) (hz : 1 ≤ items.size)
    (hY : GYield prog w A R Y s₀ s.heap s s.heap.objs.size (s.heap.objs.size + 1) stk D0 env.locals tv (.func (gBody p1 p2 p3 p4 p5 p6 p7 p8 p9 p10) env) (.pure (.done (.ret .none)))) :
    Seg (model prog w) A R Y 1 s₀ (.func (gBody p1 p2 p3 p4 p5 p6 p7 p8 p9 p10) env) ((model prog w).den (.func (gBody p1 p2 p3 p4 p5 p6 p7 p8 p9 p10) env)) [] s := by
  obtain ⟨e1, e2, e3, e4, e5⟩ := S.at he
  refine seg_func (seg_execs_cons ?_)
  rw [exec_For]
  refine seg_bindW (wpAny_standAt (seg_bindW ?_))
  refine wpAny_Call_NameR (wpAny_Name (wpAny_loadName_local e1 e4 hn hm1 ?_))
  refine PySem.callWith_type rfl (Calls.evalArgs_plain (Calls.spliced_cons (wpAny_Name (wpAny_loadName_local e1 e5 hn hm2 (Calls.spliced_nil ?_)))))
  refine call_reversed_list G.isStk ?_
  refine seg_bindW (wpAny_pure (seg_bindW (wpAny_standAt (seg_bindW (wpAny_holding ?_)))))
  have hloc : env.locals < s.heap.objs.size := hn.lt
  have hrev : (s.heap.push (revObj stk ((items.size : Int) - 1))).IsRevIter s.heap.objs.size stk ((items.size - 1 : Nat) : Int) :=
    ⟨_, Heap.get?_push_size _ rfl, rfl, by show Data.fields #[.ref stk, rawInt ((items.size : Int) - 1)] = Data.fields #[.ref stk, rawInt ((items.size - 1 : Nat) : Int)]; rw [show ((items.size : Int) - 1) = ((items.size - 1 : Nat) : Int) by omega]⟩
  refine wpAny_pyIter_revIter hrev ?_
  refine seg_runOwn fun p k hk => ?_
  refine seg_g_loop (sB := s) (N1 := s.heap.objs.size + 1) (h0 := s.heap) S he hh rfl G (Nat.ne_of_lt hloc) ?_ ?_ (items.size - 1) _ _ m (by omega) hrev (hn.push _) (fun b o q1 q2 e => Heap.get?_push_of_some _ e) (by rw [Heap.size_push])
  · cases e : s.heap.get? s.heap.objs.size with
    | none => rfl
    | some o => exact absurd (Heap.lt_size e) (Nat.lt_irrefl _)
  · intro h' tk f1 f2 f3 kap hkap
    refine hY h' tk f1 f2 f3 kap fun s'' xs g1 g2 g3 g4 g5 => hkap s'' xs g1 g2 g3 g4 fun h3 k3 => ?_
    rw [hk]
    exact g5 h3 k3
end
end Mine
end
section
set_option maxRecDepth 100000
set_option linter.unusedVariables false
namespace Mine
open PySem PySem.Spec PySem.Calls PyProof.Rows PySem.W

section
variable {prog : Program} {w : World} {A : Around} {E : Value → Shared → Prop} {s : Shared}
theorem pyNext_gen {a : Addr} {g n : Nat} {gs : GenState} {P : Nat → Shared → Shared → Prop} {Y : Protocol} {Q : Option Value → Shared → Prop} (hh : A.handled = none)
    (hl : s.heap.NoLimit) (hroom : A.depth < recursionLimit) (hg : s.heap.IsGen a g) (hgs : s.gens[g]? = some gs)
    (hgo : gs.Goes (model prog w) A.in1 (fun n s₀ r s₁ => r = .ok (.ret .none) ∧ P n s₀ s₁) Y n (.send .none) (s.setGen g .running))
    (hY : ∀ v s₁ gs', gs'.bare = true → Y (n - 1) (s.setGen g .running) v s₁ (fun r' s'' => match n with
        | 0 => False
        | m + 1 => gs'.Goes (model prog w) A.in1 (fun n s₀ r s₁ => r = .ok (.ret .none) ∧ P n s₀ s₁) Y m r' s'') → Q (some v) (s₁.setGen g gs'))
    (hP : ∀ s₁, P n (s.setGen g .running) s₁ → ∀ h', (∀ b o, s₁.heap.get? b = some o → h'.get? b = some o) → Q none { s₁.setGen g .finished with heap := h' }) :
    wpAny (model prog w) A (pyNext (.ref a)) Q E s := by
  unfold pyNext
  refine wpAny_bind (wpAny_attempt (wpAny_callSpecial?_slot (name := Str.ofString "__next__") hg.typeIs slot_gen_next
    (wpAny_call_entry slot_gen_next hg.typeIs entry_gen_next ?_ (args_gen_next _))))
  show wpAny _ A.in1 (Builtin.Generator.genWake (.ref a) (.send .none)) _ _ s
  unfold Builtin.Generator.genWake
  refine wpAny_bind (wpAny_holding (wpAny_genNumber hg (wpAny_bind (wpAny_genState hgs ?_))))
  have go : ∀ gs' : GenState, gs' = gs → gs'.status ≠ .running → gs'.status ≠ .finished → True := fun zz zz zz zz => trivial
  have main : ∀ {α : Type} (kk : GenResult → Sem α) (Q' : α → Shared → Prop) (E' : Value → Shared → Prop), (∀ s₁, P n (s.setGen g .running) s₁ → wpAny (model prog w) A.in1 (kk (End.ret (.ok (.ret .none))).result) Q' E' (s₁.setGen g .finished)) →
      (∀ v s₁ gs', gs'.bare = true → Y (n - 1) (s.setGen g .running) v s₁ (fun r' s'' => match n with
        | 0 => False
        | m + 1 => gs'.Goes (model prog w) A.in1 (fun n s₀ r s₁ => r = .ok (.ret .none) ∧ P n s₀ s₁) Y m r' s'') → wpAny (model prog w) A.in1 (kk (.yielded v)) Q' E' (s₁.setGen g gs')) →
      wpAny (model prog w) A.in1 (.resume g (.send .none) [] kk) Q' E' s := fun kk Q' E' h1 h2 =>
    wpAny_resumeQ hgs hgo (fun x s₁ hx => by obtain ⟨rfl, hp⟩ := hx; exact h1 s₁ hp) (fun v s₁ gs' hb hv => h2 v s₁ gs' hb hv)
  cases gs with
  | running => exact hgo.elim
  | finished => exact hgo.elim
  | _ =>
    refine wpAny_bind (wpAny_roomToWake hl hroom ?_)
    show wpAny _ A.in1 (.resume g (.send .none) [] _) _ _ s
    refine main _ _ _ (fun s₁ hp => ?_) (fun v s₁ gs' hb hv => wpAny_pure ⟨v, rfl, wpAny_pure (hY v s₁ gs' hb hv)⟩)
    show wpAny _ A.in1 (newExc (.type "StopIteration") [] >>= _) _ _ _
    refine wpAny_bind ?_
    simp only [newExc, newTuple]
    refine wpAny_bind (wpAny_newObj_type ?_ (by size_fits))
    refine wpAny_bind (m := firstArgMember _ _) (wpAny_of_eq (a := Value.none) (by first | rfl | (simp only [firstArgMember]; rfl)) ?_)
    refine wpAny_newObj_type ?_ (by size_fits)
    simp only [raiseNew]
    refine wpAny_bind (wpAny_bind (wpAny_handled ?_))
    first | rw [show A.in1.handled = none from hh] | rw [hh]
    refine wpAny_throw ?_
    refine wpAny_bind (wpAny_isInstance (T := "StopIteration") (b := true) ⟨_, Heap.get?_push_size _ rfl, rfl⟩ isSubtype_stop ?_)
    exact wpAny_pure (hP s₁ hp _ fun b o hb => Heap.get?_push_of_some _ (Heap.get?_push_of_some _ hb))
end
theorem GensOk.only {L : Led} {a : Addr} {k : Nat} {gs gs' : GenState} {gens gens' : Array GenState} (h : GensOk ((a, .gen k gs) :: L) gens) (ho : GenOnly k gens gens') (hk : gens'[k]? = some gs') (hb : gs'.bare = true) :
    GensOk ((a, .gen k gs') :: L) gens' := by
  obtain ⟨b1, b2, b3⟩ := h
  have e1 : genEs ((a, AO.gen k gs) :: L) = (k, gs) :: genEs L := rfl
  have e2 : genEs ((a, AO.gen k gs') :: L) = (k, gs') :: genEs L := rfl
  rw [e1] at b2 b3
  refine ⟨fun y hy => ?_, by rw [e2]; exact b2, fun p hp => ?_⟩
  · obtain ⟨i, hi, rfl⟩ := Array.mem_iff_getElem.mp hy
    by_cases e : i = k
    · subst e
      rw [Array.getElem?_eq_getElem hi] at hk
      cases hk; exact hb
    · have h1 := ho.2 i e
      rw [Array.getElem?_eq_getElem hi] at h1
      obtain ⟨hi', e'⟩ := Array.getElem?_eq_some_iff.mp h1.symm
      exact e' ▸ b1 _ (Array.getElem_mem hi')
  · rw [e2] at hp
    rcases List.mem_cons.mp hp with rfl | hp
    · exact hk
    · have hne : p.1 ≠ k := fun q => (List.nodup_cons.mp b2).1 (by rw [← q]; exact List.mem_map_of_mem (f := (fun zz => zz.1)) hp)
      rw [ho.2 _ hne]
      exact b3 p (List.mem_cons_of_mem _ hp)
theorem VRs.rep_inv {g : Heap} {q : Nat} {vs : List Value} (h : VRs g (List.replicate q (.lst [])) vs) (j : Nat) (v : Value) (e : vs[j]? = some v) : ∃ b, v = .ref b ∧ g.IsList b #[] :=
  h.ind (P := fun xs vs => (∀ x ∈ xs, x = AV.lst []) → ∀ (j : Nat) (v : Value), vs[j]? = some v → ∃ b, v = .ref b ∧ g.IsList b #[]) (fun zz j v e => nomatch e) (fun x v xs vs h1 zz ih hx j u e => by
    cases j with
    | zero =>
      obtain rfl := hx x List.mem_cons_self
      obtain rfl : v = u := Option.some.inj e
      obtain ⟨a, o, ws, n, rfl, a1, a2, a3, a4⟩ := h1.isLst
      obtain rfl : ws = #[] := Array.toList_inj.mp a4.isNil
      exact ⟨a, rfl, o, a1, a2, n, a3⟩
    | succ j => exact ih (fun x hx' => hx x (List.mem_cons_of_mem _ hx')) j u e) (fun x hx => List.eq_of_mem_replicate hx) j v e
theorem RepL.genStep {C : Cx} {g : Heap} {s s' : Shared} {a el : Addr} {k : Nat} {st gs' : GenState} {lo oR oL : Obj} {L0 : Led} (R : RepL C g ((a, .gen k st) :: (el, .raw lo) :: L0) s) (hos : s'.os = s.os) (hg : s'.gens = ((s.setGen k .running).setGen k gs').gens)
    (hgs : s.gens[k]? = some st) (hb : gs'.bare = true) (hoR : s'.heap.get? s.heap.objs.size = some oR) (hoL : s'.heap.get? (s.heap.objs.size + 1) = some oL) (f3 : ∀ b o, b ≠ s.heap.objs.size → b ≠ el → s.heap.get? b = some o → s'.heap.get? b = some o) :
    RepL C g ((a, .gen k gs') :: (s.heap.objs.size, .raw oR) :: (s.heap.objs.size + 1, .raw oL) :: L0) s' := by
  obtain ⟨og, hog, hcg⟩ := R.led (a, .gen k _) List.mem_cons_self
  have nd := List.nodup_cons.mp R.nd
  have nd2 := List.nodup_cons.mp nd.2
  have gfresh : ∀ b, s.heap.objs.size ≤ b → g.get? b = none := fun b hb => by
    cases e : g.get? b with
    | none => rfl
    | some o => exact absurd (Heap.lt_size (R.sub _ _ e)) (Nat.not_lt.mpr hb)
  have nfresh : ∀ b, s.heap.objs.size ≤ b → b ∉ ads (C.all L0) := fun b hb hm => by
    obtain ⟨p, hp, rfl⟩ := List.mem_map.mp hm
    obtain ⟨o, ho, _⟩ := R.led p (List.mem_cons_of_mem _ (List.mem_cons_of_mem _ hp))
    exact absurd (Heap.lt_size ho) (Nat.not_lt.mpr hb)
  have hal : a < s.heap.objs.size := Heap.lt_size hog
  refine ⟨R.ok, R.base, fun b o e => f3 b o (fun q => ?_) (fun q => ?_) (R.sub b o e), List.nodup_cons.mpr ⟨fun hm => ?_, List.nodup_cons.mpr ⟨fun hm => ?_, List.nodup_cons.mpr ⟨nfresh _ (Nat.le_succ _), nd2.2⟩⟩⟩, fun b hb => ?_, fun p hp => ?_, hos.trans R.os,
    hg ▸ (GensOk.only (a := a) (L := C.all L0) (R.gens.sub (List.Sublist.refl _)) ((GenOnly.setGen s k .running).trans (GenOnly.setGen _ k gs')) (setGen_self (gs := .running) (setGen_self hgs)) hb).sub (List.Sublist.refl _)⟩
  · rw [q, gfresh _ (Nat.le_refl _)] at e; exact nomatch e
  · rw [q, R.free el (List.mem_cons_of_mem _ List.mem_cons_self)] at e; exact nomatch e
  · rcases List.mem_cons.mp hm with e | hm
    · exact absurd e (Nat.ne_of_lt hal)
    · exact (List.mem_cons.mp hm).elim (fun e => absurd e (Nat.ne_of_lt (Nat.lt_succ_of_lt hal))) fun hm => nd.1 (List.mem_cons_of_mem _ hm)
  · exact (List.mem_cons.mp hm).elim (fun e => absurd e (Nat.ne_of_lt (Nat.lt_succ_self _))) (nfresh _ (Nat.le_refl _))
  · rcases List.mem_cons.mp hb with rfl | hb
    · exact R.free _ List.mem_cons_self
    · rcases List.mem_cons.mp hb with rfl | hb
      · exact gfresh _ (Nat.le_refl _)
      · rcases List.mem_cons.mp hb with rfl | hb
        · exact gfresh _ (Nat.le_succ _)
        · exact R.free _ (List.mem_cons_of_mem _ (List.mem_cons_of_mem _ hb))
  · rcases List.mem_cons.mp hp with rfl | hp
    · exact ⟨og, f3 a og (Nat.ne_of_lt hal) (fun q => nd.1 (q ▸ List.mem_cons_self)) hog, hcg⟩
    · rcases List.mem_cons.mp hp with rfl | hp
      · exact ⟨oR, hoR, rfl⟩
      · rcases List.mem_cons.mp hp with rfl | hp
        · exact ⟨oL, hoL, rfl⟩
        · obtain ⟨o, e1, e2⟩ := R.led p (List.mem_cons_of_mem _ (List.mem_cons_of_mem _ hp))
          exact ⟨o, f3 _ o (Nat.ne_of_lt (Heap.lt_size e1)) (fun q => nd2.1 (q ▸ List.mem_map_of_mem (f := (fun zz => zz.1)) hp)) e1, e2⟩
theorem RepL.genEnd {C : Cx} {g : Heap} {s s' : Shared} {a b1 b2 : Addr} {k : Nat} {st : GenState} {oR oL : Obj} {L1 : Led} (R : RepL C g ((a, .gen k st) :: (b1, .raw oR) :: (b2, .raw oL) :: L1) s) (hos : s'.os = s.os)
    (hg : s'.gens = ((s.setGen k .running).setGen k .finished).gens) (hgs : s.gens[k]? = some st) (f : ∀ b o, b ≠ b1 → b ≠ b2 → s.heap.get? b = some o → s'.heap.get? b = some o) : RepL C g L1 s' := by
  have nd := List.nodup_cons.mp (List.nodup_cons.mp R.nd).2
  have nd2 := List.nodup_cons.mp nd.2
  refine ⟨R.ok, R.base, fun b o e => f b o (fun q => ?_) (fun q => ?_) (R.sub b o e), nd2.2, fun b hb => R.free b (List.mem_cons_of_mem _ (List.mem_cons_of_mem _ (List.mem_cons_of_mem _ hb))), fun p hp => ?_, hos.trans R.os,
    hg ▸ (GensOk.only (a := a) (L := C.all L1) (R.gens.sub (List.Sublist.refl _)) ((GenOnly.setGen s k .running).trans (GenOnly.setGen _ k .finished)) (setGen_self (gs := .running) (setGen_self hgs)) rfl).sub (genEs_cons_le _ _)⟩
  · rw [q, R.free b1 (List.mem_cons_of_mem _ List.mem_cons_self)] at e; exact nomatch e
  · rw [q, R.free b2 (List.mem_cons_of_mem _ (List.mem_cons_of_mem _ List.mem_cons_self))] at e; exact nomatch e
  · obtain ⟨o, e1, e2⟩ := R.led p (List.mem_cons_of_mem _ (List.mem_cons_of_mem _ (List.mem_cons_of_mem _ hp)))
    have m1 : p.1 ∈ ads (C.all L1) := List.mem_map_of_mem (f := (fun zz => zz.1)) hp
    exact ⟨o, f _ _ (fun q => nd.1 (q ▸ List.mem_cons_of_mem _ m1)) (fun q => nd2.1 (q ▸ m1)) e1, e2⟩
section
variable {C : Cx} {A : Around} {n : Nat}
structure GMid (rit li stk D0 : Addr) (oR oL : Obj) : Prop where
  r : ∀ h : Heap, h.get? rit = some oR → h.IsRevIter rit stk (-1)
  l : ∀ h : Heap, h.get? li = some oL → h.IsListIter li D0 1
theorem gen_next1 {scope : Scope} {cdv : Value} {env : Env} {lo : Obj} {m : Str → Option Value} {p1 p2 p3 p4 p5 p6 p7 p8 p9 p10 : Pos} {a stk D0 : Addr} {k q : Nat} {t : AV} {L0 : Led} (r : Room A n) (hn : n ≤ 190)
    (G : GFr scope cdv env lo m) (S : GScope scope) (hm1 : m revN = some (.type "reversed")) (hm2 : m stN = some (.ref stk)) (h1 : (stk, .list (.obj D0 :: List.replicate q (.lst []))) ∈ L0) (h2 : (D0, .list [t]) ∈ L0) :
    NEXTA C A (.obj a) ((a, .gen k (.fresh (.func (gBody p1 p2 p3 p4 p5 p6 p7 p8 p9 p10) env))) :: (env.locals, .raw lo) :: L0) fun r L' => ∃ rit li oR oL gs', r = some t ∧ GMid rit li stk D0 oR oL ∧
      L' = (a, .gen k gs') :: (rit, .raw oR) :: (li, .raw oL) :: L0 ∧
      ∀ L1, (D0, .list [t]) ∈ L1 → NEXTA C A (.obj a) ((a, .gen k gs') :: (rit, .raw oR) :: (li, .raw oL) :: L1) fun r L' => r = none ∧ L' = L1 := by
  intro g s v R hv
  cases hv
  have hh : A.handled = none := r.handled
  have hroom : A.depth < recursionLimit := by have := r.depth; unfold recursionLimit; omega
  obtain ⟨og, hog, hcg, nm, qn, hdg, hsg⟩ := R.led (a, .gen k _) List.mem_cons_self
  have hgs : s.gens[k]? = some (.fresh (.func (gBody p1 p2 p3 p4 p5 p6 p7 p8 p9 p10) env)) := R.gens.2.2 (k, _) List.mem_cons_self
  obtain ⟨lo', hlo, elo⟩ := R.led (env.locals, .raw lo) (List.mem_cons_of_mem _ List.mem_cons_self)
  have elo : lo' = lo := elo
  subst elo
  have hlim : s.heap.NoLimit := R.ok.nolimit.keeps (R.base.trans R.sub)
  obtain ⟨vs, nst, hstk, hvs⟩ := led_list R (List.mem_cons_of_mem _ (List.mem_cons_of_mem _ h1))
  obtain ⟨us, nD, hD, hus⟩ := led_list R (List.mem_cons_of_mem _ (List.mem_cons_of_mem _ h2))
  obtain ⟨tv, e2, ht⟩ : ∃ tv, us = #[tv] ∧ VR g t tv := by
    cases us with | mk l => cases hus with
      | cons x y => cases y; exact ⟨_, rfl, x⟩
  subst e2
  have nd := R.nd
  have hlocF : g.get? env.locals = none := R.free _ (List.mem_cons_of_mem _ List.mem_cons_self)
  have nd2 : (env.locals :: ads (C.all L0)).Nodup := (List.nodup_cons.mp nd).2
  have nloc : ∀ {b : Addr} {x : AO}, (b, x) ∈ L0 → b ≠ env.locals := fun {b x} hm q => (List.nodup_cons.mp nd2).1 (by rw [← q]; exact List.mem_map_of_mem (f := (fun zz => zz.1)) (Cx.inAll hm))
  obtain ⟨v0, vr, evs, hv0, hvr⟩ := hvs.cons_inv
  obtain rfl := hv0.isObj
  have GS : GStack s.heap env.locals stk D0 vs tv := by
    refine ⟨isL hstk, by rw [← Array.getElem?_toList, evs]; rfl, isL hD, fun j hj hjs => ?_, nloc h1, nloc h2⟩
    obtain ⟨j, rfl⟩ : ∃ i, j = i + 1 := ⟨j - 1, by omega⟩
    have hj2 : vs[j + 1]? = some vs[j + 1] := Array.getElem?_eq_getElem hjs
    have hj3 : vr[j]? = some vs[j + 1] := by rw [← Array.getElem?_toList, evs] at hj2; simpa using hj2
    obtain ⟨b, eb, o, ho, rest⟩ := hvr.rep_inv j _ hj3
    refine ⟨b, by rw [hj2, eb], fun q => ?_, o, R.sub _ _ ho, rest⟩
    rw [q, hlocF] at ho; cases ho
  let rit := s.heap.objs.size
  let li := s.heap.objs.size + 1
  let PP : Nat → Shared → Shared → Prop := fun n s₀ s₁ => n = 0 ∧ ∃ h', s₁ = { s₀ with heap := h' } ∧ ∀ b o, b ≠ rit → b ≠ li → s₀.heap.get? b = some o → h'.get? b = some o
  let YY : Protocol := fun m s₀ v s₁ kap => v = tv ∧ (∃ h' tk, s₁ = { s.setGen k .running with heap := h', toks := tk } ∧ h'.IsRevIter rit stk (-1) ∧ h'.IsListIter li D0 1 ∧ ∀ b o, b ≠ rit → b ≠ env.locals → s.heap.get? b = some o → h'.get? b = some o) ∧
    ∀ s'' xs, s''.heap.IsRevIter rit stk (-1) → s''.heap.IsListIter li D0 1 → s''.heap.IsList D0 xs → xs.size = 1 → kap (.send .none) s''
  have hDlt : D0 ≠ rit := Nat.ne_of_lt (Heap.lt_size hD)
  refine pyNext_gen (n := 1) (P := PP) (Y := YY) hh hlim hroom ⟨og, nm, qn, hog, hcg, hdg, hsg⟩ hgs ⟨rfl, ?_⟩ ?_ (fun s₁ hp => absurd hp.1 (by decide))
  · refine seg_g_first (s := s.setGen k .running) (A := A.in1) (m := m) S G.scope hh GS (G.ns s.heap hlo) hm1 hm2 ?_ ?_
    · have := congrArg List.length evs
      simp at this
      omega
    · intro h' tk f1 f2 f3 kap hkap
      refine ⟨rfl, ⟨h', tk, rfl, f1, f2, f3⟩, fun s'' xs g1 g2 g3 g4 => hkap s'' xs g1 g2 g3 g4 fun h3 k3 => ?_⟩
      exact seg_end (.ok (.ret .none)) ⟨rfl, rfl, h3, rfl, k3⟩
  · rintro v s₁ gs' hb ⟨rfl, ⟨h', tk, rfl, f1, f2, f3⟩, hk⟩
    obtain ⟨oR, hoR, cR, dR⟩ := id f1
    obtain ⟨oL, hoL, cL, dL⟩ := id f2
    have Rn : RepL C g ((a, .gen k gs') :: (rit, .raw oR) :: (li, .raw oL) :: L0) (Shared.setGen { s.setGen k .running with heap := h', toks := tk } k gs') := R.genStep rfl rfl hgs hb hoR hoL f3
    refine ⟨g, _, .refl g, Rn, t, ht, rit, li, oR, oL, gs', rfl, ⟨fun h e => ⟨oR, e, cR, dR⟩, fun h e => ⟨oL, e, cL, dL⟩⟩, rfl, ?_⟩
    intro L1 hm g2 s2 v2 R2 hv2
    cases hv2
    obtain ⟨og2, hog2, hcg2, nm2, qn2, hdg2, hsg2⟩ := R2.led (a, .gen k _) List.mem_cons_self
    have hgs2 : s2.gens[k]? = some gs' := R2.gens.2.2 (k, _) List.mem_cons_self
    obtain ⟨o1, h1', e1⟩ := R2.led (rit, .raw oR) (List.mem_cons_of_mem _ List.mem_cons_self)
    have e1 : o1 = oR := e1
    subst e1
    obtain ⟨o2, h2', e2⟩ := R2.led (li, .raw oL) (List.mem_cons_of_mem _ (List.mem_cons_of_mem _ List.mem_cons_self))
    have e2 : o2 = oL := e2
    subst e2
    obtain ⟨us2, nD2, hD2, hus2⟩ := led_list R2 (List.mem_cons_of_mem _ (List.mem_cons_of_mem _ (List.mem_cons_of_mem _ hm)))
    have hsz2 : us2.size = 1 := by have := hus2.length; simpa using this.symm
    have hlim2 : s2.heap.NoLimit := R2.ok.nolimit.keeps (R2.base.trans R2.sub)
    refine pyNext_gen (n := 0) (gs := gs') (P := PP) (Y := YY) hh hlim2 hroom ⟨og2, nm2, qn2, hog2, hcg2, hdg2, hsg2⟩ hgs2 (hk (s2.setGen k .running) us2 ⟨o1, h1', cR, dR⟩ ⟨o2, h2', cL, dL⟩ (isL hD2) hsz2) ?_ ?_
    · rintro v3 s₁ gs2 hb2 ⟨_, ⟨h4, tk4, rfl, q1, q2, q3⟩, hk4⟩
      exact (hk4 { s.setGen k .running with heap := h4, toks := tk4 } #[v] q1 q2 (IsList.to (isL hD) fun o e => q3 _ o hDlt (nloc h2) e) rfl).elim
    · rintro s₁ ⟨_, h4, rfl, k4⟩ h5 k5
      exact ⟨g2, L1, .refl g2, R2.genEnd rfl rfl hgs2 fun b o n1 n2 e => k5 b o (k4 b o n1 n2 e), rfl, rfl⟩
end
end Mine
end
section
set_option maxRecDepth 100000
set_option linter.unusedVariables false
namespace Mine
open PySem PySem.Spec PySem.Calls PyProof.Rows PySem.W

theorem sig_append : Manifest.signature? "list.append" = some ⟨.oneArg, "list.append", "append", .self, [⟨"object", .posOnly, true⟩]⟩ := by
  rw [signature?_of (id := "list.append") (n := ['d', 'n', 'e', 'p', 'p', 'a']) (o := ['t', 's', 'i', 'l']) (by kernel_rfl) PySem.F.owner_list]; kernel_rfl
theorem kind_append : builtinKind "list.append" = some .method := by kernel_rfl
theorem sub_list_module : isSubtype (.type "list") (.type "module") = pure false := by rw [isSubtype_type]; kernel_rfl
theorem full_append : toString (Bind.lastOf "list") ++ toString "." ++ toString (Bind.lastOf "list.append") = "list.append" := by decide +kernel
theorem bargs_append (a b : Value) : Bind.checkArgs "list.append" ⟨.oneArg, "list.append", "append", .self, [⟨"object", .posOnly, true⟩]⟩ ⟨[a, b], []⟩ = pure () := by
  have := args_list_append a b
  unfold argsOk at this
  rw [sig_append] at this
  exact this
theorem checkBound_append {M : Model} {A : Around} {E : Value → Shared → Prop} {s : Shared} {a : Addr} {v : Value} {ws : Array Value} {m : Nat} {Q : Unit → Shared → Prop} (h1 : s.heap.get? a = some (listOf ws m)) (h : Q () s) :
    wpAny M A (checkBoundCall "list.append" ⟨[.ref a, v], []⟩) Q E s := by
  have hT : s.TypeIs (.ref a) "list" := ⟨_, h1, rfl⟩
  unfold checkBoundCall
  rw [sig_append, kind_append]
  dsimp only
  rw [if_neg (by decide)]
  refine wpAny_bind (wpAny_isInstance hT sub_list_module ?_)
  rw [if_neg (by decide +kernel)]
  refine wpAny_bind ?_
  unfold isType
  refine wpAny_bind (wpAny_bind (wpAny_loadPart h1 (wpAny_pure ?_)))
  refine wpAny_pure ?_
  show wpAny _ _ (if false = true then _ else _) _ _ _
  rw [if_neg (by decide)]
  refine wpAny_bind (wpAny_typeOf hT ?_)
  dsimp only
  rw [full_append]
  exact wpAny_of_eq (bargs_append _ _) h

section
variable {C : Cx} {F : SF} {ρ : Vars} {L : Led} {n : Nat} {Q : AV → Led → Prop}
theorem item_slice_str {l u : AV} {x : Str} {lo hi : Option Int} (pl : PartV l lo) (pu : PartV u hi) (hz : x.length ≤ sizeLine) (h : Q (.str (Txt.slice x lo hi)) L) : ITEM C n (.str x) (.slc l u) L Q := fun A g s o iv r R ho hi' => by
  apply ho.eStr; intro t
  · apply hi'.eRecd3; intro b v1 v2 v3 h1 q1 q2 q3
    obtain rfl := q3.isNone
    refine ⟨⟨"str", _, typeIs_str _ _ _, F.slot_str_getitem.lookup⟩, ?_⟩
    have fin : ∀ t' k, P5 (RepL C) g (VK Q) (.str (Txt.slice x lo hi) t') { s with toks := k } := fun t' k => ⟨g, L, .refl g, R.toks k, _, .str _ _, h⟩
    have hob := R.sub _ _ h1
    cases pl with
    | none =>
      obtain rfl := q1.isNone
      cases pu with
      | none =>
        obtain rfl := q2.isNone
        exact wpAny_getItem_str_slice (l := none) (u := none) (st := none) ⟨_, hob, rfl, rfl⟩ rfl (post_val_or_str ⟨Nat.le_trans (Txt.slice_le x _ _) hz, fun t' k => fin t' k⟩)
      | int j =>
        obtain ⟨tj, rfl⟩ := q2.isInt
        exact wpAny_getItem_str_slice (l := none) (u := some (j, tj)) (st := none) ⟨_, hob, rfl, rfl⟩ rfl (post_val_or_str ⟨Nat.le_trans (Txt.slice_le x _ _) hz, fun t' k => fin t' k⟩)
    | int i =>
        obtain ⟨ti, rfl⟩ := q1.isInt
        cases pu with
        | none =>
          obtain rfl := q2.isNone
          exact wpAny_getItem_str_slice (l := some (i, ti)) (u := none) (st := none) ⟨_, hob, rfl, rfl⟩ rfl (post_val_or_str ⟨Nat.le_trans (Txt.slice_le x _ _) hz, fun t' k => fin t' k⟩)
        | int j =>
          obtain ⟨tj, rfl⟩ := q2.isInt
          exact wpAny_getItem_str_slice (l := some (i, ti)) (u := some (j, tj)) (st := none) ⟨_, hob, rfl, rfl⟩ rfl (post_val_or_str ⟨Nat.le_trans (Txt.slice_le x _ _) hz, fun t' k => fin t' k⟩)

theorem call_bm_append {a : Addr} {xs : List AV} {x : AV} {L' : Led} (hm : (a, .list xs) ∈ L) (hs : LSet a (.list (xs ++ [x])) L L') (hz : xs.length ≤ sizeLine) (h : Q .none L') : CALL C n (.bm "list.append" (.obj a)) [x] [] L Q :=
  fun A g s vf vs kv r R hf hv hk => by
    cases hk
    apply hf.eRecd2; intro b v1 v2 h1 q1 q2
    obtain rfl := q1.isCst; obtain rfl := q2.isObj
    apply hv.eOne; intro v q3
    obtain ⟨ws, m, h1', h2'⟩ := led_list R hm
    have hl : ws.size = xs.length := by rw [h2'.length]; simp
    have hT : s.TypeIs (.ref a) "list" := ⟨_, h1', rfl⟩
    have hob := R.sub _ _ h1
    change OpL C A (call (.ref b) [v] []) g s (VK Q)
    unfold call
    refine wpAny_runValue (codeAny_of_tree ?_)
    show wpAny _ A.in1 (callAny (.ref b) ⟨[v], []⟩) _ _ s
    unfold callAny
    refine wpAny_bind (wpAny_load hob ?_)
    dsimp only [fldsOf]
    rw [if_pos (by decide)]
    show wpAny _ _ (if (Value.type "builtin_function_or_method" != Value.type "method") = true then _ else _) _ _ _
    rw [if_pos (by decide)]
    refine wpAny_bind (checkBound_append h1' ?_)
    refine wpAny_pure ⟨Code.quiet_builtin _ (by decide +kernel), codeAny_builtin entry_list_append ?_⟩
    show wpAny _ _ (updateSeq a (·.push _) >>= fun zz => ret .none) _ _ s
    refine wpAny_bind (wpAny_updateSeq h1' rfl (wpAny_pure ⟨g, L', .refl g, R.set hs (Heap.SameBut.update ..) ⟨_, Heap.get?_update_self _ h1' rfl, ?_⟩ s.toks, .none, .none, h⟩) (by rw [hl]; exact hz))
    exact ⟨_, _, rfl, by simpa using h2'.append (.cons q3 .nil)⟩
end
end Mine
end
section
set_option maxRecDepth 100000
set_option linter.unusedVariables false
namespace Mine
open PySem PySem.Spec PySem.Calls PyProof.Rows PySem.W

section
variable {C : Cx} {F : SF} {ρ : Vars} {L : Led} {n : Nat} {Q : AV → Led → Prop}
theorem geta_append {a : Addr} {xs : List AV} (hm : (a, .list xs) ∈ L) (h : Q (.bm "list.append" (.obj a)) L) : GETA C n (.obj a) (Str.ofString "append") L Q := fun A g s v b r R hv => by
  cases hv
  obtain ⟨ws, m, h1, h2⟩ := led_list R hm
  refine getAttr_append h1 fun t => ?_
  obtain ⟨g', k, R', hg⟩ := R.allocG (o := fldsOf "builtin_function_or_method" #[.builtin "list.append", .ref a]) rfl t
  exact ⟨g', L, k, R', _, .recd (by decide) hg (.cons (.cst _) (.cons (.obj a) .nil)), h⟩

noncomputable def EVJ (C : Cx) (F : SF) (ρ : Vars) : List Expr → Str → Led → (Str → Led → Prop) → Prop
  | [], acc, L, Q => Q acc L
  | e :: es, acc, L, Q => EV C F ρ L e fun v L1 => ∃ y, v = .str y ∧ (acc ++ y).length ≤ sizeLine ∧ EVJ C F ρ es (acc ++ y) L1 Q
theorem evj_joins {A : Around} {env : Env} {own : List Addr} (r0 : Room A F.n) (hE : EnvIs F env) : ∀ (es : List Expr) (acc : Str) (L : Led) (g : Heap) (s : Shared) (Q : Str → Led → Prop), FrameOk C env own ρ g L s → EVJ C F ρ es acc L Q →
    Joins C.M A Never (evalEach es env) acc (P5 (FrameOk C env own ρ) g (EK Q)) s
  | [], acc, L, g, s, Q, Fo, h => ⟨g, L, .refl g, Fo, h⟩
  | e :: es, acc, L, g, s, Q, Fo, h => by
    rw [arm_evalEach_cons]
    refine onV (h A env own g s r0 hE Fo) (fun v s1 g1 L1 k1 Fo1 av hv hz => ?_)
    obtain ⟨y, rfl, hz, h1⟩ := hz
    cases hv with
    | str _ t =>
    refine ⟨y, t, rfl, hz, ?_⟩
    have key := evj_joins r0 hE es (acc ++ y) L1 g1 s1 Q Fo1 h1
    have mono : ∀ (parts : List (Sem Value)) (acc : Str) (s : Shared) (P P' : Str → Shared → Prop), (∀ o s, P o s → P' o s) → Joins C.M A Never parts acc P s → Joins C.M A Never parts acc P' s := by
      intro parts
      induction parts with
      | nil => intro acc s P P' hp hj; exact hp _ _ hj
      | cons x r ih =>
        intro acc s P P' hp hj
        exact wpAny_mono hj (fun v s1 ⟨y, t, e, hz, hr⟩ => ⟨y, t, e, hz, ih _ _ _ _ hp hr⟩) fun zz zz f => f
    exact mono _ _ _ _ _ (fun o s ⟨g2, L2, k2, Fo2, hq⟩ => ⟨g2, L2, k1.trans k2, Fo2, hq⟩) key
theorem ev_Joined {e1 e2 : Expr} {es : List Expr} {pos : Pos} (h : EVJ C F ρ (e1 :: e2 :: es) Str.empty L fun out L' => out.length ≤ sizeLine ∧ Q (.str out) L') : EV C F ρ L (.JoinedStr (e1 :: e2 :: es) pos) Q := fun A env own g s r0 hE Fo => by
  refine wpAny_JoinedStr ?_
  have key := evj_joins r0 hE _ _ _ _ _ _ Fo h
  have mono : ∀ (parts : List (Sem Value)) (acc : Str) (s : Shared) (P P' : Str → Shared → Prop), (∀ o s, P o s → P' o s) → Joins C.M A Never parts acc P s → Joins C.M A Never parts acc P' s := by
    intro parts
    induction parts with
    | nil => intro acc s P P' hp hj; exact hp _ _ hj
    | cons x r ih =>
      intro acc s P P' hp hj
      exact wpAny_mono hj (fun v s1 ⟨y, t, e, hz, hr⟩ => ⟨y, t, e, hz, ih _ _ _ _ hp hr⟩) fun zz zz f => f
  exact mono _ _ _ _ _ (fun o s ⟨g2, L2, k2, Fo2, hz, hq⟩ => ⟨hz, g2, L2, k2, Fo2.toks _, _, .str _ _, hq⟩) key
theorem ev_Formatted {value : Expr} {pos : Pos} (h : EV C F ρ L value fun v L' => ∃ y, v = .str y ∧ y.length ≤ sizeLine ∧ Q (.str y) L') : EV C F ρ L (.FormattedValue value (-1) none pos) Q := fun A env own g s r0 hE Fo => by
  refine wpAny_FormattedValue_plain (onV (h A env own g s r0 hE Fo) (fun v s1 g1 L1 k1 Fo1 av hv hz => ?_))
  obtain ⟨y, rfl, hz, h1⟩ := hz
  cases hv with
  | str _ t => exact wpAny_formatField_str ⟨g1, L1, k1, Fo1, _, .str _ _, h1⟩ ⟨g1, L1, k1, Fo1.toks _, _, .str _ _, h1⟩ hz

theorem call_pop {a : Addr} {xs : List AV} {x : AV} {L' : Led} (hm : (a, .list (xs ++ [x])) ∈ L) (hs : LSet a (.list xs) L L') (hz : xs.length < sizeLine) (h : Q x L') : CALL C n (.cst (.builtin "list.pop")) [.obj a] [] L Q :=
  fun A g s vf vs kv r R hf hv hk => by
    cases hf; cases hk
    apply hv.eOne; intro v0 q1
    cases q1
    obtain ⟨ws, m, h1, h2⟩ := led_list R hm
    have hl : ws.size = xs.length + 1 := by have := h2.length; simpa using this.symm
    have hT : s.TypeIs (.ref a) "list" := ⟨_, h1, rfl⟩
    obtain ⟨y, hy, hyx⟩ := h2.get (i := xs.length) (x := x) (by simp)
    have hy' : ws[ws.size - 1]? = some y := by rw [hl]; simpa using hy
    change OpL C A (call _ [_] []) g s (VK Q)
    refine call_meets PySem.F.slot_list_pop hT PySem.F.entry_list_pop (PySem.F.args_list_pop_1 _) (PySem.MeetsSeq.list_pop_last a _ m y hy' (by rw [hl]; omega)) ⟨h1, ?_⟩
    refine ⟨g, L', .refl g, R.set hs (Heap.SameBut.update ..) ⟨_, Heap.get?_update_self _ h1 rfl, ?_⟩ s.toks, x, hyx, h⟩
    refine ⟨_, _, rfl, ?_⟩
    have e : (ws.eraseIdxIfInBounds (ws.size - 1)).toList = ws.toList.take xs.length := by
      unfold Array.eraseIdxIfInBounds
      rw [dif_pos (by omega), Array.toList_eraseIdx, hl]
      rw [List.eraseIdx_eq_take_drop_succ]
      simp [hl]
    rw [e]
    simpa using h2.take xs.length
theorem tr_seq {a : AV} {xs : List AV} {Q : Bool → Led → Prop} (hs : SeqV L a xs) (hz : xs.length ≤ sizeLine) (h : Q (xs.length != 0) L) : OPB C n truthy a L Q := fun A g s v r R hv => by
  obtain ⟨d, vs, rfl, hl, hvs⟩ := hs.at R hv
  have hlen : vs.size = xs.length := by rw [hvs.length]; simp
  refine wpAny_truthy_list hl (by rw [hlen]; rw [sizeLine_eq] at hz; omega) ?_
  have e2 : (!vs.isEmpty) = (xs.length != 0) := by rw [← hlen]; cases hv : vs.size <;> simp [Array.isEmpty, hv]
  exact ⟨g, L, .refl g, R.toks _, by rw [← e2] at h; exact h⟩
theorem ev_Dict0 {pos : Pos} (h : ∀ d, Q (.obj d) ((d, .dict []) :: L)) : EV C F ρ L (.Dict [] [] pos) Q := fun A env own g s r0 hE Fo => by
  rw [eval_Dict_empty]
  refine wpAny_bind (wpAny_standAt ?_)
  refine Fo.liftV fun g₁ k R => ?_
  refine newAcc_dict (C := C) A _ s ?_
  exact ⟨g₁, _, .refl g₁, R.alloc (x := .dict []) (or_dict0 g₁) rfl s.toks, _, .obj _, h _⟩

noncomputable def SysIn (C : Cx) : Prop := ∃ o, C.hB.get? sysModules = some o
theorem RepL.notSys {g : Heap} {s : Shared} (R : RepL C g L s) (hy : SysIn C) {d : Addr} {x : AO} (hm : (d, x) ∈ L) : (d == sysModules) = false := by
  obtain ⟨o, ho⟩ := hy
  have hg := R.base _ _ ho
  have hf := R.free d (List.mem_map_of_mem (f := (fun zz => zz.1)) (Cx.inAll hm))
  have : d ≠ sysModules := fun q => by rw [q, hg] at hf; cases hf
  simpa using this
theorem led_dict {g : Heap} {s : Shared} {d : Addr} {es : List (Str × AV)} (R : RepL C g L s) (hm : (d, .dict es) ∈ L) : DictAt C g s.heap d es := by
  obtain ⟨od, e1, e2⟩ := R.led _ (Cx.inAll hm)
  exact OR.dictOf e1 e2
theorem tr_dict {d : Addr} {es : List (Str × AV)} {Q : Bool → Led → Prop} (hy : SysIn C) (hm : (d, .dict es) ∈ L) (hz : es.length ≤ sizeLine) (h : Q (es.length != 0) L) : OPB C n truthy (.obj d) L Q := fun A g s v r R hv => by
  cases hv
  obtain ⟨kvs, hd, hk, hvs⟩ := led_dict R hm
  have hl : kvs.length = es.length := by have := congrArg List.length hk; simpa using this
  refine wpAny_truthy_dict (R.notSys hy hm) hd (by rw [hl]; rw [sizeLine_eq] at hz; omega) ?_
  have e2 : (!kvs.isEmpty) = (es.length != 0) := by rw [← hl]; cases kvs <;> simp
  exact ⟨g, L, .refl g, R.toks _, by rw [← e2] at h; exact h⟩
theorem getm_dict {d : Addr} {es : List (Str × AV)} {name : Str} {id : String} {Q : AV → List AV → Led → Prop} (hm : (d, .dict es) ∈ L) (slot : Slot "dict" name id) (hty : typeOf (.builtin id) = pure (.type "method_descriptor"))
    (h : Q (.cst (.builtin id)) [.obj d] L) : GETM C n (.obj d) name L Q := fun A g s v pl r R hv => by
  cases hv
  obtain ⟨kvs, ⟨o, cs, ep, ho, hc, hdat, _⟩, _⟩ := led_dict R hm
  refine getMethod_builtin (T := "dict") ⟨_, ho, hc.1⟩ PySem.F.plainAttrs_dict slot hty (fun a e => by cases e; exact ⟨_, ho, hc.2.1⟩) ?_
  exact ⟨g, L, .refl g, R, _, _, .cst _, .cons (.obj d) .nil, h⟩
theorem call_dget_none {d : Addr} {es : List (Str × AV)} {x : Str} (hy : SysIn C) (hm : (d, .dict es) ∈ L) (hl : es.lookup x = none) (h : Q .none L) : CALL C n (.cst (.builtin "dict.get")) [.obj d, .str x] [] L Q :=
  fun A g s vf vs kv r R hf hv hk => by
    cases hf; cases hk
    apply hv.eTwo; intro v0 v1 q1 q2
    cases q1
    cases q2 with
    | str _ t =>
    obtain ⟨kvs, hd, hkk, hvs⟩ := led_dict R hm
    have hlk := lookup_of_keys (x := x) hkk hvs
    rw [hl] at hlk
    change OpL C A (call _ [_, _] []) g s (VK Q)
    refine call_meetsIn PySem.F.slot_dict_get hd.typeIs PySem.F.entry_dict_get (PySem.F.args_dict_get_2 _ _) (meets_dict_get C.SK (k := x) d (by show Value.isStrOf x (.str x t) = true; simp [Value.isStrOf]) (R.notSys hy hm)) ⟨_, hd.mapOf, ?_⟩
    rw [hlk]
    exact ⟨g, L, .refl g, R.toks _, _, .none, h⟩
noncomputable def DictRaw (C : Cx) (es : List (Str × AV)) (o : Obj) : Prop := ∀ g, OR C g (.dict es) o
theorem VRs.bares {g g' : Heap} : ∀ {xs : List AV} {vs : List Value}, (∀ x ∈ xs, ∃ y, x = .str y) → VRs g xs vs → VRs g' xs vs
  | _, _, _, .nil => .nil
  | _, _, h, .cons h1 h2 => by
    obtain ⟨y, e⟩ := h _ List.mem_cons_self
    subst e
    cases h1 with
    | str _ t => exact .cons (.str _ t) (h2.bares fun x hx => h x (List.mem_cons_of_mem _ hx))
theorem call_items {d : Addr} {es : List (Str × AV)} (hy : SysIn C) (hm : (d, .dict es) ∈ L) (h : Q (.recd "dict_items" [.obj d]) L) : CALL C n (.cst (.builtin "dict.items")) [.obj d] [] L Q :=
  fun A g s vf vs kv r R hf hv hk => by
    cases hf; cases hk
    apply hv.eOne; intro v0 q1
    cases q1
    obtain ⟨kvs, hd, hkk, hvs⟩ := led_dict R hm
    change OpL C A (call _ [_] []) g s (VK Q)
    refine call_meetsIn PySem.F.slot_dict_items hd.typeIs PySem.F.entry_dict_items (PySem.F.args_dict_items_1 _) (meets_dict_items C.SK d (R.notSys hy hm)) ⟨⟨_, hd⟩, ?_⟩
    obtain ⟨g', k, R', hg⟩ := R.allocG (o := fldsOf "dict_items" #[.ref d]) rfl s.toks
    exact ⟨g', L, k, R', _, .recd (by decide) hg (.cons (.obj d) .nil), h⟩
end
end Mine
end
section
set_option maxRecDepth 100000
set_option linter.unusedVariables false
namespace Mine
open PySem PySem.Spec PySem.Calls PyProof.Rows PySem.W

structure KDict (C : Cx) (a : Addr) (kts : List (Str × Tok × Value)) : Prop where
  at_ : ∃ es ep, C.K.lookup a = some ⟨.type "dict", none, .dict es ep, #[]⟩ ∧ es.toList = kts.map fun p => ⟨PyData.keyHash C.P p.1, .str p.1 p.2.1, p.2.2⟩
  nd : (kts.map (fun zz => zz.1)).Nodup
  few : kts.length ≤ 1000
theorem KDict.dictOf {C : Cx} {a : Addr} {kts : List (Str × Tok × Value)} (D : KDict C a kts) {h : Heap} (X : C.K.In h) : h.DictOf C.SK a (kts.map fun p => (p.1, p.2.2)) := by
  obtain ⟨es, ep, h1, h2⟩ := D.at_
  refine ⟨_, es, ep, X _ _ h1, ⟨rfl, rfl, rfl⟩, rfl, fun e he => ?_, ?_, ?_⟩
  · have : e ∈ es.toList := by simpa using he
    rw [h2] at this
    obtain ⟨p, _, rfl⟩ := List.mem_map.mp this
    exact ⟨p.1, by show Value.isStrOf p.1 (.str p.1 p.2.1) = true; simp [Value.isStrOf], rfl⟩
  · rw [h2]
    have : ∀ l : List (Str × Tok × Value), Pairs C.SK (l.map fun p => (⟨PyData.keyHash C.P p.1, .str p.1 p.2.1, p.2.2⟩ : DictEntry)) (l.map fun p => (p.1, p.2.2)) := by
      intro l
      induction l with
      | nil => exact .nil
      | cons p r ih => exact .cons (by show Value.isStrOf p.1 (.str p.1 p.2.1) = true; simp [Value.isStrOf]) rfl ih
    exact this kts
  · have e : (kts.map fun p => (p.1, p.2.2)).map (fun zz => zz.1) = kts.map (fun zz => zz.1) := by rw [List.map_map]; rfl
    rw [e]; exact D.nd
section
variable {C : Cx} {F : SF} {ρ : Vars} {L : Led} {n : Nat} {Q : AV → Led → Prop}
theorem getm_kdict {a : Addr} {kts : List (Str × Tok × Value)} {name : Str} {id : String} {Q : AV → List AV → Led → Prop} (D : KDict C a kts) (slot : Slot "dict" name id)
    (hty : typeOf (.builtin id) = pure (.type "method_descriptor")) (h : Q (.cst (.builtin id)) [.obj a] L) : GETM C n (.obj a) name L Q :=
  let ⟨es, ep, h1, h2⟩ := D.at_
  getm_base h1 PySem.F.plainAttrs_dict slot hty h
theorem call_items_K {a : Addr} {kts : List (Str × Tok × Value)} (D : KDict C a kts) (hs : (a == sysModules) = false) (h : Q (.recd "dict_items" [.obj a]) L) : CALL C n (.cst (.builtin "dict.items")) [.obj a] [] L Q :=
  fun A g s vf vs kv r R hf hv hk => by
    cases hf; cases hk
    apply hv.eOne; intro v0 q1
    cases q1
    have hd := D.dictOf R.Xs
    change OpL C A (call _ [_] []) g s (VK Q)
    refine call_meetsIn PySem.F.slot_dict_items hd.typeIs PySem.F.entry_dict_items (PySem.F.args_dict_items_1 _) (meets_dict_items C.SK a hs) ⟨⟨_, hd⟩, ?_⟩
    obtain ⟨g', k, R', hg⟩ := R.allocG (o := fldsOf "dict_items" #[.ref a]) rfl s.toks
    exact ⟨g', L, k, R', _, .recd (by decide) hg (.cons (.obj a) .nil), h⟩
theorem view_at {g : Heap} {v : Value} {d : Addr} (h : VR g (.recd "dict_items" [.obj d]) v) : ∃ b, v = .ref b ∧ g.get? b = some (fldsOf "dict_items" #[.ref d]) := by
  apply h.eRecd1; intro b v1 h1 q1
  obtain rfl := q1.isObj
  exact ⟨b, rfl, h1⟩
theorem call_list_items_K {a : Addr} {kts : List (Str × Tok × Value)} (D : KDict C a kts) (h : ∀ B, Q (.obj B) L) : CALL C n (.cst (.type "list")) [.recd "dict_items" [.obj a]] [] L Q :=
  fun A g s vf vs kv r R hf hv hk => by
    cases hf; cases hk
    apply hv.eOne; intro v0 q1
    obtain ⟨b, rfl, hb⟩ := view_at q1
    have hd := D.dictOf R.Xs
    obtain ⟨ep, hat⟩ := hd.dictAt
    change OpL C A (call _ [_] []) g s (VK Q)
    refine kdx_call (knd := C.SK) (ep := ep) r.handled ⟨_, R.sub _ _ hb, rfl, rfl⟩ hat (by rw [List.length_map]; have := D.few; rw [sizeLine_eq]; omega) fun h' tk acc c as hk1 zz zz zz zz => ?_
    exact ⟨g, L, .refl g, R.heapAll hk1 tk, _, .obj _, h _⟩

theorem Iter.items {A : Around} {elts : List Expr} {kx : Nat} {px : Pos} {it d : Addr} {o : Obj} {kvs : List (Str × Value)} {ep : Nat} {xs : List (Str × AV)} {g0 : Heap} (r0 : Room A n)
    (ho : ∀ h : Heap, h.get? d = some o → h.DictAt C.SK d kvs ep) (hk : kvs.map (fun zz => zz.1) = xs.map (fun zz => zz.1)) (hv : ∀ g, VRs g (xs.map (fun zz => zz.2)) (kvs.map (fun zz => zz.2))) :
    Iter C A (.Tuple elts kx px) it (xs.map fun e => .tup [.str e.1, e.2]) g0 (fun L' => (d, .raw o) ∈ L') fun i ob => ∃ ok ov, ob = { cls := .type "dict_itemiterator", dict := none, data := .fields #[.none, .bool false, .ref d, .int i 0, .int kvs.length 0, .int ep 0, ok, ov], slots := #[] } where
  kind := fun i o e => by obtain ⟨ok, ov, rfl⟩ := e; exact ⟨_, _, rfl, rfl, by decide⟩
  self := fun i s Q h hq => by
    obtain ⟨_, h, ok, ov, rfl⟩ := h
    exact kcp_self h hq
  item := fun i x L g s Q hx k R hH hob hn hg hq => by
    obtain ⟨_, hob, ok, ov, rfl⟩ := hob
    obtain ⟨o', e1, e2⟩ := R.led _ (Cx.inAll hH)
    have e2 : o' = o := e2
    subst e2
    have hat := ho _ e1
    rw [List.getElem?_map] at hx
    obtain ⟨p, hp, rfl⟩ := Option.map_eq_some_iff.mp hx
    have hlen : kvs.length = xs.length := by have := congrArg List.length hk; simpa using this
    have hi : i < kvs.length := by rw [hlen]; exact (List.getElem?_eq_some_iff.mp hp).1
    have hkv : kvs[i]? = some ((kvs[i]).1, (kvs[i]).2) := List.getElem?_eq_getElem hi
    have hk1 : (kvs[i]).1 = p.1 := by
      have := congrArg (fun l : List Str => l[i]?) hk
      simp only [List.getElem?_map, hp, hkv, Option.map_some] at this
      exact Option.some.inj this
    have hds : d < s.heap.objs.size := Heap.lt_size e1
    refine wpAny_pyNext_items_item (knd := C.SK) (k := (kvs[i]).1) (v := (kvs[i]).2) hob hat hkv fun key h1 hkey hout htup hsz hkeep => ?_
    obtain ⟨t, rfl⟩ : ∃ t, key = .str p.1 t := by
      have : Value.isStrOf (kvs[i]).1 key = true := hkey
      obtain ⟨t, e⟩ := Value.isStrOf_shape this
      rw [hk1] at e
      exact ⟨t, e⟩
    refine ⟨_, rfl, ?_⟩
    refine wpAny_letOwnedTupleGo_items hout fun h2 hin hs2 => ?_
    have hne : s.heap.objs.size ≠ it := Nat.ne_of_gt (Heap.lt_size hob)
    have htup2 : h2.get? s.heap.objs.size = some { cls := .type "tuple", data := .seq #[.str p.1 t, (kvs[i]).2] } := (hs2.2 _ hne).trans htup
    refine hq _ h2 s.toks ⟨_, hin, _, _, rfl⟩ (fun b o hb e => (hs2.2 b hb).trans (hkeep b o hb e)) fun gg kk new => ?_
    have hin2 := new _ _ (by
      cases q : s.heap.get? s.heap.objs.size with
      | none => rfl
      | some o => exact absurd (Heap.lt_size q) (Nat.lt_irrefl _)) htup2
    refine .tup hin2 rfl rfl ?_
    obtain ⟨v', ev, hv'⟩ := (hv gg).get (i := i) (x := p.2) (by rw [List.getElem?_map, hp]; rfl)
    rw [List.getElem?_map, hkv] at ev
    cases ev
    exact .cons (.str _ _) (.cons hv' .nil)
  done := fun L g s Q k R hH hob hn hg hq => by
    obtain ⟨_, hob, ok, ov, rfl⟩ := hob
    obtain ⟨o', e1, e2⟩ := R.led _ (Cx.inAll hH)
    have e2 : o' = o := e2
    subst e2
    have hlen : kvs.length = xs.length := by have := congrArg List.length hk; simpa using this
    rw [List.length_map, ← hlen] at hob
    exact wpAny_pyNext_items_end (knd := C.SK) r0.handled hob (ho _ e1) (by simp) fun h' he => hq h' _ he
theorem iter_items {elts : List Expr} {kx : Nat} {px : Pos} {d : Addr} {o : Obj} {xs : List (Str × AV)} (hm : (d, .raw o) ∈ L) (hr : DictRaw C xs o) (hes : ∀ x ∈ xs.map (fun zz => zz.2), ∃ y, x = .str y) :
    ITERABLE C n (.Tuple elts kx px) (.recd "dict_items" [.obj d]) L (xs.map fun e => .tup [.str e.1, e.2]) fun L' => (d, .raw o) ∈ L' := fun A g s v Q r0 R hv hq => by
  obtain ⟨b, rfl, hb⟩ := view_at hv
  obtain ⟨o', e1, e2⟩ := R.led _ (Cx.inAll hm)
  have e2 : o' = o := e2
  subst e2
  obtain ⟨hex, cs, ep, kvs, h1, h2, h3, h4, h5, h6⟩ := hr g
  have hat : ∀ h : Heap, h.get? d = some o' → h.DictAt C.SK d kvs ep := fun h e => ⟨o', cs, e, hex, h1, h2, h3, h4⟩
  refine wpAny_pyIter_items (knd := C.SK) (ep := ep) ⟨_, R.sub _ _ hb, rfl, rfl⟩ (hat _ e1) ?_
  refine hq s.heap.objs.size _ s.toks _ (by
      cases e : s.heap.get? s.heap.objs.size with
      | none => rfl
      | some o => exact absurd (Heap.lt_size e) (Nat.lt_irrefl _)) (fun b o e => Heap.get?_push_of_some _ e) ?_ (.items r0 hat h5 fun g' => h6.bares hes)
  exact ⟨_, Heap.get?_push_size _ rfl, .none, .none, rfl⟩
end
end Mine
end
section
set_option maxRecDepth 100000
set_option linter.unusedVariables false
namespace Mine
open PySem PySem.W PyProof.Rows

section
variable {n : Nat} {rank : Nat → Nat} {cmp : Nat → Nat → (Bool → Shared → Prop) → Shared → Prop} {s : Shared}
structure Asks (n : Nat) (rank : Nat → Nat) (cmp : Nat → Nat → (Bool → Shared → Prop) → Shared → Prop) (s : Shared) : Prop where
  pos : 0 < n
  ask : ∀ i j, i < n → j < n → ∀ C : Bool → Shared → Prop, C (decide (rank i < rank j)) s → cmp i j C s
  inj : ∀ i j, i < n → j < n → rank i = rank j → i = j
noncomputable abbrev PermN (n : Nat) (p : Array Nat) : Prop := p.toList.Perm (List.range n)
noncomputable def KY (rank : Nat → Nat) (p : Array Nat) (i : Nat) : Nat := rank (p.getD i 0)
theorem PermN.size {p : Array Nat} (h : PermN n p) : p.size = n := by have := h.length_eq; simpa using this
theorem PermN.lt {p : Array Nat} (h : PermN n p) (hn : 0 < n) (i : Nat) : p.getD i 0 < n := by
  by_cases hi : i < p.size
  · have e : p.getD i 0 = p[i] := by simp [Array.getD, hi]
    rw [e]
    exact List.mem_range.mp (h.mem_iff.mp (by simp))
  · have e : p.getD i 0 = 0 := by simp [Array.getD, hi]
    rw [e]; exact hn
theorem PermN.ne {p : Array Nat} (h : PermN n p) {i j : Nat} (hi : i < n) (hj : j < n) (hij : i ≠ j) : p.getD i 0 ≠ p.getD j 0 := by
  have hs := h.size
  have nd : p.toList.Nodup := h.nodup_iff.mpr List.nodup_range
  have e1 : p.getD i 0 = p[i]'(by omega) := by simp [Array.getD, show i < p.size by omega]
  have e2 : p.getD j 0 = p[j]'(by omega) := by simp [Array.getD, show j < p.size by omega]
  rw [e1, e2]
  intro q
  have hq : p.toList[i]'(by simp; omega) = p.toList[j]'(by simp; omega) := by simpa using q
  rcases Nat.lt_or_ge i j with h1 | h1
  · exact List.pairwise_iff_getElem.mp nd i j (by simp; omega) (by simp; omega) h1 hq
  · exact List.pairwise_iff_getElem.mp nd j i (by simp; omega) (by simp; omega) (by omega) hq.symm
theorem Asks.ne (A : Asks n rank cmp s) {p : Array Nat} (h : PermN n p) {i j : Nat} (hi : i < n) (hj : j < n) (hij : i ≠ j) : KY rank p i ≠ KY rank p j := fun q =>
  h.ne hi hj hij (A.inj _ _ (h.lt A.pos i) (h.lt A.pos j) q)
noncomputable def UpTo (rank : Nat → Nat) (p : Array Nat) (k : Nat) : Prop := ∀ i j, i < j → j < k → KY rank p i < KY rank p j
noncomputable def DownTo (rank : Nat → Nat) (p : Array Nat) (k : Nat) : Prop := ∀ i j, i < j → j < k → KY rank p j < KY rank p i
theorem UpTo.step {p : Array Nat} {k : Nat} (h : UpTo rank p k) (hk : k = 0 ∨ KY rank p (k - 1) < KY rank p k) : UpTo rank p (k + 1) := by
  intro i j hij hj
  by_cases hjk : j < k
  · exact h i j hij hjk
  · have : j = k := by omega
    subst this
    rcases hk with hk | hk
    · omega
    · by_cases hi : i = j - 1
      · subst hi; exact hk
      · exact Nat.lt_trans (h i (j - 1) (by omega) (by omega)) hk
theorem DownTo.step {p : Array Nat} {k : Nat} (h : DownTo rank p k) (hk : k = 0 ∨ KY rank p k < KY rank p (k - 1)) : DownTo rank p (k + 1) := by
  intro i j hij hj
  by_cases hjk : j < k
  · exact h i j hij hjk
  · have : j = k := by omega
    subst this
    rcases hk with hk | hk
    · omega
    · by_cases hi : i = j - 1
      · subst hi; exact hk
      · exact Nat.lt_trans hk (h i (j - 1) (by omega) (by omega))
theorem ask_wp (A : Asks n rank cmp s) {p : Array Nat} (h : PermN n p) {i j : Nat} {α : Type} {k : Bool → KasT α} {Q : α → Shared → Prop} (hk : (k (decide (KY rank p i < KY rank p j))).kasWp cmp Q s) :
    (KasT.ask (p.getD i 0) (p.getD j 0) k).kasWp cmp Q s := A.ask _ _ (h.lt A.pos i) (h.lt A.pos j) _ hk
theorem asc_wp (A : Asks n rank cmp s) {p : Array Nat} (h : PermN n p) {Q : Nat → Shared → Prop} : ∀ (f a : Nat), 1 ≤ a → UpTo rank p a → (∀ m, a ≤ m → m ≤ a + f → UpTo rank p m → (m = a + f ∨ KY rank p m < KY rank p (m - 1)) → Q m s) → a + f ≤ n → (kas_asc p f a).kasWp cmp Q s
  | 0, a, h1, hu, hQ, hn => hQ a (Nat.le_refl _) (Nat.le_refl _) hu (.inl rfl)
  | f + 1, a, h1, hu, hQ, hn => by
    refine ask_wp A h ?_
    by_cases hlt : KY rank p a < KY rank p (a - 1)
    · rw [decide_eq_true hlt, if_pos rfl]
      exact hQ a (Nat.le_refl _) (by omega) hu (.inr hlt)
    · rw [decide_eq_false hlt, if_neg (by decide)]
      have hne := A.ne h (i := a) (j := a - 1) (by omega) (by omega) (by omega)
      exact asc_wp A h f (a + 1) (by omega) (hu.step (.inr (by omega))) (fun m h1 h2 h3 h4 => hQ m (by omega) (by omega) h3 (h4.elim (fun q => .inl (by omega)) .inr)) (by omega)
theorem desc_wp (A : Asks n rank cmp s) {p : Array Nat} (h : PermN n p) {Q : Array Nat × Nat × Nat → Shared → Prop} : ∀ (f a : Nat), 1 ≤ a → DownTo rank p a → (∀ m, a ≤ m → m ≤ a + f → DownTo rank p m → Q (p, m, 0) s) → a + f ≤ n → (kas_desc f p a 0).kasWp cmp Q s
  | 0, a, h1, hu, hQ, hn => hQ a (Nat.le_refl _) (Nat.le_refl _) hu
  | f + 1, a, h1, hu, hQ, hn => by
    refine ask_wp A h ?_
    by_cases hlt : KY rank p a < KY rank p (a - 1)
    · rw [decide_eq_true hlt, if_pos rfl, if_neg (by omega)]
      exact desc_wp A h f (a + 1) (by omega) (hu.step (.inr hlt)) (fun m h1 h2 h3 => hQ m (by omega) (by omega) h3) (by omega)
    · rw [decide_eq_false hlt, if_neg (by decide)]
      have hne := A.ne h (i := a) (j := a - 1) (by omega) (by omega) (by omega)
      refine ask_wp A h ?_
      rw [decide_eq_true (by omega), if_pos rfl]
      exact hQ a (Nat.le_refl _) (by omega) hu
theorem rev_perm {p : Array Nat} (h : PermN n p) (i j : Nat) : PermN n (kas_rev p i j) := (Array.perm_iff_toList_perm.mp (mirror_perm p i j _)).trans h
theorem rev_at {p : Array Nat} {k : Nat} (hk : k ≤ p.size) (i : Nat) : (kas_rev p 0 k).getD i 0 = if i < k then p.getD (k - 1 - i) 0 else p.getD i 0 := by
  have e := getElem?_mirror_all (i := 0) hk i
  have f : ∀ (q : Array Nat) (m : Nat), q.getD m 0 = (q[m]?).getD 0 := fun q m => by simp [Array.getD_eq_getD_getElem?]
  rw [f, f, f]
  unfold kas_rev
  rw [e]
  by_cases hi : i < k
  · rw [if_pos ⟨Nat.zero_le _, hi⟩, if_pos hi, Nat.zero_add]
  · rw [if_neg (fun q => hi q.2), if_neg hi]
theorem rev_up {p : Array Nat} {k : Nat} (hk : k ≤ p.size) (h : DownTo rank p k) : UpTo rank (kas_rev p 0 k) k := by
  intro i j hij hj
  unfold KY
  rw [rev_at hk, rev_at hk, if_pos (by omega), if_pos hj]
  exact h (k - 1 - j) (k - 1 - i) (by omega) (by omega)
theorem tail3_wp (A : Asks n rank cmp s) {p : Array Nat} (h : PermN n p) {Q : Nat × Array Nat → Shared → Prop} {a : Nat} (h1 : 1 ≤ a) (ha : a ≤ n) (hd : DownTo rank p a) (hQ : ∀ m p', PermN n p' → 1 ≤ m → m ≤ n → UpTo rank p' m → Q (m, p') s) :
    (kas_tail3 a n p).kasWp cmp Q s := by
  unfold kas_tail3
  rw [KasT.kasWp_bind]
  have hr := rev_perm h 0 a
  exact asc_wp A hr (n - a) a h1 (rev_up (by rw [h.size]; exact ha) hd) (fun m m1 m2 m3 zz => hQ m _ hr (by omega) (by omega) m3) (by omega)
theorem descPart_wp (A : Asks n rank cmp s) {p : Array Nat} (h : PermN n p) {Q : Nat × Array Nat → Shared → Prop} {a : Nat} (ha : a + 1 ≤ n) (hd : DownTo rank p (a + 1)) (hQ : ∀ m p', PermN n p' → 1 ≤ m → m ≤ n → UpTo rank p' m → Q (m, p') s) :
    (kas_descPart a n p).kasWp cmp Q s := by
  unfold kas_descPart
  rw [KasT.kasWp_bind]
  refine desc_wp A h (n - (a + 1)) (a + 1) (by omega) hd (fun m m1 m2 m3 => ?_) (by omega)
  rw [if_neg (show ¬ (0 > 0) by omega)]
  exact tail3_wp A h (show 1 ≤ m by omega) (show m ≤ n by omega) m3 hQ
theorem count_wp (A : Asks n rank cmp s) {p : Array Nat} (h : PermN n p) {Q : Nat × Array Nat → Shared → Prop} (hQ : ∀ m p', PermN n p' → 1 ≤ m → m ≤ n → UpTo rank p' m → Q (m, p') s) : (kas_count n p).kasWp cmp Q s := by
  have hp := A.pos
  unfold kas_count
  rw [KasT.kasWp_bind]
  refine asc_wp A h (n - 1) 1 (Nat.le_refl _) (fun i j hij hj => by omega) (fun m m1 m2 m3 m4 => ?_) (by omega)
  by_cases hm : m = n
  · rw [if_pos (by simpa using hm)]
    exact hQ m p h m1 (by omega) m3
  · rw [if_neg (by simpa using hm)]
    by_cases hm1 : m > 1
    · rw [if_pos hm1]
      refine ask_wp A h ?_
      rw [decide_eq_true (m3 0 (m - 1) (by omega) (by omega)), if_pos rfl]
      exact hQ m p h m1 (by omega) m3
    · rw [if_neg hm1]
      have : m = 1 := by omega
      subst this
      have hlt : KY rank p 1 < KY rank p 0 := m4.resolve_left (by omega)
      refine descPart_wp A h (by omega) ?_ hQ
      exact DownTo.step (fun i j hij hj => by omega) (.inr hlt)
theorem place_wp (A : Asks n rank cmp s) {p : Array Nat} (h : PermN n p) {k : Nat} (hk : k < n) (hu : UpTo rank p k) {Q : Nat → Shared → Prop} (hQ : ∀ l, l ≤ k → (∀ i, i < l → KY rank p i < KY rank p k) → (∀ i, l ≤ i → i < k → KY rank p k < KY rank p i) → Q l s) :
    ∀ (f l r : Nat), l ≤ r → r ≤ k → r - l ≤ f → (∀ i, i < l → KY rank p i < KY rank p k) → (∀ i, r ≤ i → i < k → KY rank p k < KY rank p i) → (kas_place p k f l r).kasWp cmp Q s
  | 0, l, r, h1, h2, h3, h4, h5 => hQ l (by omega) h4 (fun i a b => h5 i (by omega) b)
  | f + 1, l, r, h1, h2, h3, h4, h5 => by
    unfold kas_place
    by_cases hge : l ≥ r
    · rw [if_pos hge]
      exact hQ l (by omega) h4 (fun i a b => h5 i (by omega) b)
    · rw [if_neg hge]
      refine ask_wp A h ?_
      by_cases hlt : KY rank p k < KY rank p ((l + r) / 2)
      · rw [decide_eq_true hlt, if_pos rfl]
        refine place_wp A h hk hu hQ f l ((l + r) / 2) (by omega) (by omega) (by omega) h4 (fun i a b => ?_)
        by_cases e : i = (l + r) / 2
        · subst e; exact hlt
        · exact Nat.lt_trans hlt (hu _ _ (by omega) b)
      · rw [decide_eq_false hlt, if_neg (by decide)]
        have hne := A.ne h (i := k) (j := (l + r) / 2) hk (by omega) (by omega)
        refine place_wp A h hk hu hQ f ((l + r) / 2 + 1) r (by omega) h2 (by omega) (fun i a => ?_) h5
        by_cases e : i = (l + r) / 2
        · subst e; omega
        · have := hu i ((l + r) / 2) (by omega) (by omega); omega
theorem bubble_at {p : Array Nat} {k d : Nat} (hk : k < p.size) (hd : d ≤ k) (i : Nat) : (bubble p k d).getD i 0 = if i = k - d then p.getD k 0 else if k - d < i ∧ i ≤ k then p.getD (i - 1) 0 else p.getD i 0 := by
  have e := getElem?_bubble hk d hd i
  have f : ∀ (q : Array Nat) (m : Nat), q.getD m 0 = (q[m]?).getD 0 := fun q m => by simp [Array.getD_eq_getD_getElem?]
  rw [f, f, f, f, e]
  by_cases h1 : i = k - d
  · rw [if_pos h1, if_pos h1]
  · rw [if_neg h1, if_neg h1]
    by_cases h2 : k - d < i ∧ i ≤ k
    · rw [if_pos h2, if_pos h2]
    · rw [if_neg h2, if_neg h2]
theorem bin_wp (A : Asks n rank cmp s) {Q : Array Nat → Shared → Prop} (hQ : ∀ p, PermN n p → UpTo rank p n → Q p s) : ∀ (f : Nat) (p : Array Nat) (k : Nat), PermN n p → k + f = n → UpTo rank p k → (kas_bin f p k).kasWp cmp Q s
  | 0, p, k, h, e, hu => hQ p h (by rw [← e]; exact hu)
  | f + 1, p, k, h, e, hu => by
    unfold kas_bin
    rw [KasT.kasWp_bind]
    refine place_wp A h (by omega) hu (fun l hl h1 h2 => ?_) k 0 k (by omega) (Nat.le_refl _) (by omega) (fun i a => by omega) (fun i a b => by omega)
    have hb : PermN n (bubble p k (k - l)) := (Array.perm_iff_toList_perm.mp (bubble_perm p k _)).trans h
    refine bin_wp A hQ f _ (k + 1) hb (by omega) ?_
    have hks : k < p.size := by rw [h.size]; omega
    have hB : ∀ i, KY rank (bubble p k (k - l)) i = if i = l then KY rank p k else if l < i ∧ i ≤ k then KY rank p (i - 1) else KY rank p i := by
      intro i
      unfold KY
      rw [bubble_at hks (by omega), show k - (k - l) = l by omega]
      by_cases c1 : i = l
      · rw [if_pos c1, if_pos c1]
      · rw [if_neg c1, if_neg c1]
        by_cases c2 : l < i ∧ i ≤ k
        · rw [if_pos c2, if_pos c2]
        · rw [if_neg c2, if_neg c2]
    intro i j hij hj
    rw [hB, hB]
    by_cases c1 : i = l
    · rw [if_pos c1, if_neg (by omega), if_pos (by omega)]
      exact h2 _ (by omega) (by omega)
    · rw [if_neg c1]
      by_cases c2 : l < i ∧ i ≤ k
      · rw [if_pos c2, if_neg (by omega), if_pos (by omega)]
        exact hu _ _ (by omega) (by omega)
      · rw [if_neg c2]
        by_cases c3 : j = l
        · rw [if_pos c3]
          exact h1 _ (by omega)
        · rw [if_neg c3]
          by_cases c4 : l < j ∧ j ≤ k
          · rw [if_pos c4]
            rcases Nat.lt_or_ge i (j - 1) with q | q
            · exact hu _ _ q (by omega)
            · exact absurd q (by omega)
          · rw [if_neg c4]
            exact hu _ _ hij (by omega)
theorem sort_wp (A : Asks n rank cmp s) {Q : Array Nat → Shared → Prop} (hQ : ∀ p, PermN n p → UpTo rank p n → Q p s) : (kas_sort n).kasWp cmp Q s := by
  unfold kas_sort
  rw [KasT.kasWp_bind]
  refine count_wp A (p := List.toArray (List.range n)) (by show (List.toArray (List.range n)).toList.Perm _; rw [List.toList_toArray]) (fun m p' h1 h2 h3 h4 => ?_)
  dsimp only
  by_cases hm : m < n
  · rw [if_pos hm]
    exact bin_wp A hQ _ _ _ h1 (by omega) (by rw [show max m 1 = m by omega]; exact h4)
  · rw [if_neg hm]
    have : m = n := by omega
    subst this
    exact hQ p' h1 h4
end
end Mine
end
section
set_option maxRecDepth 100000
set_option linter.unusedVariables false
namespace Mine
open PySem PySem.Spec PySem.Calls PyProof.Rows PySem.W

section
variable {prog : Program} {w : World} {A : Around} {E : Value → Shared → Prop} {s : Shared}
theorem perm_small {vs : List Value} (h2 : ¬ 2 ≤ vs.length) : ((List.range vs.length).map fun i => vs.getD i Value.none) = vs := by
  match vs, h2 with
  | [], _ => rfl
  | [_], _ => rfl
  | _ :: _ :: _, h => exact absurd (by simp) h
theorem sort_tree {a : Addr} {vs : List Value} {n : Nat} {rank : Nat → Nat} {P : PySem.Fin → Shared → Prop} (ho : s.heap.get? a = some (seqObj "list" vs.toArray n)) (h64 : vs.length < 64)
    (hk : 2 ≤ vs.length → ∀ h', (∀ b o, b ≠ a → s.heap.get? b = some o → h'.get? b = some o) → ∃ κ, (∀ Q : SortKind → Shared → Prop, Q κ { s with heap := h' } → wpAny (model prog w) A (keyKind' vs.toArray) Q (fun zz zz => False) { s with heap := h' }) ∧
      Asks vs.length rank (kas_ask prog w A κ vs) { s with heap := h' })
    (h : ∀ p h' c, PermN vs.length p → UpTo rank p vs.length → (∀ b o, b ≠ a → s.heap.get? b = some o → h'.get? b = some o) → h'.get? a = some (seqObj "list" (List.toArray (p.toList.map fun i => vs.getD i Value.none)) c) → P (.done (.ret .none)) { s with heap := h' }) :
    wpAny (model prog w) A (Builtin.«list.sort» ⟨[.ref a], []⟩) P E s := by
  have ha : a < s.heap.objs.size := Heap.lt_size ho
  obtain ⟨e1, ho1⟩ : ∃ e1, (s.heap.update a (Obj.mapSeq fun zz => (#[] : Array Value))).get? a = some (seqObj "list" #[] e1) := ⟨_, get?_update_seq ho fun zz => #[]⟩
  let hm := ((s.heap.update a (Obj.mapSeq fun zz => (#[] : Array Value))).push (seqObj "tuple" vs.toArray 0)).push (seqObj "list" #[] 0)
  have kupd : ∀ (f : Array Value → Array Value) b o, b ≠ a → s.heap.get? b = some o → (s.heap.update a (Obj.mapSeq f)).get? b = some o := fun f b o hb e => (Heap.get?_update_other _ _ (Ne.symm hb)).trans e
  have keep : ∀ b o, b ≠ a → s.heap.get? b = some o → hm.get? b = some o := fun b o hb e => Heap.get?_push_of_some _ (Heap.get?_push_of_some _ (kupd _ b o hb e))
  have hoa : hm.get? a = some (seqObj "list" #[] e1) := Heap.get?_push_of_some _ (Heap.get?_push_of_some _ ho1)
  have fin : ∀ p, PermN vs.length p → UpTo rank p vs.length → ∃ c, (hm.update a (Obj.mapSeq fun zz => List.toArray (p.toList.map fun i => vs.getD i Value.none))).get? a = some (seqObj "list" (List.toArray (p.toList.map fun i => vs.getD i Value.none)) c) ∧
      P (.done (.ret .none)) { s with heap := hm.update a (Obj.mapSeq fun zz => List.toArray (p.toList.map fun i => vs.getD i Value.none)) } := fun p hp hu => by
    obtain ⟨c2, hc2⟩ : ∃ c2, (hm.update a (Obj.mapSeq fun zz => List.toArray (p.toList.map fun i => vs.getD i Value.none))).get? a = some (seqObj "list" (List.toArray (p.toList.map fun i => vs.getD i Value.none)) c2) := ⟨_, get?_update_seq hoa fun zz => List.toArray (p.toList.map fun i => vs.getD i Value.none)⟩
    exact ⟨c2, hc2, h p _ c2 hp hu (fun b o hb e => (Heap.get?_update_other _ _ (Ne.symm hb)).trans (keep b o hb e)) hc2⟩
  rw [list_sort_plain]
  refine wpAny_bind (listItems_at ho rfl ?_)
  refine wpAny_bind (listUpdate_at ho rfl ?_ (by rw [List.size_toArray, sizeLine_eq]; omega) (Nat.zero_le _))
  refine wpAny_bind (seqEpoch_at ho1 rfl ?_)
  refine wpAny_bind (wpAny_newTuple ?_ (by show vs.length ≤ _; rw [sizeLine_eq]; omega))
  refine wpAny_bind (wpAny_newList ?_ (Nat.zero_le _))
  refine wpAny_holding ?_
  show wpAny (model prog w) A _ P E { s with heap := hm }
  dsimp only
  by_cases h2 : 2 ≤ vs.length
  · have hn2 : ¬ vs.toArray.size < 2 := by rw [List.size_toArray]; omega
    rw [if_neg hn2, if_neg hn2]
    obtain ⟨κ, hκ, hA⟩ := hk h2 hm keep
    refine wpAny_bind (wpAny_mono (hκ (fun κ' s' => κ' = κ ∧ s' = { s with heap := hm }) ⟨rfl, rfl⟩) ?_ fun zz zz x => x.elim)
    rintro _ _ ⟨rfl, rfl⟩
    refine wpAny_bind (wpAny_mono (kat_run (Q := fun st' s' => s' = { s with heap := hm } ∧ ∃ p : Array Nat, PermN vs.length p ∧ UpTo rank p vs.length ∧ arrOf st' = p.map (kas_item (vs.toArray.zip vs.toArray)) ∧ failedOf st' = none)
      (G := fun p s' => s' = { s with heap := hm } ∧ PermN vs.length p ∧ UpTo rank p vs.length) rfl h2 h64 (fun p' st' s' a1 a2 a3 a4 => ⟨a4.1, p', a4.2.1, a4.2.2, a2, a3⟩) (sort_wp hA fun p q1 q2 => ⟨rfl, q1, q2⟩)) ?_ fun zz zz e => e)
    rintro ⟨⟨⟩, st'⟩ s' ⟨rfl, p, hp, hu, har, hf⟩
    dsimp only
    have hout := kat_snds (ks := vs) (vs := vs) rfl har
    obtain ⟨c2, hc2, hP⟩ := fin p hp hu
    rw [hout]
    refine wpAny_bind (seqEpoch_at hoa rfl ?_)
    refine wpAny_bind (listUpdate_at hoa rfl ?_ (Nat.zero_le _) (by rw [List.size_toArray, List.length_map, Array.length_toList, hp.size, sizeLine_eq]; omega))
    rw [hf]
    simp only [bne_self_eq_false, Bool.false_eq_true, if_false]
    exact wpAny_pure hP
  · have hn2 : vs.toArray.size < 2 := by rw [List.size_toArray]; omega
    rw [if_pos hn2, if_pos hn2]
    refine wpAny_bind (wpAny_pure ?_)
    rw [StateT.run_pure]
    refine wpAny_bind (wpAny_pure ?_)
    dsimp only
    obtain ⟨c2, hc2, hP⟩ := fin (List.toArray (List.range vs.length)) (by show (List.toArray (List.range vs.length)).toList.Perm _; rw [List.toList_toArray]) (fun i j hij hj => by omega)
    have eo : (List.toArray (List.range vs.length)).toList.map (fun i => vs.getD i Value.none) = vs := by rw [List.toList_toArray]; exact perm_small h2
    rw [eo] at hc2 hP
    have hz : (vs.toArray.zip vs.toArray).map (fun zz => zz.2) = vs.toArray := by
      apply Array.toList_inj.mp
      simp [List.map_snd_zip]
    have ez : (arrOf (SortSt.mk' general' (vs.toArray.zip vs.toArray) #[] 7 none)).map (fun zz => zz.2) = vs.toArray := hz
    rw [ez]
    refine wpAny_bind (seqEpoch_at hoa rfl ?_)
    refine wpAny_bind (listUpdate_at hoa rfl ?_ (Nat.zero_le _) (by rw [List.size_toArray, sizeLine_eq]; omega))
    simp only [bne_self_eq_false, Bool.false_eq_true, if_false]
    exact wpAny_pure hP
theorem count_lt {α : Type} (p q : α → Bool) (hpq : ∀ x, p x = true → q x = true) : ∀ {l : List α} {a : α}, a ∈ l → q a = true → p a = false → l.countP p < l.countP q
  | x :: r, a, ha, h1, h2 => by
    have hle : ∀ l : List α, l.countP p ≤ l.countP q := fun l => by
      induction l with
      | nil => exact Nat.le_refl _
      | cons y t ih =>
        rw [List.countP_cons, List.countP_cons]
        cases hy : p y with
        | true => rw [hpq y hy]; omega
        | false => cases q y <;> simp <;> omega
    rw [List.countP_cons, List.countP_cons]
    rcases List.mem_cons.mp ha with rfl | ha
    · rw [h1, h2]
      have := hle r
      simp
      omega
    · have ih := count_lt p q hpq ha h1 h2
      cases hy : p x with
      | true => rw [hpq x hy]; omega
      | false => cases q x <;> simp <;> omega
noncomputable abbrev sLt (x y : Str) : Prop := x.cps.toList < y.cps.toList
noncomputable def rkOf (keys : List Str) (x : Str) : Nat := keys.countP fun y => decide (sLt y x)
theorem rk_lt {keys : List Str} {x y : Str} (hx : x ∈ keys) (h : sLt x y) : rkOf keys x < rkOf keys y :=
  count_lt _ _ (fun z hz => by simp only [decide_eq_true_eq] at *; exact List.lt_trans hz h) hx (by simpa using h) (by simpa using List.lt_irrefl _)
theorem sLt_total {x y : Str} (h : x ≠ y) : sLt x y ∨ sLt y x := by
  by_cases h1 : sLt x y
  · exact .inl h1
  · right
    rcases Classical.em (sLt y x) with h2 | h2
    · exact h2
    · exfalso
      have e : x.cps.toList = y.cps.toList := List.le_antisymm (List.not_lt.mp h2) (List.not_lt.mp h1)
      apply h
      cases x; cases y
      congr 1
      exact Array.toList_inj.mp e
theorem rk_iff {keys : List Str} {x y : Str} (hx : x ∈ keys) (hy : y ∈ keys) : sLt x y ↔ rkOf keys x < rkOf keys y := by
  refine ⟨rk_lt hx, fun h => ?_⟩
  by_cases e : x = y
  · subst e; exact absurd h (Nat.lt_irrefl _)
  · rcases sLt_total e with q | q
    · exact q
    · have := rk_lt hy q; omega
theorem rk_inj {keys : List Str} {x y : Str} (hx : x ∈ keys) (hy : y ∈ keys) (h : rkOf keys x = rkOf keys y) : x = y := by
  rcases Classical.em (x = y) with e | e
  · exact e
  · rcases sLt_total e with q | q
    · have := rk_lt hx q; omega
    · have := rk_lt hy q; omega
noncomputable def PairsAt (h : Heap) (vs : List Value) (es : List (Str × Str)) : Prop := vs.length = es.length ∧ ∀ (i : Nat) (e : Str × Str), es[i]? = some e → ∃ a t u, vs[i]? = some (.ref a) ∧ h.get? a = some { cls := .type "tuple", data := .seq #[.str e.1 t, .str e.2 u] }
theorem PairsAt.keep {h h' : Heap} {vs : List Value} {es : List (Str × Str)} (x : PairsAt h vs es) (k : ∀ (b : Addr) (o : Obj), (∃ i : Nat, vs[i]? = some (Value.ref b)) → h.get? b = some o → h'.get? b = some o) : PairsAt h' vs es :=
  ⟨x.1, fun i e he => let ⟨a, t, u, h1, h2⟩ := x.2 i e he; ⟨a, t, u, h1, k _ _ ⟨i, h1⟩ h2⟩⟩
theorem PairsAt.asks {vs : List Value} {es : List (Str × Str)} (x : PairsAt s.heap vs es) (hn : (es.map (fun zz => zz.1)).Nodup) (h2 : 2 ≤ vs.length) :
    Asks vs.length (fun i => rkOf (es.map (fun zz => zz.1)) ((es.map (fun zz => zz.1)).getD i Str.empty)) (kas_ask prog w A (tuples' true) vs) s := by
  have hl := x.1
  have at_ : ∀ i, i < vs.length → ∃ e, es[i]? = some e ∧ (es.map (fun zz => zz.1)).getD i Str.empty = e.1 ∧ e.1 ∈ es.map (fun zz => zz.1) := fun i hi => by
    have hi' : i < es.length := by omega
    refine ⟨es[i], List.getElem?_eq_getElem hi', ?_, List.mem_map_of_mem (List.getElem_mem hi')⟩
    rw [List.getD_eq_getElem?_getD, List.getElem?_map, List.getElem?_eq_getElem hi']
    rfl
  refine ⟨by omega, fun i j hi hj Cn hC => ?_, fun i j hi hj he => ?_⟩
  · obtain ⟨ei, hei, gi, mi⟩ := at_ i hi
    obtain ⟨ej, hej, gj, mj⟩ := at_ j hj
    obtain ⟨a, t, u, q1, q2⟩ := x.2 i ei hei
    obtain ⟨a', t', u', r1, r2⟩ := x.2 j ej hej
    have hiff := rk_iff mi mj
    unfold kas_ask
    have f1 : vs.getD i Value.none = .ref a := by rw [List.getD_eq_getElem?_getD, q1]; rfl
    have f2 : vs.getD j Value.none = .ref a' := by rw [List.getD_eq_getElem?_getD, r1]; rfl
    rw [f1, f2]
    refine kat_lt q2 rfl r2 rfl ?_
    show KatLex prog w A true _ Cn [(.str ei.1 t, .str ej.1 t'), (.str ei.2 u, .str ej.2 u')] 0 s
    have hC' : Cn (decide (rkOf (es.map (fun zz => zz.1)) ei.1 < rkOf (es.map (fun zz => zz.1)) ej.1)) s := by
      have := hC
      simp only [gi, gj] at this
      exact this
    refine kat_cons (wpAny_eqBool_str ?_)
    by_cases he : ei.1 = ej.1
    · have hij : i = j := by
        have : (es.map (fun zz => zz.1))[i]? = (es.map (fun zz => zz.1))[j]? := by rw [List.getElem?_map, List.getElem?_map, hei, hej]; simp [he]
        have hi' : i < (es.map (fun zz => zz.1)).length := by rw [List.length_map]; omega
        have hj' : j < (es.map (fun zz => zz.1)).length := by rw [List.length_map]; omega
        rw [List.getElem?_eq_getElem hi', List.getElem?_eq_getElem hj'] at this
        have this := Option.some.inj this
        rcases Nat.lt_trichotomy i j with q | q | q
        · exact absurd this (List.pairwise_iff_getElem.mp hn i j hi' hj' q)
        · exact q
        · exact absurd this.symm (List.pairwise_iff_getElem.mp hn j i hj' hi' q)
      subst hij
      rw [hei] at hej
      cases hej
      simp only [decide_true]
      refine kat_yes (kat_cons (wpAny_eqBool_str ?_))
      simp only [decide_true]
      refine kat_yes (kat_nil ?_)
      have : (decide ((#[Value.str ei.1 t, Value.str ei.2 u] : Array Value).size < (#[Value.str ei.1 t', Value.str ei.2 u'] : Array Value).size)) = decide (rkOf (es.map (fun zz => zz.1)) ei.1 < rkOf (es.map (fun zz => zz.1)) ei.1) := by simp
      rw [this]; exact hC'
    · rw [decide_eq_false he]
      refine kat_no ?_
      show wpAny _ _ (oneLt' true _ _) _ _ _
      refine oneLt_str ?_
      have : decide (ei.1.cps.toList < ej.1.cps.toList) = decide (rkOf (es.map (fun zz => zz.1)) ei.1 < rkOf (es.map (fun zz => zz.1)) ej.1) := decide_eq_decide.mpr hiff
      rw [this]; exact hC'
  · obtain ⟨ei, hei, gi, mi⟩ := at_ i hi
    obtain ⟨ej, hej, gj, mj⟩ := at_ j hj
    simp only [gi, gj] at he
    have he := rk_inj mi mj he
    have hi' : i < (es.map (fun zz => zz.1)).length := by rw [List.length_map]; omega
    have hj' : j < (es.map (fun zz => zz.1)).length := by rw [List.length_map]; omega
    have e1 : (es.map (fun zz => zz.1))[i]? = some ei.1 := by rw [List.getElem?_map, hei]; rfl
    have e2 : (es.map (fun zz => zz.1))[j]? = some ej.1 := by rw [List.getElem?_map, hej]; rfl
    rw [List.getElem?_eq_getElem hi'] at e1
    rw [List.getElem?_eq_getElem hj'] at e2
    have e3 : (es.map (fun zz => zz.1))[i] = (es.map (fun zz => zz.1))[j] := (Option.some.inj e1).trans (he.trans (Option.some.inj e2).symm)
    rcases Nat.lt_trichotomy i j with q | q | q
    · exact absurd e3 (List.pairwise_iff_getElem.mp hn i j hi' hj' q)
    · exact q
    · exact absurd e3.symm (List.pairwise_iff_getElem.mp hn j i hj' hi' q)
theorem PairsAt.kind {vs : List Value} {es : List (Str × Str)} (x : PairsAt s.heap vs es) (h2 : 2 ≤ vs.length) (Q : SortKind → Shared → Prop) (h : Q (tuples' true) s) : wpAny (model prog w) A (keyKind' vs.toArray) Q (fun zz zz => False) s := by
  obtain ⟨hl, hx⟩ := x
  have key : ∀ (vs : List Value) (es : List (Str × Str)), vs.length = es.length → (∀ (i : Nat) (e : Str × Str), es[i]? = some e → ∃ a t u, vs[i]? = some (.ref a) ∧ s.heap.get? a = some { cls := .type "tuple", data := .seq #[.str e.1 t, .str e.2 u] }) →
      ∃ fs : List Value, fs.length = vs.length ∧ KatTups s.heap vs fs ∧ ∀ v ∈ fs, ∃ x t, v = .str x t := by
    intro vs
    induction vs with
    | nil => intro es hl hx; exact ⟨[], rfl, KatTups.nil, by simp⟩
    | cons v vs ih =>
      intro es hl hx
      cases es with
      | nil => simp at hl
      | cons e es =>
        obtain ⟨a, t, u, q1, q2⟩ := hx 0 e rfl
        obtain ⟨fs, f1, f2, f3⟩ := ih es (by simpa using hl) (fun i e' he => by simpa using hx (i + 1) e' (by simpa using he))
        have hv : v = .ref a := by simpa using q1
        subst hv
        refine ⟨.str e.1 t :: fs, by simp [f1], KatTups.cons q2 rfl rfl rfl f2, fun v hv => ?_⟩
        rcases List.mem_cons.mp hv with rfl | hv
        · exact ⟨_, _, rfl⟩
        · exact f3 v hv
  obtain ⟨fs, f1, f2, f3⟩ := key vs es hl hx
  refine kat_kind (T := .type "str") f2 (by omega) (fun v hv => ?_) rfl ?_
  · obtain ⟨x, t, rfl⟩ := f3 v hv
    exact Looks.of_pure rfl
  · exact h
end
end Mine
end
section
set_option maxRecDepth 100000
set_option linter.unusedVariables false
namespace Mine
open PySem PySem.Spec PySem.Calls PyProof.Rows PySem.W

noncomputable abbrev tupS (e : Str × Str) : AV := .tup [.str e.1, .str e.2]
section
variable {C : Cx} {L : Led} {n : Nat} {Q : AV → Led → Prop}
theorem call_sorted_items {d : Addr} {es : List (Str × Str)} (hm : (d, .dict (es.map fun e => (e.1, AV.str e.2))) ∈ L) (hz : es.length < 64)
    (h : ∀ ys : List (Str × Str), ys.Perm es → ys.Pairwise (fun a b => sLt a.1 b.1) → Q (.lst (ys.map tupS)) L) : CALL C n (.cst (.builtin "sorted")) [.recd "dict_items" [.obj d]] [] L Q :=
  fun A g s vf vs kv r R hf hv hk => by
    cases hf; cases hk
    apply hv.eOne; intro v0 q1
    obtain ⟨b, rfl, hb⟩ := view_at q1
    obtain ⟨kvs, hd, hkk, hvs⟩ := led_dict R hm
    have hkk : kvs.map (fun zz => zz.1) = es.map (fun zz => zz.1) := by rw [hkk, List.map_map]; rfl
    have hvs : VRs g (es.map fun e => AV.str e.2) (kvs.map (fun zz => zz.2)) := by rw [List.map_map] at hvs; exact hvs
    have hlen : kvs.length = es.length := by have := congrArg List.length hkk; simpa using this
    obtain ⟨ep, hat⟩ := hd.dictAt
    have hnd : (es.map (fun zz => zz.1)).Nodup := by obtain ⟨_, _, _, _, _, _, _, _, h9⟩ := hd; rw [← hkk]; exact h9
    change OpL C A (call _ [_] []) g s (VK Q)
    refine call_function_entry kind_sorted plain_sorted entry_sorted (args_sorted1 _) ?_
    unfold Builtin.«sorted»
    refine wpAny_bind (m := checkCount "sorted" 1 1 _) (wpAny_pure ?_)
    refine wpAny_bind (kdx_collect (A := A.in1) (knd := C.SK) (ep := ep) r.handled ⟨_, R.sub _ _ hb, rfl, rfl⟩ hat (by rw [hlen, sizeLine_eq]; omega) fun h1 tk as hk1 hl hG => ?_)
    refine wpAny_bind (wpAny_newList ?_ (by rw [List.length_map, hl, hlen, sizeLine_eq]; omega))
    have hasl : as.length = es.length := by rw [hl, hlen]
    have P1 : PairsAt h1 (as.map Value.ref) es := by
      refine ⟨by rw [List.length_map, hasl], fun i e he => ?_⟩
      have hi : i < as.length := by rw [hasl]; exact (List.getElem?_eq_some_iff.mp he).1
      obtain ⟨key, k, x, e1, e2, e3⟩ := hG.pairs i as[i] (List.getElem?_eq_getElem hi)
      have hk1 : k = e.1 := by
        have := congrArg (fun l : List Str => l[i]?) hkk
        simp only [List.getElem?_map, he, e1, Option.map_some] at this
        exact Option.some.inj this
      subst hk1
      obtain ⟨t, rfl⟩ := Value.isStrOf_shape (show Value.isStrOf e.1 key = true from e2)
      obtain ⟨v', ev, hv'⟩ := hvs.get (i := i) (x := .str e.2) (by rw [List.getElem?_map, he]; rfl)
      rw [List.getElem?_map, e1] at ev
      cases ev
      cases hv' with
      | str _ u => exact ⟨as[i], t, u, by rw [List.getElem?_map, List.getElem?_eq_getElem hi]; rfl, e3⟩
    have hlo : ∀ a ∈ as, s.heap.objs.size < a ∧ a < h1.objs.size := fun a ha => ⟨hG.above a ha, hG.there ha⟩
    have hob := Heap.get?_push_size h1 (o := seqObj "list" (List.toArray (as.map Value.ref)) 0) rfl
    let D := h1.objs.size
    show wpAny _ _ _ _ _ { s with heap := h1.push (seqObj "list" (List.toArray (as.map Value.ref)) 0), toks := tk }
    refine wpAny_bind (wpAny_holding (wpAny_call_entry slot_list_sort ⟨_, hob, rfl⟩ entry_list_sort ?body (args_list_sort _)))
    case body =>
      refine sort_tree (s := { s with heap := h1.push (seqObj "list" (List.toArray (as.map Value.ref)) 0), toks := tk }) (vs := as.map Value.ref) (rank := fun i => rkOf (es.map (fun zz => zz.1)) ((es.map (fun zz => zz.1)).getD i Str.empty)) hob (by rw [List.length_map, hasl]; omega) (fun h2 h' keep => ?_) (fun p h' c hp hu keep hc => ?_)
      · have P2 : PairsAt h' (as.map Value.ref) es := P1.keep fun b o ⟨i, hi⟩ e => keep b o (by
          rw [List.getElem?_map] at hi
          obtain ⟨a, ha, e2⟩ := Option.map_eq_some_iff.mp hi
          cases e2
          exact Nat.ne_of_lt (hlo _ (List.mem_of_getElem? ha)).2) (Heap.get?_push_of_some _ e)
        exact ⟨tuples' true, fun Q hq => PairsAt.kind (s := { s with heap := h', toks := tk }) P2 h2 Q hq, PairsAt.asks (s := { s with heap := h', toks := tk }) P2 hnd h2⟩
      · refine ⟨.none, rfl, wpAny_pure ⟨.ref D, rfl, ?_⟩⟩
        have hvl : (as.map Value.ref).length = es.length := by rw [List.length_map, hasl]
        rw [hvl] at hp hu
        have kle : Le s.heap h' := fun b o e => keep b o (Nat.ne_of_lt (Heap.lt_size (hk1 _ _ e))) (Heap.get?_push_of_some _ (hk1 _ _ e))
        have nosL : ∀ a, s.heap.get? a = none → a ∉ ads (C.all L) := fun a ha hmm => by
          obtain ⟨q, hq, rfl⟩ := List.mem_map.mp hmm
          obtain ⟨o, ho, _⟩ := R.led q hq
          rw [ha] at ho; cases ho
        have hDn : s.heap.get? D = none := by
          cases e : s.heap.get? D with
          | none => rfl
          | some o => exact absurd (Heap.lt_size (hk1 _ _ e)) (Nat.lt_irrefl _)
        have R2 : RepL C g L { s with heap := h', toks := tk } := R.heapAll kle tk
        have inW : ∀ a o, h'.get? a = some o → s.heap.get? a = none → (hideAll h' (ads (C.all L))).get? a = some o := fun a o e en => hideAll_get _ e (nosL a en)
        let f : Nat → Str × Str := fun i => es.getD i (Str.empty, Str.empty)
        have hrange : (List.range es.length).map f = es := by
          apply List.ext_getElem?
          intro i
          rw [List.getElem?_map]
          rcases Nat.lt_or_ge i es.length with q | q
          · rw [List.getElem?_range q, Option.map_some, List.getElem?_eq_getElem q]
            show some (es.getD i _) = _
            rw [List.getD_eq_getElem?_getD, List.getElem?_eq_getElem q]; rfl
          · rw [List.getElem?_eq_none (by simpa using q), List.getElem?_eq_none q]; rfl
        refine ⟨hideAll h' (ads (C.all L)), L, R2.wide, R2.toWide, .lst ((p.toList.map f).map tupS), .lst (inW D _ hc hDn) rfl rfl ?_, h (p.toList.map f) ?_ ?_⟩
        · show VRs _ ((p.toList.map f).map tupS) (List.toArray (p.toList.map fun i => (as.map Value.ref).getD i Value.none)).toList
          rw [List.toList_toArray, List.map_map]
          have key : ∀ l : List Nat, (∀ i ∈ l, i < es.length) → VRs (hideAll h' (ads (C.all L))) (l.map (tupS ∘ f)) (l.map fun i => (as.map Value.ref).getD i Value.none) := by
            intro l
            induction l with
            | nil => intro _; exact .nil
            | cons i r ih =>
              intro hi
              have hi0 := hi i List.mem_cons_self
              refine .cons ?_ (ih fun j hj => hi j (List.mem_cons_of_mem _ hj))
              obtain ⟨a, t, u, q1, q2⟩ := P1.2 i es[i] (List.getElem?_eq_getElem hi0)
              have e1 : (as.map Value.ref).getD i Value.none = .ref a := by rw [List.getD_eq_getElem?_getD, q1]; rfl
              have e2 : f i = es[i] := by show es.getD i _ = _; rw [List.getD_eq_getElem?_getD, List.getElem?_eq_getElem hi0]; rfl
              show VR _ (tupS (f i)) ((as.map Value.ref).getD i Value.none)
              rw [e1, e2]
              have ham : a ∈ as := by
                rw [List.getElem?_map] at q1
                obtain ⟨a', ha', e3⟩ := Option.map_eq_some_iff.mp q1
                cases e3
                exact List.mem_of_getElem? ha'
              have hn1 : s.heap.get? a = none := by
                cases e : s.heap.get? a with
                | none => rfl
                | some o => exact absurd (Heap.lt_size e) (Nat.not_lt.mpr (Nat.le_of_lt (hlo a ham).1))
              exact .tup (inW a _ (keep a _ (Nat.ne_of_lt (hlo a ham).2) (Heap.get?_push_of_some _ q2)) hn1) rfl rfl (.cons (.str _ _) (.cons (.str _ _) .nil))
          exact key _ fun i hi => List.mem_range.mp (hp.mem_iff.mp hi)
        · have := List.Perm.map f hp
          rw [hrange] at this
          exact this
        · rw [List.pairwise_map]
          refine List.pairwise_iff_getElem.mpr fun i j hi hj hij => ?_
          have hps : p.size = es.length := PermN.size hp
          have hi' : i < p.size := by simpa using hi
          have hj' : j < p.size := by simpa using hj
          have u := hu i j hij (by omega)
          unfold KY at u
          have gi : p.getD i 0 = p.toList[i] := by simp [Array.getD, hi']
          have gj : p.getD j 0 = p.toList[j] := by simp [Array.getD, hj']
          rw [gi, gj] at u
          have li : p.toList[i] < es.length := List.mem_range.mp (hp.mem_iff.mp (List.getElem_mem hi))
          have lj : p.toList[j] < es.length := List.mem_range.mp (hp.mem_iff.mp (List.getElem_mem hj))
          have ek : ∀ k, k < es.length → (es.map (fun zz => zz.1)).getD k Str.empty = (f k).1 ∧ (f k).1 ∈ es.map (fun zz => zz.1) := fun k hk => by
            have e2 : f k = es[k] := by show es.getD k _ = _; rw [List.getD_eq_getElem?_getD, List.getElem?_eq_getElem hk]; rfl
            refine ⟨?_, by rw [e2]; exact List.mem_map_of_mem (List.getElem_mem hk)⟩
            rw [e2, List.getD_eq_getElem?_getD, List.getElem?_map, List.getElem?_eq_getElem hk]; rfl
          dsimp only at u
          rw [(ek _ li).1, (ek _ lj).1] at u
          exact (rk_iff (ek _ li).2 (ek _ lj).2).mpr u
end
end Mine
end
section
set_option maxRecDepth 100000
set_option linter.unusedVariables false
namespace Mine
open PySem PySem.Spec PySem.Calls PyProof.Rows PySem.W

theorem orStandIn_led (t : SetTable) (n : Nat) : (t.orStandIn n).led = t.led ∧ (t.plain = false → (t.orStandIn n).plain = false) := by
  unfold SetTable.orStandIn
  split
  · exact ⟨rfl, fun h => h⟩
  · exact ⟨rfl, fun zz => rfl⟩
theorem layNew_led (t : SetTable) (es : Array (Int × Value)) (h : Int) (x : Value) : (layNew t es h x).2.1.led = t.led ∧ (t.plain = false → (layNew t es h x).2.1.plain = false) := by
  unfold layNew
  split
  · exact ⟨(orStandIn_led _ _).1, fun hp => (orStandIn_led _ _).2 hp⟩
  · exact ⟨rfl, fun zz => rfl⟩
theorem laid_led {mask finger moves : Nat} {led plain : Bool} {hs : Array Int} {r : SetTable × Array Nat} (h : SetTable.laid mask finger moves led plain hs = some r) : r.1.led = led ∧ r.1.plain = plain := by
  unfold SetTable.laid at h
  cases hc : SetTable.layClean mask hs with
  | none => rw [hc] at h; cases h
  | some owner =>
    rw [hc] at h
    have h' := Option.some.inj h
    subst h'
    exact ⟨rfl, rfl⟩
theorem relayAll_led (t : SetTable) (es : Array (Int × Value)) (n : Nat) : (relayAll t es n).2.1.led = t.led ∧ (t.plain = false → (relayAll t es n).2.1.plain = false) := by
  unfold relayAll
  cases hr : t.relaid (es.map (fun zz => zz.1)) n with
  | none => exact ⟨rfl, fun zz => rfl⟩
  | some r =>
    obtain ⟨t', order⟩ := r
    have hl := laid_led hr
    dsimp only
    split
    · exact ⟨hl.1, fun hp => hl.2.trans hp⟩
    · exact ⟨rfl, fun zz => rfl⟩

structure SObj (C : Cx) (led : Bool) (l : List (Str × Tok)) (o : Obj) : Prop where
  ex : o.ExactSet
  data : ∃ es ep t, o.data = .set es ep t ∧ t.fits es.size = true ∧ ElemsOf C.SK es.toList ∧ (es.toList.map (fun zz => zz.2)).Perm (strValues l) ∧ t.led = led ∧ (l ≠ [] → t.plain = false)
theorem strValues_append (l l' : List (Str × Tok)) : strValues (l ++ l') = strValues l ++ strValues l' := List.map_append ..
theorem sobj_new {C : Cx} (led : Bool) : SObj C led [] { cls := .type "set", dict := none, data := .set #[] 0 (.fresh 0 0 led) } :=
  ⟨⟨rfl, rfl, rfl⟩, #[], 0, _, rfl, rfl, fun e he => by simp at he, by simp [strValues], rfl, fun h => absurd rfl h⟩
section
variable {C : Cx} {A : Around} {E : Value → Shared → Prop} {s : Shared}
theorem addTail {g : Bool → Sem Unit} (hg : ∀ (b : Bool) (s₁ : Shared) (Q' : Unit → Shared → Prop), Q' () s₁ → wpAny C.M A (g b) Q' E s₁)
    {a : Addr} {o : Obj} {es : Array (Int × Value)} {ep : Nat} {t : SetTable} (ho : s.heap.get? a = some o) (hex : o.ExactSet) (hd : o.data = .set es ep t)
    {es1 : Array (Int × Value)} {t2 : SetTable} {led : Bool} {l : List (Str × Tok)} (hel1 : ElemsOf C.SK es1.toList) (hp1 : (es1.toList.map (fun zz => zz.2)).Perm (strValues l)) (hl1 : t2.led = led) (hpl : t2.plain = false)
    (hb1 : es1.size < scanBound) (hf2 : t2.fits es1.size = true) {wasDummy : Bool} {R : Option Bool → Shared → Prop}
    (h : ∀ h' o', Heap.SameBut a s.heap h' → h'.get? a = some o' → SObj C led l o' → R (some true) { s with heap := h' }) :
    wpAny C.M A (do
        storeSet a es1 t2
        if (!wasDummy && t2.tooFull) = true then do
            g (relayAll t2 es1 (SetTable.grown es1.size)).2.2
            storeSet a (relayAll t2 es1 (SetTable.grown es1.size)).1 (relayAll t2 es1 (SetTable.grown es1.size)).2.1
            pure (some true)
          else pure (some true)) R E s := by
  refine wpAny_bind (wpAny_storeSet_of ho hd ?_ (fits_of_scanBound hb1))
  have ho1 : (s.heap.update a (Obj.putSet es1 t2)).get? a = some { o with data := .set es1 (ep + 1) t2 } := by
    have := Heap.get?_update_self (Obj.putSet es1 t2) ho (by rw [putSet_of es1 t2 hd]; rfl)
    rw [putSet_of es1 t2 hd] at this; exact this
  have hsb1 := Heap.SameBut.update s.heap a (Obj.putSet es1 t2)
  split
  · have hp := relayAll_perm t2 es1 (SetTable.grown es1.size)
    have hfr := relayAll_fits t2 es1 (SetTable.grown es1.size)
    have hle := relayAll_led t2 es1 (SetTable.grown es1.size)
    generalize hRl : relayAll t2 es1 (SetTable.grown es1.size) = Rl at hp hfr hle ⊢
    obtain ⟨es2, t3, gave2⟩ := Rl
    dsimp only at hp hfr hle ⊢
    have hsz : es2.size = es1.size := by rw [← Array.length_toList, hp.length_eq, Array.length_toList]
    have hb2 : es2.size < scanBound := by rw [hsz]; exact hb1
    refine wpAny_bind (hg _ _ _ ?_)
    refine wpAny_bind (wpAny_storeSet_of ho1 rfl ?_ (fits_of_scanBound hb2))
    have ho2 : ((s.heap.update a (Obj.putSet es1 t2)).update a (Obj.putSet es2 t3)).get? a = some { o with data := .set es2 (ep + 1 + 1) t3 } := by
      have := Heap.get?_update_self (Obj.putSet es2 t3) ho1 (by rw [putSet_of es2 t3 rfl]; rfl)
      rw [putSet_of es2 t3 rfl] at this; exact this
    exact wpAny_pure (h _ _ (hsb1.trans (Heap.SameBut.update _ a _)) ho2 ⟨hex, es2, _, t3, rfl, hfr, hel1.perm hp, (hp.map _).trans hp1, hle.1.trans hl1, fun zz => hle.2 hpl⟩)
  · exact wpAny_pure (h _ _ hsb1 ho1 ⟨hex, es1, _, t2, rfl, hf2, hel1, hp1, hl1, fun zz => hpl⟩)
set_option tactic.hygienic true in
theorem add_new {a : Addr} {led : Bool} {l : List (Str × Tok)} {x : Str} {tx : Tok} {o : Obj} {Q : Bool → Shared → Prop} (ho : s.heap.get? a = some o) (S : SObj C led l o) (hx : x ∉ l.map (fun zz => zz.1)) (hb : l.length + 1 < scanBound)
    (h : ∀ h' o', Heap.SameBut a s.heap h' → h'.get? a = some o' → SObj C led (l ++ [(x, tx)]) o' → Q true { s with heap := h' }) : wpAny C.M A (setAddHashed a (.str x tx) (C.SK.hash x)) Q E s := by
  obtain ⟨hex, es, ep, t, hd, hf, hel, hp, hled, hpl⟩ := S
  have hkey : C.SK.is x (.str x tx) = true := by show Value.isStrOf x (.str x tx) = true; simp [Value.isStrOf]
  have hsz : es.size = l.length := by have := hp.length_eq; simpa [strValues] using this
  have hb0 : es.size < scanBound := by omega
  unfold setAddHashed setAddHashedIn
  refine wpAny_holding (wpAny_bind (wpAny_setState_of ho hd hf ?_))
  dsimp only
  rw [byScan_of (knd := C.SK) rfl hb0 hel]
  simp only [↓reduceIte]
  unfold setAddByScan
  refine wpAny_bind ?_
  refine wpAny_bind (wpAny_rule ?_)
  refine wpAny_bind (wpAny_setScan_of hkey ho hd hf hel ?_)
  have hr : List.findIdx? (fun e => C.SK.is x e.2) es.toList = none := by
    refine List.findIdx?_eq_none_iff.mpr fun e he => ?_
    have hm : e.2 ∈ es.toList.map (fun zz => zz.2) := List.mem_map_of_mem he
    obtain ⟨q, hq, e2⟩ := List.mem_map.mp (hp.mem_iff.mp hm)
    show Value.isStrOf x e.2 = false
    rw [← e2]
    have : x ≠ q.1 := fun w => hx (w ▸ List.mem_map_of_mem (f := (fun zz => zz.1)) hq)
    simp [Value.isStrOf, this]
    first | exact fun w => this w.symm | skip
  rw [hr]
  dsimp only
  have hgw : ∀ (b : Bool) {s₁ : Shared} {Q' : Unit → Shared → Prop}, Q' () s₁ → wpAny C.M A (match b with | true => rule "set.scan.the-table-gave-way" | false => pure ()) Q' E s₁ :=
    fun b s₁ Q' hq => by cases b <;> first | exact wpAny_pure hq | exact wpAny_rule hq
  have hperm := layNew_perm t es (C.SK.hash x) (.str x tx)
  have hfits := layNew_fits t es (C.SK.hash x) (.str x tx)
  have hle := layNew_led t es (C.SK.hash x) (.str x tx)
  generalize hL : layNew t es (C.SK.hash x) (.str x tx) = L at hperm hfits hle ⊢
  obtain ⟨es1, t1, wasDummy, gave⟩ := L
  dsimp only at hperm hfits hle ⊢
  rw [Array.toList_push] at hperm
  have hel1 : ElemsOf C.SK es1.toList := (hel.push hkey rfl).perm hperm
  have hp1 : (es1.toList.map (fun zz => zz.2)).Perm (strValues (l ++ [(x, tx)])) := by
    refine (hperm.map _).trans ?_
    rw [List.map_append, strValues_append]
    exact hp.append (List.Perm.refl _)
  have hb1 : es1.size < scanBound := by rw [← Array.length_toList, hperm.length_eq, List.length_append, Array.length_toList]; simp; omega
  refine wpAny_bind (hgw _ ?_)
  split
  · refine wpAny_bind ?_
    rw [hashByValue_scannable 8 rfl]
    refine wpAny_pure ?_
    refine addTail ?_ ho hex hd hel1 hp1 (led := led) ?_ ?_ hb1 ?_ ?_
    · intro b s₁ Q' hq; cases b <;> first | exact wpAny_pure hq | exact wpAny_rule hq
    · rw [if_neg (show ¬ plainKind (.str x tx) = true by simp [plainKind])]
      exact hle.1.trans hled
    · rw [if_neg (show ¬ plainKind (.str x tx) = true by simp [plainKind])]
    · rw [if_neg (show ¬ plainKind (.str x tx) = true by simp [plainKind])]
      exact SetTable.fits_plain_off hfits
    · intro h' o' hsb ho' hS'; dsimp only; exact wpAny_pure (h h' o' hsb ho' hS')
  · rename_i hpn
    refine wpAny_bind (wpAny_pure ?_)
    simp only [↓reduceIte]
    refine addTail ?_ ho hex hd hel1 hp1 (led := led) (hle.1.trans hled) (by simpa using hpn) hb1 hfits ?_
    · intro b s₁ Q' hq; cases b <;> first | exact wpAny_pure hq | exact wpAny_rule hq
    · intro h' o' hsb ho' hS'; dsimp only; exact wpAny_pure (h h' o' hsb ho' hS')
end
end Mine
end
section
set_option maxRecDepth 100000
set_option linter.unusedVariables false
namespace Mine
open PySem PySem.Spec PySem.Calls PyProof.Rows PySem.W

theorem free_one (mask i p : Nat) (hi : i ≤ mask) : SetTable.layClean.free (mask := mask) (Array.replicate (mask + 1) none) (SetTable.turns mask) i p = some i := by
  unfold SetTable.turns
  unfold SetTable.layClean.free
  have hr : i ≤ SetTable.runEnd mask i := by unfold SetTable.runEnd; split <;> omega
  obtain ⟨m, hm⟩ : ∃ m, SetTable.runEnd mask i + 1 - i = m + 1 := ⟨SetTable.runEnd mask i - i, by omega⟩
  rw [hm, List.range_succ_eq_map, List.find?_cons_of_pos]
  · rfl
  · simp [Array.getD, show i < mask + 1 by omega]
theorem layClean_one (mask : Nat) (h : Int) : SetTable.layClean mask #[h] = some ((Array.replicate (mask + 1) none).setIfInBounds (SetTable.bits h % (mask + 1)) (some 0)) := by
  unfold SetTable.layClean
  have hi : SetTable.bits h % (mask + 1) ≤ mask := by have := Nat.mod_lt (SetTable.bits h) (show 0 < mask + 1 by omega); omega
  simp [free_one _ _ _ hi]
theorem live_15 : ∀ i, i < 16 → (List.range (15 + 1)).filterMap (fun j => (((Array.replicate (15 + 1) (none : Option Nat)).setIfInBounds i (some 0)).getD j none).map (j, ·)) = [(i, 0)] := by decide +kernel
theorem live_31 : ∀ i, i < 32 → (List.range (31 + 1)).filterMap (fun j => (((Array.replicate (31 + 1) (none : Option Nat)).setIfInBounds i (some 0)).getD j none).map (j, ·)) = [(i, 0)] := by decide +kernel
theorem live_7 : ∀ i, i < 8 → (List.range (7 + 1)).filterMap (fun j => (((Array.replicate (7 + 1) (none : Option Nat)).setIfInBounds i (some 0)).getD j none).map (j, ·)) = [(i, 0)] := by decide +kernel
theorem above_31 : ∀ w, w < 32 → SetTable.sizeAbove w = 8 ∨ SetTable.sizeAbove w = 16 ∨ SetTable.sizeAbove w = 32 := by decide +kernel
theorem laid_one {mask finger moves : Nat} {led plain : Bool} {h : Int} (hm : mask = 7 ∨ mask = 15 ∨ mask = 31) : ∃ i, i ≤ mask ∧ SetTable.laid mask finger moves led plain #[h] = some ({ mask, place := #[i], dummies := #[], finger, led, moves, plain }, #[0]) := by
  refine ⟨SetTable.bits h % (mask + 1), by have := Nat.mod_lt (SetTable.bits h) (show 0 < mask + 1 by omega); omega, ?_⟩
  unfold SetTable.laid
  rw [layClean_one]
  have hi := Nat.mod_lt (SetTable.bits h) (show 0 < mask + 1 by omega)
  rcases hm with rfl | rfl | rfl
  · have := live_7 _ hi
    simp only [bind, Option.bind, pure]
    rw [this]; rfl
  · have := live_15 _ hi
    simp only [bind, Option.bind, pure]
    rw [this]; rfl
  · have := live_31 _ hi
    simp only [bind, Option.bind, pure]
    rw [this]; rfl
section
variable {C : Cx} {A : Around} {E : Value → Shared → Prop} {s : Shared}
set_option tactic.hygienic true in
theorem roomFor_one {a : Addr} {led : Bool} {x : Str} {tx : Tok} {o : Obj} {n : Nat} {Q : Unit → Shared → Prop} (ho : s.heap.get? a = some o) (S : SObj C led [(x, tx)] o) (hn : n ≤ 14)
    (h : ∀ h' o', Heap.SameBut a s.heap h' → h'.get? a = some o' → SObj C led [(x, tx)] o' → Q () { s with heap := h' }) : wpAny C.M A (setRoomFor a n) Q E s := by
  obtain ⟨hex, es, ep, t, hd, hf, hel, hp, hled, hpl⟩ := id S
  have hsz : es.size = 1 := by have := hp.length_eq; simpa [strValues] using this
  obtain ⟨e0, he0⟩ : ∃ e0, es = #[e0] := by
    obtain ⟨l⟩ := es
    cases l with
    | nil => simp at hsz
    | cons e0 r => cases r with
      | nil => exact ⟨e0, rfl⟩
      | cons _ _ => simp at hsz
  subst he0
  have hplace : t.place.size = 1 := by
    unfold SetTable.fits at hf
    simp only [Bool.and_eq_true, beq_iff_eq] at hf
    exact hf.1
  unfold setRoomFor
  refine wpAny_bind (wpAny_setState_of ho hd hf ?_)
  dsimp only
  unfold SetTable.roomFor
  split
  · rename_i wanted hw
    have hw' : wanted = (1 + n) * 2 := by
      split at hw
      · rw [hplace] at hw; exact (Option.some.inj hw).symm
      · cases hw
    have hab := above_31 wanted (by omega)
    unfold setRelay
    refine wpAny_bind (wpAny_setState_of ho hd hf ?_)
    dsimp only
    rw [if_neg (by rw [sizeLine_eq]; omega)]
    have hm : SetTable.sizeAbove wanted - 1 = 7 ∨ SetTable.sizeAbove wanted - 1 = 15 ∨ SetTable.sizeAbove wanted - 1 = 31 := by omega
    obtain ⟨i, hi, hl⟩ := laid_one (finger := t.finger) (moves := t.movedTo (SetTable.sizeAbove wanted - 1)) (led := t.led) (plain := t.plain) (h := e0.1) hm
    have hrel : t.relaid ((#[e0] : Array (Int × Value)).map (fun zz => zz.1)) wanted = some ({ mask := SetTable.sizeAbove wanted - 1, place := #[i], dummies := #[], finger := t.finger, led := t.led, moves := t.movedTo (SetTable.sizeAbove wanted - 1), plain := t.plain }, #[0]) := by
      unfold SetTable.relaid
      have e : (#[e0] : Array (Int × Value)).map (fun zz => zz.1) = #[e0.1] := by simp
      rw [e]; exact hl
    rw [hrel]
    refine wpAny_bind (wpAny_pure ?_)
    have e1 : (#[0] : Array Nat).filterMap (fun k => (#[e0] : Array (Int × Value))[k]?) = #[e0] := by rfl
    dsimp only
    rw [e1]
    refine wpAny_storeSet_of ho hd ?_ (by rw [sizeLine_eq]; show 1 ≤ _; omega)
    have ho1 := Heap.get?_update_self (Obj.putSet #[e0] { mask := SetTable.sizeAbove wanted - 1, place := #[i], dummies := #[], finger := t.finger, led := t.led, moves := t.movedTo (SetTable.sizeAbove wanted - 1), plain := t.plain }) ho (by rw [putSet_of _ _ hd]; rfl)
    rw [putSet_of _ _ hd] at ho1
    refine h _ _ (Heap.SameBut.update ..) ho1 ⟨hex, _, _, _, rfl, ?_, hel, hp, hled, hpl⟩
    unfold SetTable.fits SetTable.fill
    simp
    omega
  · exact wpAny_pure (h s.heap o (Heap.SameBut.refl _ _) ho S)
end
end Mine
end
section
set_option maxRecDepth 100000
set_option linter.unusedVariables false
namespace Mine
open PySem PySem.Spec PySem.Calls PyProof.Rows PySem.W

section
variable {C : Cx} {A : Around} {E : Value → Shared → Prop} {s : Shared}
theorem star_dict_loop {S d : Addr} {od : Obj} {es : Array DictEntry} {ep : Nat} {kvs : List (Str × Value)} {led : Bool} {t0 : Str} {Q : Unit → Shared → Prop} (hdd : od.data = .dict es ep) (hk : KeysOf C.SK es) (hp : Pairs C.SK es.toList kvs) (hne : S ≠ d)
    (hnd : (t0 :: kvs.map (fun zz => zz.1)).Nodup) (hb : kvs.length + 2 < scanBound) (s0 : Shared)
    (h : ∀ h' o' l, l.map (fun zz => zz.1) = t0 :: kvs.map (fun zz => zz.1) → h'.get? S = some o' → SObj C led l o' → Heap.SameBut S s0.heap h' → Q () { s0 with heap := h' }) :
    ∀ (n i : Nat) (hp0 : Heap) (o : Obj) (l : List (Str × Tok)), es.size - i = n → i ≤ es.size → hp0.get? d = some od → hp0.get? S = some o → SObj C led l o → l.map (fun zz => zz.1) = t0 :: (kvs.take i).map (fun zz => zz.1) → Heap.SameBut S s0.heap hp0 →
      wpAny C.M A (forIn (List.range' i n) PUnit.unit fun i (_ : PUnit) => (do
          let l' ← dictEntries d
          match l'[i]? with
            | some e => do
              holding [e.key] (do let _ ← setAddHashed S e.key e.hash; pure ())
              let ep' ← dictEpoch d
              if (ep' != ep) = true then do
                  (unsupported "dict.changed-during-merge" : Sem PUnit)
                  pure (ForInStep.yield PUnit.unit)
                else pure (ForInStep.yield PUnit.unit)
            | _ => do
              (unsupported "dict.changed-during-merge" : Sem PUnit)
              pure (ForInStep.yield PUnit.unit) : Sem (ForInStep PUnit))) Q E { s0 with heap := hp0 } := by
  have hlen : kvs.length = es.size := by rw [← hp.length]; simp
  intro n
  induction n with
  | zero =>
    intro i hp0 o l hn hi hd ho hS hl hsb
    have hin : i = es.size := by omega
    rw [List.range'_zero, List.forIn_nil]
    rw [List.take_of_length_le (by omega)] at hl
    exact wpAny_pure (h hp0 o l hl ho hS hsb)
  | succ n ih =>
    intro i hp0 o l hn hi hd ho hS hl hsb
    have hlt : i < es.size := by omega
    rw [List.range'_succ, List.forIn_cons]
    refine wpAny_bind ?_
    refine wpAny_bind (wpAny_dictEntries (s := { s0 with heap := hp0 }) hd hdd ?_)
    rw [Array.getElem?_eq_getElem hlt]
    have hkv : kvs[i]? = some (kvs[i]'(by omega)) := List.getElem?_eq_getElem _
    obtain ⟨hkey, _⟩ := hp.get? (e := es[i]) (by simp [hlt]) hkv
    obtain ⟨k', hkey', hhash⟩ := hk es[i] (Array.getElem_mem hlt)
    obtain rfl := C.SK.inj _ _ _ hkey' hkey
    obtain ⟨tx, hx⟩ := Value.isStrOf_shape (show Value.isStrOf (kvs[i]'(by omega)).1 es[i].key = true from hkey)
    have hnew : (kvs[i]'(by omega)).1 ∉ l.map (fun zz => zz.1) := by
      rw [hl]
      have hd1 := hnd
      have e : kvs.map (fun zz => zz.1) = (kvs.take i).map (fun zz => zz.1) ++ (kvs.drop i).map (fun zz => zz.1) := by rw [← List.map_append, List.take_append_drop]
      rw [e, ← List.cons_append] at hd1
      have hdis := (List.nodup_append.mp hd1).2.2
      intro hm
      refine hdis _ hm _ ?_ rfl
      rw [List.drop_eq_getElem_cons (by omega)]
      exact List.mem_cons_self
    have hll : l.length = i + 1 := by
      have := congrArg List.length hl
      simpa [List.length_take, show min i kvs.length = i by omega] using this
    refine wpAny_bind (wpAny_holding (wpAny_bind ?_))
    rw [hhash, hx]
    refine add_new (s := { s0 with heap := hp0 }) (tx := tx) ho hS hnew (by omega) fun h1 o1 hsb1 ho1 hS1 => ?_
    refine wpAny_pure ?_
    have hd1 : h1.get? d = some od := (hsb1.2 d (Ne.symm hne)).trans hd
    refine wpAny_bind (wpAny_dictEpoch (s := { s0 with heap := h1 }) hd1 hdd ?_)
    rw [if_neg (by simp)]
    refine wpAny_pure (ih (i + 1) h1 o1 _ (by omega) hlt hd1 ho1 hS1 ?_ (hsb.trans hsb1))
    rw [List.map_append, hl, List.take_add_one, hkv, List.map_append]
    rfl

theorem star_walk_loop {S d I : Addr} {kvs : List (Str × Value)} {ep : Nat} {led : Bool} {t0 : Str} {R : Result → Shared → Prop} (hh : A.handled = none) (hSd : S ≠ d) (hSI : S ≠ I) (hId : I ≠ d)
    (hnd : (t0 :: kvs.map (fun zz => zz.1)).Nodup) (hb : kvs.length + 2 < scanBound) (h0 : Heap) (g0 : Array GenState) (d0 : Drawn) (os0 : OsState)
    (hR : ∀ h' tk o' l, l.map (fun zz => zz.1) = t0 :: kvs.map (fun zz => zz.1) → h'.get? S = some o' → SObj C led l o' → (∀ b o, b ≠ S → b ≠ I → h0.get? b = some o → h'.get? b = some o) → R (.ok (.ret .none)) ⟨h', g0, d0, tk, os0⟩) :
    ∀ (n i : Nat) (hp0 : Heap) (tk : Nat) (o : Obj) (l : List (Str × Tok)), kvs.length - i = n → i ≤ kvs.length → hp0.DictAt C.SK d kvs ep → hp0.IsKeyIter I d i kvs.length ep → hp0.get? S = some o → SObj C led l o → l.map (fun zz => zz.1) = t0 :: (kvs.take i).map (fun zz => zz.1) →
      (∀ b o, b ≠ S → b ≠ I → h0.get? b = some o → hp0.get? b = some o) →
      codeAny C.M A (.builtin "set.update.loop" ⟨[.ref S, .ref I], []⟩) R ⟨hp0, g0, d0, tk, os0⟩ := by
  intro n
  induction n with
  | zero =>
    intro i hp0 tk o l hn hi hd hit ho hS hl hk
    have hin : i = kvs.length := by omega
    refine codeAny_builtin F.entry_set_update_loop ?_
    rw [Around.under_plainId F.plain_set_update_loop _]
    show wpAny _ A.in1 (pyNext (.ref I) >>= _) _ _ _
    refine wpAny_bind (wpAny_pyNext_dict_end (knd := C.SK) (show A.in1.handled = none from hh) hit hd (by rw [hin]; simp) fun h' he => ?_)
    rw [List.take_of_length_le (by omega)] at hl
    exact wpAny_pure (hR h' tk o l hl (he S o hSI ho) hS fun b o' hb1 hb2 e => he b o' hb2 (hk b o' hb1 hb2 e))
  | succ n ih =>
    intro i hp0 tk o l hn hi hd hit ho hS hl hk
    have hlt : i < kvs.length := by omega
    have hkv : kvs[i]? = some ((kvs[i]).1, (kvs[i]).2) := List.getElem?_eq_getElem hlt
    refine codeAny_builtin F.entry_set_update_loop ?_
    rw [Around.under_plainId F.plain_set_update_loop _]
    show wpAny _ A.in1 (pyNext (.ref I) >>= _) _ _ _
    refine wpAny_bind (wpAny_pyNext_dict_item (knd := C.SK) hit hd hkv fun key h1 hkey hit1 hsb1 => ?_)
    obtain ⟨tx, rfl⟩ := Value.isStrOf_shape (show Value.isStrOf (kvs[i]).1 key = true from hkey)
    show wpAny _ A.in1 (holding [.str (kvs[i]).1 tx] (setAdd S (.str (kvs[i]).1 tx)) >>= _) _ _ _
    refine wpAny_bind (wpAny_holding ?_)
    unfold setAdd
    refine wpAny_holding (wpAny_bind (C.SK.pyHash hkey ?_))
    have hnew : (kvs[i]).1 ∉ l.map (fun zz => zz.1) := by
      rw [hl]
      have hd1 := hnd
      have e : kvs.map (fun zz => zz.1) = (kvs.take i).map (fun zz => zz.1) ++ (kvs.drop i).map (fun zz => zz.1) := by rw [← List.map_append, List.take_append_drop]
      rw [e, ← List.cons_append] at hd1
      have hdis := (List.nodup_append.mp hd1).2.2
      intro hm
      refine hdis _ hm _ ?_ rfl
      rw [List.drop_eq_getElem_cons (by omega)]
      exact List.mem_cons_self
    have hll : l.length = i + 1 := by
      have := congrArg List.length hl
      simpa [List.length_take, show min i kvs.length = i by omega] using this
    refine add_new (s := ⟨h1, g0, d0, tk + 1, os0⟩) (tx := tx) ((hsb1.2 S hSI).trans ho) hS hnew (by omega) fun h2 o2 hsb2 ho2 hS2 => ?_
    have hkeep : ∀ b o, b ≠ S → b ≠ I → hp0.get? b = some o → h2.get? b = some o := fun b o hb1 hb2 e => (hsb2.2 b hb1).trans ((hsb1.2 b hb2).trans e)
    obtain ⟨od, es, hod, q1, q2, q3, q4, q5⟩ := hd
    obtain ⟨oi, hoi, r1, r2⟩ := hit1
    refine wpAny_pure ⟨plainId_quiet F.plain_set_update_loop _, ih (i + 1) h2 _ o2 _ (by omega) hlt ⟨od, es, hkeep d od (Ne.symm hSd) (Ne.symm hId) hod, q1, q2, q3, q4, q5⟩ ⟨oi, (hsb2.2 I (Ne.symm hSI)).trans hoi, r1, r2⟩ ho2 hS2 ?_ fun b o hb1 hb2 e => hkeep b o hb1 hb2 (hk b o hb1 hb2 e)⟩
    rw [List.map_append, hl, List.take_add_one, hkv, List.map_append]
    rfl

set_option tactic.hygienic true in
theorem display_star {S d : Addr} {o : Obj} {kvs : List (Str × Value)} {led : Bool} {t0 : Str} {x0 : Tok} {Q : Unit → Shared → Prop} (hh : A.handled = none) (hSd : S ≠ d) (hs : (d == sysModules) = false) (hd : s.heap.DictOf C.SK d kvs) (ho : s.heap.get? S = some o) (hS : SObj C led [(t0, x0)] o)
    (hnd : (t0 :: kvs.map (fun zz => zz.1)).Nodup) (hb : kvs.length ≤ 14)
    (h : ∀ h' tk o' l, l.map (fun zz => zz.1) = t0 :: kvs.map (fun zz => zz.1) → h'.get? S = some o' → SObj C led l o' → (∀ b o, b ≠ S → s.heap.get? b = some o → h'.get? b = some o) → Q () { s with heap := h', toks := tk }) :
    wpAny C.M A (setDisplayStar S (.ref d)) Q E s := by
  obtain ⟨ep, hat⟩ := hd.dictAt
  have hT := hd.typeIs
  have hb2 : kvs.length + 2 < scanBound := by unfold scanBound; omega
  unfold setDisplayStar
  dsimp only
  refine wpAny_bind (wpAny_isInstance hT PySem.F.sub_dict_set ?_)
  simp only [Bool.false_eq_true, ↓reduceIte]
  refine wpAny_bind (wpAny_isInstance hT PySem.F.sub_dict_frozenset ?_)
  refine wpAny_bind (wpAny_askSetting ?_)
  have road2 : wpAny C.M A (do
      let r ← pyIter (.ref d)
      let _ ← runValue (.builtin "set.update.loop" ⟨[.ref S, r], []⟩)
      pure ()) Q E s := by
    have hdl := hat.lt_size
    have hSl : S < s.heap.objs.size := Heap.lt_size ho
    refine wpAny_bind (wpAny_pyIter_dict (knd := C.SK) hs hat ?_)
    refine wpAny_bind (wpAny_runValue ?_)
    refine star_walk_loop (C := C) (A := A) (d := d) (I := s.heap.objs.size) (t0 := t0) (ep := ep) hh hSd (Nat.ne_of_lt hSl) (Nat.ne_of_gt hdl) hnd hb2 s.heap s.gens s.drawn s.os ?_ kvs.length 0 _ s.toks o [(t0, x0)] (by omega) (Nat.zero_le _) (hat.push _) ⟨_, Heap.get?_push_size _ rfl, rfl, rfl⟩ (Heap.get?_push_of_some _ ho) hS rfl (fun b o' hb1 hb2 e => Heap.get?_push_of_some _ e)
    intro h' tk o' l e1 e2 e3 hk
    exact wpAny_pure (h h' tk o' l e1 e2 e3 fun b o1 hb1 e => hk b o1 hb1 (Nat.ne_of_lt (Heap.lt_size e)) e)
  split
  · rename_i a he
    split at he
    · cases he
    · cases he
      refine wpAny_bind (wpAny_typeOf hT ?_)
      simp only [beq_self_eq_true, ↓reduceIte]
      refine wpAny_bind (wpAny_rule ?_)
      rw [if_neg (by rw [hs]; exact Bool.false_ne_true)]
      obtain ⟨od, es, hod, q1, q2, q3, q4, q5⟩ := id hat
      have hlen : kvs.length = es.size := by rw [← q4.length]; simp
      refine wpAny_bind (wpAny_dictEpoch hod q2 ?_)
      refine wpAny_bind (wpAny_dictEntries hod q2 ?_)
      refine wpAny_bind (roomFor_one ho hS (by omega) fun h1 o1 hsb1 ho1 hS1 => ?_)
      refine wpAny_bind ?_
      rw [Std.Legacy.Range.forIn_eq_forIn_range']
      simp only [Std.Legacy.Range.size, Nat.sub_zero, Nat.add_sub_cancel, Nat.div_one]
      refine star_dict_loop (C := C) (A := A) (d := d) (S := S) (t0 := t0) q2 q3 q4 hSd hnd hb2 s ?_ es.size 0 h1 o1 [(t0, x0)] (by omega) (Nat.zero_le _) ((hsb1.2 d (Ne.symm hSd)).trans hod) ho1 hS1 rfl hsb1
      intro h' o' l e1 e2 e3 hsb
      exact wpAny_pure (h h' s.toks o' l e1 e2 e3 fun b o1 hb1 e => (hsb.2 b hb1).trans e)
  · exact road2
end
end Mine
end
section
set_option maxRecDepth 100000
set_option linter.unusedVariables false
namespace Mine
open PySem PySem.Spec PySem.Calls PyProof.Rows PySem.W

section
variable {C : Cx} {F : SF} {ρ : Vars} {L : Led} {Q : AV → Led → Prop}
noncomputable abbrev Cx.led (C : Cx) : Bool := !(C.w.params.followText "set-order")
theorem newSet_led {A : Around} {E : Value → Shared → Prop} {s : Shared} {Q : Value → Shared → Prop} (h : Q (.ref s.heap.objs.size) { s with heap := s.heap.push (setObj0 C.led) }) : wpAny C.M A (newSet (.type "set")) Q E s := by
  unfold newSet setsByText
  refine wpAny_bind (wpAny_bind (wpAny_askSetting (wpAny_pure ?_)))
  dsimp only
  simp only [newObj]
  exact wpAny_bind (wpAny_alloc (wpAny_pure h))
theorem fr_bind_lift {α β : Type} {A : Around} {env : Env} {own : List Addr} {g : Heap} {s : Shared} {t : Sem α} {f : α → Sem β} {K : α → Led → Prop} {K' : Heap → β → Led → Prop} (Fo : FrameOk C env own ρ g L s)
    (h : ∀ g₁, Le g g₁ → RepL C g₁ L s → OpL C A t g₁ s (EK K)) (hf : ∀ g' a L' s', Le g g' → FrameOk C env own ρ g' L' s' → K a L' → FrL C A env own ρ (f a) g' s' K') : FrL C A env own ρ (t >>= f) g s K' :=
  (Fo.liftE h).bind hf
theorem ev_SetStar {e1 e2 : Expr} {spos pos : Pos} {t0 : Str} {d : Addr} {es : List (Str × AV)} (hy : SysIn C) (hc : kdsCode C.K F.code = true) (hs1 : ∀ env, starEach [e1, .Starred e2 spos] env = [(false, eval e1 env), (true, eval e2 env)])
    (h1 : ∀ S o, EV C F ρ ((S, .raw o) :: L) e1 fun a L1 => a = .str t0 ∧ L1 = (S, .raw o) :: L)
    (h2 : ∀ S o, EV C F ρ ((S, .raw o) :: L) e2 fun a L1 => a = .obj d ∧ L1 = (S, .raw o) :: L)
    (hm : (d, .dict es) ∈ L) (hnd : t0 ∉ es.map (fun zz => zz.1)) (hz : es.length ≤ 14)
    (h : ∀ S o l, l.map (fun zz => zz.1) = t0 :: es.map (fun zz => zz.1) → SObj C C.led l o → Q (.obj S) ((S, .raw o) :: L)) :
    EV C F ρ L (.Set [e1, .Starred e2 spos] 0 pos) Q := fun A env own g s r0 hE Fo => by
  rw [arm_eval_Set]
  refine FrL.stand ?_
  refine wpAny_bind (kds_main (K := C.K) Fo.rep.Xs (by rw [hE.code]; exact hc) fun b => ?_)
  rw [hs1 env]
  have hroad : displayRoad 0 [e1, .Starred e2 spos] = .oneByOne := rfl
  rw [hroad]
  unfold setDisplay
  dsimp only
  rw [if_neg (show ¬ (DisplayRoad.oneByOne == DisplayRoad.constants) = true by decide)]
  refine fr_bind_lift (K := fun v L' => ∃ S, v = .ref S ∧ L' = (S, .raw (setObj0 C.led)) :: L) Fo (fun g1 k1 R1 => newSet_led ⟨g1, _, .refl g1, R1.alloc (x := .raw (setObj0 C.led)) rfl rfl s.toks, _, rfl, rfl⟩) ?_
  rintro g1 _ _ s1 k1 Fo1 ⟨S, rfl, rfl⟩
  dsimp only
  have e1' : List.findIdx? (fun x : Bool × Sem Value => x.1) (List.map (fun x : Bool × Sem Value => (x.1, do let v ← x.2; standAt pos; pure v)) [(false, eval e1 env), (true, eval e2 env)]) = some 1 := rfl
  rw [e1']
  rw [if_neg (by simp)]
  simp only [List.map_cons, List.map_nil, Option.getD_some, List.take_succ_cons, List.take_zero, List.drop_succ_cons, List.drop_zero]
  refine FrL.bind (K := fun zz zz L' => ∃ o l, l.map (fun zz => zz.1) = t0 :: es.map (fun zz => zz.1) ∧ SObj C C.led l o ∧ L' = (S, .raw o) :: L) (FrL.holding ?_) ?_
  · -- the text
    refine FrL.bind (K := fun g' vs L' => ∃ tx, vs = [Value.str t0 tx] ∧ L' = (S, .raw (setObj0 C.led)) :: L) ?_ ?_
    · show FrL C A env own ρ ((eval e1 env >>= fun v => standAt pos >>= fun zz => pure v) >>= fun v => holding [v] (evalAll []) >>= fun r => pure (v :: r)) g1 s1 _
      refine FrL.bind (K := fun g' v L' => ∃ tx, v = Value.str t0 tx ∧ L' = (S, .raw (setObj0 C.led)) :: L) (FrL.bind (h1 S _ A env own g1 s1 r0 hE Fo1) ?_) ?_
      · rintro g2 v L2 s2 k2 Fo2 ⟨a, ha, rfl, rfl⟩
        cases ha
        exact FrL.stand (FrL.pure Fo2 ⟨_, rfl, rfl⟩)
      · rintro g2 v L2 s2 k2 Fo2 ⟨tx, rfl, rfl⟩
        exact wpAny_bind (wpAny_holding (wpAny_evalAll_nil (wpAny_pure ⟨g2, _, .refl g2, Fo2, tx, rfl, rfl⟩)))
    rintro g2 vs L2 s2 k2 Fo2 ⟨tx, rfl, rfl⟩
    refine fr_bind_lift (K := fun zz L' => ∃ o, SObj C C.led [(t0, tx)] o ∧ L' = (S, .raw o) :: L) Fo2 (fun g3 k3 R3 => wpAny_holding ?_) ?_
    · rw [List.forIn_cons]
      refine wpAny_bind (wpAny_bind (wpAny_bind ?_))
      unfold setAdd
      obtain ⟨oS, hoS, eS⟩ := R3.led _ (Cx.inAll List.mem_cons_self)
      have eS : oS = setObj0 C.led := eS
      subst eS
      refine wpAny_holding (wpAny_bind (C.SK.pyHash (strKind_is _ _ _ _) ?_))
      refine add_new (s := { s2 with toks := s2.toks + 1 }) (l := []) (tx := tx) hoS (sobj_new C.led) (by simp) (by unfold scanBound; simp) fun h' o' hsb ho' hS' => ?_
      refine wpAny_pure ?_
      dsimp only
      rw [List.forIn_nil]
      refine wpAny_pure ?_
      rw [if_neg (by decide)]
      exact wpAny_pure ⟨g3, _, .refl g3, R3.set (s := s2) (x := .raw o') LSet.here hsb ⟨o', ho', rfl⟩ _, o', hS', rfl⟩
    rintro g3 _ L3 s3 k3 Fo3 ⟨o3, hS3, rfl⟩
    -- the dictionary
    rw [List.forIn_cons]
    refine FrL.bind (K := fun zz zz L' => ∃ o l, l.map (fun zz => zz.1) = t0 :: es.map (fun zz => zz.1) ∧ SObj C C.led l o ∧ L' = (S, .raw o) :: L) ?_ (fun g6 zz L6 s6 k6 Fo6 hx => FrL.pure Fo6 hx)
    refine FrL.bind (K := fun zz st L' => (∃ u, st = ForInStep.yield u) ∧ ∃ o l, l.map (fun zz => zz.1) = t0 :: es.map (fun zz => zz.1) ∧ SObj C C.led l o ∧ L' = (S, .raw o) :: L) ?_ ?_
    · refine FrL.bind (K := fun g' v L' => v = Value.ref d ∧ L' = (S, .raw o3) :: L) (FrL.bind (h2 S _ A env own g3 s3 r0 hE Fo3) ?_) ?_
      · rintro g4 v L4 s4 k4 Fo4 ⟨a, ha, rfl, rfl⟩
        cases ha
        exact FrL.stand (FrL.pure Fo4 ⟨rfl, rfl⟩)
      rintro g4 v L4 s4 k4 Fo4 ⟨rfl, rfl⟩
      rw [if_pos rfl]
      refine fr_bind_lift (K := fun zz L' => ∃ o l, l.map (fun zz => zz.1) = t0 :: es.map (fun zz => zz.1) ∧ SObj C C.led l o ∧ L' = (S, .raw o) :: L) Fo4 (fun g5 k5 R5 => wpAny_holding ?_) ?_
      · obtain ⟨oS, hoS, eS⟩ := R5.led _ (Cx.inAll List.mem_cons_self)
        have eS : oS = o3 := eS
        subst eS
        have hm5 : (d, .dict es) ∈ (S, AO.raw oS) :: L := List.mem_cons_of_mem _ hm
        obtain ⟨kvs, hd, hkk, hvs⟩ := led_dict R5 hm5
        have hSd : S ≠ d := fun q => by
          have := (List.nodup_cons.mp (show (S :: ads (L ++ C.pins)).Nodup from R5.nd)).1
          exact this (q ▸ List.mem_map_of_mem (f := fun x : Addr × AO => x.1) (List.mem_append_left C.pins hm))
        have hlen : kvs.length = es.length := by have := congrArg List.length hkk; simpa using this
        have hnk : (kvs.map (fun zz => zz.1)).Nodup := by obtain ⟨_, _, _, _, _, _, _, _, h9⟩ := hd; exact h9
        refine display_star (C := C) r0.handled hSd (R5.notSys hy hm5) hd hoS hS3 (List.nodup_cons.mpr ⟨by rw [hkk]; exact hnd, hnk⟩) (by omega) fun h' tk o' l q1 q2 q3 hk => ?_
        exact ⟨g5, _, .refl g5, R5.setK (x := .raw o') LSet.here (fun b o hb e => hk b o hb e) ⟨o', q2, rfl⟩ tk, o', l, by rw [q1, hkk], q3, rfl⟩
      rintro g5 _ L5 s5 k5 Fo5 hx
      exact FrL.pure Fo5 ⟨⟨_, rfl⟩, hx⟩
    rintro g4 st L4 s4 k4 Fo4 ⟨⟨u, rfl⟩, hx⟩
    dsimp only
    rw [List.forIn_nil]
    exact FrL.pure Fo4 hx
  · rintro g2 _ L2 s2 k2 Fo2 ⟨o, l, q1, q2, rfl⟩
    exact FrL.pure Fo2 ⟨.obj S, .obj S, h S o l q1 q2⟩
end
end Mine
end
section
set_option maxRecDepth 100000
set_option linter.unusedVariables false
namespace Mine
open PySem PySem.Spec PySem.Calls PyProof.Rows PySem.W

theorem wpAny_choose {M : Model} {A : Around} {E : Value → Shared → Prop} {s : Shared} {src : Source} {n : Nat} {Q : Nat → Shared → Prop} (hn : n ≠ 0) (h : ∀ i d, i < n → Q i { s with drawn := d }) : wpAny M A (choose src n) Q E s :=
  fun Γ p zz => ⟨hn, h _ _ (Nat.mod_lt _ (Nat.pos_of_ne_zero hn))⟩
theorem wpAny_drawOrder {M : Model} {A : Around} {E : Value → Shared → Prop} {α : Type} (n : Nat) : ∀ (xs : List α) (s : Shared) (Q : List α → Shared → Prop), xs.length = n → (∀ ys d, ys.Perm xs → Q ys { s with drawn := d }) → wpAny M A (drawOrder n xs) Q E s := by
  induction n with
  | zero =>
    intro xs s Q hl h
    have := List.eq_nil_of_length_eq_zero hl
    subst this
    exact wpAny_pure (h [] s.drawn (List.Perm.refl _))
  | succ n ih =>
    intro xs s Q hl h
    obtain ⟨x, xs, rfl⟩ := List.exists_cons_of_length_eq_add_one hl
    unfold drawOrder
    refine wpAny_bind (wpAny_choose (by simp) fun i d hi => ?_)
    have hi : i < (x :: xs).length := hi
    rw [List.getElem?_eq_getElem hi]
    refine wpAny_bind (ih ((x :: xs).eraseIdx i) _ _ (by rw [List.length_eraseIdx_of_lt hi, hl]; rfl) fun ys d2 hp => wpAny_pure (h _ _ ?_))
    have e1 : ((x :: xs)[i] :: (x :: xs).eraseIdx i).Perm (x :: xs) := by
      rw [List.eraseIdx_eq_take_drop_succ]
      have e2 : (x :: xs) = (x :: xs).take i ++ (x :: xs)[i] :: (x :: xs).drop (i + 1) := by rw [← List.drop_eq_getElem_cons hi, List.take_append_drop]
      have e3 := (List.perm_middle (a := (x :: xs)[i]) (l₁ := (x :: xs).take i) (l₂ := (x :: xs).drop (i + 1))).symm
      rwa [← e2] at e3
    exact (hp.cons _).trans e1
theorem pick_go {α : Type} {next : Nat → Nat} : ∀ (fuel k : Nat) (left : List α) (out : Array α), fuel = left.length → (pickOrder.go next fuel k left out).toList.Perm (out.toList ++ left)
  | 0, k, [], out, _ => by unfold pickOrder.go; simp
  | fuel + 1, k, x :: xs, out, hl => by
    unfold pickOrder.go
    have hi : next k % (x :: xs).length < (x :: xs).length := Nat.mod_lt _ (by simp)
    rw [List.getElem?_eq_getElem hi]
    generalize hj : next k % (x :: xs).length = i at hi ⊢
    dsimp only
    refine (pick_go fuel (k + 1) _ _ (by rw [List.length_eraseIdx_of_lt hi, ← hl]; rfl)).trans ?_
    rw [Array.toList_push, List.append_assoc]
    refine List.Perm.append (List.Perm.refl _) ?_
    show ((x :: xs)[i] :: (x :: xs).eraseIdx i).Perm (x :: xs)
    rw [List.eraseIdx_eq_take_drop_succ]
    have e2 : (x :: xs) = (x :: xs).take i ++ (x :: xs)[i] :: (x :: xs).drop (i + 1) := by rw [← List.drop_eq_getElem_cons hi, List.take_append_drop]
    have e3 := (List.perm_middle (a := (x :: xs)[i]) (l₁ := (x :: xs).take i) (l₂ := (x :: xs).drop (i + 1))).symm
    rwa [← e2] at e3
theorem pickOrder_perm {α : Type} (next : Nat → Nat) (xs : Array α) : (pickOrder next xs).toList.Perm xs.toList := by
  unfold pickOrder
  have := pick_go (next := next) xs.size 0 xs.toList #[] (by simp)
  simpa using this

theorem entry_sit_iter : entryFor table "set.__iter__" = some Builtin.«frozenset.__iter__» :=
  entryFor_alias (id' := "frozenset.__iter__") (by kernel_rfl) rfl (by decide +kernel) (by kernel_rfl)
theorem slot_sit_next : Slot "set_iterator" "__next__" "set_iterator.__next__" :=
  .of (owner := "set_iterator") (n := "__next__") (by rw [typeLookup_type, builtinLookup_eq_fast]; kernel_rfl) (by decide +kernel) (by decide +kernel) (by decide +kernel)
    (by first | exact .inl (by decide +kernel) | exact .inr (by decide +kernel)) (by rw [isSubtype_type]; kernel_rfl)
theorem entry_sit_next : entryFor table "set_iterator.__next__" = some Builtin.«set_iterator.__next__» := entryFor_of_tree (by kernel_rfl)
theorem owner_sit : Manifest.owners.lookup (String.ofList ['r', 'o', 't', 'a', 'r', 'e', 't', 'i', '_', 't', 'e', 's'].reverse) = some Manifest.sig_set_iterator := by kernel_rfl
theorem args_sit_next (a : Value) : argsOk "set_iterator.__next__" ⟨[a], []⟩ := by
  unfold argsOk; rw [signature?_of (id := "set_iterator.__next__") (n := ['_', '_', 't', 'x', 'e', 'n', '_', '_']) (o := ['r', 'o', 't', 'a', 'r', 'e', 't', 'i', '_', 't', 'e', 's']) (by kernel_rfl) owner_sit]; kernel_rfl

theorem slot_sit_iter : Slot "set_iterator" "__iter__" "set_iterator.__iter__" :=
  .of (owner := "set_iterator") (n := "__iter__") (by rw [typeLookup_type, builtinLookup_eq_fast]; kernel_rfl) (by decide +kernel) (by decide +kernel) (by decide +kernel)
    (by first | exact .inl (by decide +kernel) | exact .inr (by decide +kernel)) (by rw [isSubtype_type]; kernel_rfl)
theorem entry_sit_iter2 : entryFor table "set_iterator.__iter__" = some Builtin.«dict_keyiterator.__iter__» :=
  entryFor_alias (id' := "dict_keyiterator.__iter__") (by kernel_rfl) rfl (by decide +kernel) (by kernel_rfl)
theorem args_sit_iter (a : Value) : argsOk "set_iterator.__iter__" ⟨[a], []⟩ := by
  unfold argsOk; rw [signature?_of (id := "set_iterator.__iter__") (n := ['_', '_', 'r', 'e', 't', 'i', '_', '_']) (o := ['r', 'o', 't', 'a', 'r', 'e', 't', 'i', '_', 't', 'e', 's']) (by kernel_rfl) owner_sit]; kernel_rfl
noncomputable def SitAt (h : Heap) (I : Addr) (first : Value) (i : Nat) (S : Addr) (n ep : Nat) : Prop :=
  ∃ o, h.get? I = some o ∧ o.cls = .type "set_iterator" ∧ o.data = .fields #[first, .int i 0, .ref S, .int n 0, .int ep 0]
theorem SitAt.typeIs {s : Shared} {I : Addr} {first : Value} {i : Nat} {S : Addr} {n ep : Nat} (x : SitAt s.heap I first i S n ep) : s.TypeIs (.ref I) "set_iterator" := let ⟨o, h1, h2, _⟩ := x; ⟨o, h1, h2⟩
theorem SitAt.at {h h' : Heap} {I : Addr} {first : Value} {i : Nat} {S : Addr} {n ep : Nat} (x : SitAt h I first i S n ep) (k : ∀ o, h.get? I = some o → h'.get? I = some o) : SitAt h' I first i S n ep := let ⟨o, h1, h2⟩ := x; ⟨o, k o h1, h2⟩
section
variable {prog : Program} {w : World} {A : Around} {E : Value → Shared → Prop} {s : Shared} {I S : Addr} {i n ep : Nat} {es : Array (Int × Value)} {t : SetTable} {oS : Obj}
theorem sit_self {first : Value} {Q : Value → Shared → Prop} (hit : SitAt s.heap I first i S n ep) (h : Q (.ref I) s) : wpAny (model prog w) A (pyIter (.ref I)) Q E s := by
  refine wpAny_pyIter_slot hit.typeIs slot_sit_iter (wpAny_call_entry slot_sit_iter hit.typeIs entry_sit_iter2 ?_ (args_sit_iter _))
  show wpAny _ _ (ret (.ref I)) _ _ s
  exact wpAny_pure ⟨_, rfl, "set_iterator", _, hit.typeIs, slot_sit_next.lookup, h⟩
theorem sit_stop {Q : Option Value → Shared → Prop} {h1 : Heap} {R : Fin → Shared → Prop} (hh : A.handled = none) (h : ∀ h', (∀ b o, h1.get? b = some o → h'.get? b = some o) → Q none { s with heap := h' }) :
    wpAny (model prog w) A.in1 (newExc (.type "StopIteration") [] >>= fun e => raiseNew e) R
      (fun e s' => wpAny (model prog w) A (do
          let __do_lift ← isInstance e (Value.type "StopIteration")
          if __do_lift = true then pure none else throw e) Q E s') { s with heap := h1 } := by
  refine wpAny_bind ?_
  simp only [newExc, newTuple]
  refine wpAny_bind (wpAny_newObj_type ?_ (by size_fits))
  refine wpAny_bind (m := firstArgMember _ _) (wpAny_of_eq (a := Value.none) (by first | rfl | (simp only [firstArgMember]; rfl)) ?_)
  refine wpAny_newObj_type ?_ (by size_fits)
  simp only [raiseNew]
  refine wpAny_bind (wpAny_handled ?_)
  rw [show A.in1.handled = none from hh]
  refine wpAny_bind (wpAny_pure (wpAny_throw ?_))
  refine wpAny_bind (wpAny_isInstance (T := "StopIteration") (b := true) ⟨_, Heap.get?_push_size _ rfl, rfl⟩ isSubtype_stop ?_)
  exact wpAny_pure (h _ fun b o e => Heap.get?_push_of_some _ (Heap.get?_push_of_some _ e))
theorem walk_slot {vs : List Value} {sl : Nat → Nat} (hh : A.handled = none) (hne : S ≠ I) (hn : vs.length = n) (hsz : es.size = n) (hd : oS.data = .set es ep t) (hf : t.fits es.size = true)
    (hitem : ∀ i x, vs[i]? = some x → ∀ (A' : Around) (E' : Value → Shared → Prop) (Q' : Option (Value × Nat) → Shared → Prop) (s' : Shared), s'.heap.get? S = some oS → Q' (some (x, sl (i + 1))) s' → wpAny (model prog w) A' (setNext S (sl i) i ep) Q' E' s')
    (hend : ∀ (A' : Around) (E' : Value → Shared → Prop) (Q' : Option (Value × Nat) → Shared → Prop) (s' : Shared), s'.heap.get? S = some oS → Q' none s' → wpAny (model prog w) A' (setNext S (sl n) n ep) Q' E' s') :
    Walks prog w A I [I, S] [I] n (fun i v => vs[i]? = some v) (fun i h => SitAt h I (.int (sl i) 0) i S n ep ∧ h.get? S = some oS) where
  sub := fun b hb => by simp at hb; simp [hb]
  frame := fun zz zz zz st hk => ⟨st.1.at fun o e => hk I (by simp) o e, hk S (by simp) _ st.2⟩
  self := fun zz zz zz zz st hQ => sit_self st.1 hQ
  item := fun i s Q E hi st hQ => by
    obtain ⟨o, h1, h2, h3⟩ := id st.1
    have hx : vs[i]? = some (vs[i]'(by omega)) := List.getElem?_eq_getElem _
    unfold pyNext
    refine wpAny_bind (wpAny_attempt (wpAny_callSpecial?_slot (name := Str.ofString "__next__") st.1.typeIs slot_sit_next
      (wpAny_call_entry slot_sit_next st.1.typeIs entry_sit_next ?_ (args_sit_next _))))
    unfold Builtin.«set_iterator.__next__»
    refine wpAny_bind (wpAny_pure ?_)
    refine wpAny_bind (wpAny_fieldsOf h1 h3 ?_)
    show wpAny _ _ (setEntries S >>= _) _ _ s
    refine wpAny_bind (wpAny_setEntries_of st.2 hd hf ?_)
    rw [if_neg (by rw [hsz]; simp)]
    show wpAny _ _ (setNext S (sl i) i ep >>= _) _ _ s
    refine wpAny_bind (hitem i _ hx _ _ _ _ st.2 ?_)
    dsimp only
    refine wpAny_bind (wpAny_setField h1 h3 (by simp) ?_)
    have g1 := Heap.get?_update_self (Obj.mapFields (·.setIfInBounds 0 (rawInt (sl (i + 1) : Nat)))) h1 (Obj.isFreed_of_fields (Obj.data_mapFields h3 _))
    refine wpAny_bind (wpAny_setField (s := { s with heap := s.heap.update I (Obj.mapFields (·.setIfInBounds 0 (rawInt (sl (i + 1) : Nat)))) }) g1 (Obj.data_mapFields h3 _) (by simp) ?_)
    have g2 := Heap.get?_update_self (Obj.mapFields (·.setIfInBounds 1 (rawInt ((i : Int) + 1)))) g1 (Obj.isFreed_of_fields (Obj.data_mapFields (Obj.data_mapFields h3 _) _))
    have hsb : Heap.SameBut I s.heap ((s.heap.update I (Obj.mapFields (·.setIfInBounds 0 (rawInt (sl (i + 1) : Nat))))).update I (Obj.mapFields (·.setIfInBounds 1 (rawInt ((i : Int) + 1))))) := (Heap.SameBut.update ..).trans (Heap.SameBut.update ..)
    refine wpAny_pure ⟨_, rfl, wpAny_pure ?_⟩
    refine hQ _ _ s.toks hx ⟨⟨_, g2, ?_, ?_⟩, (hsb.2 S hne).trans st.2⟩ fun b o hb e => (hsb.2 b (fun q => hb (by simp [q]))).trans e
    · rw [Obj.cls_mapFields, Obj.cls_mapFields]; exact h2
    · rw [Obj.data_mapFields (Obj.data_mapFields h3 _)]; simp [rawInt]
  done := fun s Q E st hQ => by
    obtain ⟨o, h1, h2, h3⟩ := id st.1
    unfold pyNext
    refine wpAny_bind (wpAny_attempt (wpAny_callSpecial?_slot (name := Str.ofString "__next__") st.1.typeIs slot_sit_next
      (wpAny_call_entry slot_sit_next st.1.typeIs entry_sit_next ?_ (args_sit_next _))))
    unfold Builtin.«set_iterator.__next__»
    refine wpAny_bind (wpAny_pure ?_)
    refine wpAny_bind (wpAny_fieldsOf h1 h3 ?_)
    show wpAny _ _ (setEntries S >>= _) _ _ s
    refine wpAny_bind (wpAny_setEntries_of st.2 hd hf ?_)
    rw [if_neg (by rw [hsz]; simp)]
    show wpAny _ _ (setNext S (sl n) n ep >>= _) _ _ s
    refine wpAny_bind (hend _ _ _ _ st.2 ?_)
    dsimp only
    refine wpAny_bind (wpAny_setField h1 h3 (by simp) ?_)
    have hsb : Heap.SameBut I s.heap (s.heap.update I (Obj.mapFields (·.setIfInBounds 2 Value.none))) := Heap.SameBut.update ..
    refine sit_stop hh fun h' hk => ?_
    exact hQ h' s.toks fun b o hb e => hk b o ((hsb.2 b (fun q => hb (by simp [q]))).trans e)
theorem walk_drawn {vs : List Value} {T : Addr} {ord : List Nat} {oT : Obj} {m : Nat} (hh : A.handled = none) (hne : S ≠ I) (hTI : T ≠ I) (hn : ord.length = n) (hsz : es.size = n) (hd : oS.data = .set es ep t) (hf : t.fits es.size = true)
    (hT : oT.data = .seq (List.toArray (ord.map fun (i : Nat) => rawInt i)) m) (hvs : ∀ i j : Nat, ord[i]? = some j → ∃ e, es[j]? = some e ∧ vs[i]? = some e.2) :
    Walks prog w A I [I, S, T] [I] n (fun i v => vs[i]? = some v) (fun i h => SitAt h I (.ref T) i S n ep ∧ h.get? S = some oS ∧ h.get? T = some oT) where
  sub := fun b hb => by simp at hb; simp [hb]
  frame := fun zz zz zz st hk => ⟨st.1.at fun o e => hk I (by simp) o e, hk S (by simp) _ st.2.1, hk T (by simp) _ st.2.2⟩
  self := fun zz zz zz zz st hQ => sit_self st.1 hQ
  item := fun i s Q E hi st hQ => by
    obtain ⟨o, h1, h2, h3⟩ := id st.1
    have ho : ord[i]? = some (ord[i]'(by omega)) := List.getElem?_eq_getElem _
    obtain ⟨e, he, hx⟩ := hvs i _ ho
    unfold pyNext
    refine wpAny_bind (wpAny_attempt (wpAny_callSpecial?_slot (name := Str.ofString "__next__") st.1.typeIs slot_sit_next
      (wpAny_call_entry slot_sit_next st.1.typeIs entry_sit_next ?_ (args_sit_next _))))
    unfold Builtin.«set_iterator.__next__»
    refine wpAny_bind (wpAny_pure ?_)
    refine wpAny_bind (wpAny_fieldsOf h1 h3 ?_)
    show wpAny _ _ (setEntries S >>= _) _ _ s
    refine wpAny_bind (wpAny_setEntries_of st.2.1 hd hf ?_)
    rw [if_neg (by rw [hsz]; simp)]
    show wpAny _ _ (seqItems? (.ref T) >>= _) _ _ s
    refine wpAny_bind (wpAny_seqItems st.2.2 hT ?_)
    have hp : (List.toArray (ord.map fun (i : Nat) => rawInt i))[i]? = some (rawInt (ord[i]'(by omega) : Nat)) := by simp [ho]
    dsimp only
    rw [Int.toNat_natCast, hp]
    show wpAny _ _ (setNextDrawn S (ord[i]'(by omega)) ep >>= _) _ _ s
    refine wpAny_bind ?_
    unfold setNextDrawn
    refine wpAny_bind (wpAny_setState_of st.2.1 hd hf ?_)
    dsimp only
    rw [if_neg (by simp), he]
    refine wpAny_pure ?_
    refine wpAny_bind (wpAny_setField h1 h3 (by simp) ?_)
    have g1 := Heap.get?_update_self (Obj.mapFields (·.setIfInBounds 1 (rawInt ((i : Int) + 1)))) h1 (Obj.isFreed_of_fields (Obj.data_mapFields h3 _))
    have hsb : Heap.SameBut I s.heap (s.heap.update I (Obj.mapFields (·.setIfInBounds 1 (rawInt ((i : Int) + 1))))) := Heap.SameBut.update ..
    refine wpAny_pure ⟨_, rfl, wpAny_pure ?_⟩
    refine hQ _ _ s.toks hx ⟨⟨_, g1, ?_, ?_⟩, (hsb.2 S hne).trans st.2.1, (hsb.2 T hTI).trans st.2.2⟩ fun b o hb e => (hsb.2 b (fun q => hb (by simp [q]))).trans e
    · rw [Obj.cls_mapFields]; exact h2
    · rw [Obj.data_mapFields h3]; simp [rawInt]
  done := fun s Q E st hQ => by
    obtain ⟨o, h1, h2, h3⟩ := id st.1
    unfold pyNext
    refine wpAny_bind (wpAny_attempt (wpAny_callSpecial?_slot (name := Str.ofString "__next__") st.1.typeIs slot_sit_next
      (wpAny_call_entry slot_sit_next st.1.typeIs entry_sit_next ?_ (args_sit_next _))))
    unfold Builtin.«set_iterator.__next__»
    refine wpAny_bind (wpAny_pure ?_)
    refine wpAny_bind (wpAny_fieldsOf h1 h3 ?_)
    show wpAny _ _ (setEntries S >>= _) _ _ s
    refine wpAny_bind (wpAny_setEntries_of st.2.1 hd hf ?_)
    rw [if_neg (by rw [hsz]; simp)]
    show wpAny _ _ (seqItems? (.ref T) >>= _) _ _ s
    refine wpAny_bind (wpAny_seqItems st.2.2 hT ?_)
    have hp : (List.toArray (ord.map fun (i : Nat) => rawInt i))[n]? = none := by simp [hn]
    dsimp only
    rw [Int.toNat_natCast, hp]
    dsimp only
    refine wpAny_bind (wpAny_setField h1 h3 (by simp) ?_)
    have g1 := Heap.get?_update_self (Obj.mapFields (·.setIfInBounds 0 (rawInt 0))) h1 (Obj.isFreed_of_fields (Obj.data_mapFields h3 _))
    refine wpAny_bind (wpAny_setField (s := { s with heap := s.heap.update I (Obj.mapFields (·.setIfInBounds 0 (rawInt 0))) }) g1 (Obj.data_mapFields h3 _) (by simp) ?_)
    have hsb : Heap.SameBut I s.heap ((s.heap.update I (Obj.mapFields (·.setIfInBounds 0 (rawInt 0)))).update I (Obj.mapFields (·.setIfInBounds 2 Value.none))) := (Heap.SameBut.update ..).trans (Heap.SameBut.update ..)
    refine sit_stop hh fun h' hk => ?_
    exact hQ h' s.toks fun b o hb e => hk b o ((hsb.2 b (fun q => hb (by simp [q]))).trans e)
end
end Mine
end
section
set_option maxRecDepth 100000
set_option linter.unusedVariables false
namespace Mine
open PySem PySem.Spec PySem.Calls PyProof.Rows PySem.W
theorem arr_one {α : Type} {a : Array α} (h : a.size = 1) : ∃ x, a = #[x] := by
  obtain ⟨l⟩ := a
  obtain ⟨x, hx⟩ := List.length_eq_one_iff.mp h
  exact ⟨x, by show (⟨l⟩ : Array α) = ⟨[x]⟩; rw [show l = [x] from hx]⟩

theorem below_one (j k : Nat) : SetTable.below #[j] k = if j < k then 1 else 0 := by
  unfold SetTable.below
  show SetTable.below.go #[j] k 1 0 1 = _
  unfold SetTable.below.go
  simp only [Nat.zero_lt_one, if_true]
  show (if j < k then SetTable.below.go #[j] k 0 (0 + 1) 1 else SetTable.below.go #[j] k 0 0 0) = _
  unfold SetTable.below.go
  rfl
section
variable {C : Cx} {A : Around} {E : Value → Shared → Prop} {s : Shared}
theorem set_walks {S : Addr} {oS : Obj} {l : List (Str × Tok)} {Q : Value → Shared → Prop} (hh : A.handled = none) (ho : s.heap.get? S = some oS) (hS : SObj C C.led l oS) (hl : l ≠ []) (hz : l.length ≤ 1000)
    (h : ∀ (h' : Heap) (d : Drawn) (I : Addr) (fp : List Addr) (St : Nat → Heap → Prop) (vs : List Value), Walks C.prog C.w A I fp [I] l.length (fun i v => vs[i]? = some v) St → St 0 h' → vs.Perm (strValues l) → (∀ b ∈ fp, b < h'.objs.size) → (∀ b ∈ fp, b = S ∨ s.heap.objs.size ≤ b) → s.heap.objs.size ≤ I → (∀ b o, s.heap.get? b = some o → h'.get? b = some o) → Q (.ref I) { s with heap := h', drawn := d }) :
    wpAny C.M A (pyIter (.ref S)) Q E s := by
  obtain ⟨hex, es, ep, t, hd, hf, hel, hp, hled, hpl⟩ := id hS
  have hpl := hpl hl
  have hsz : es.size = l.length := by have := hp.length_eq; simpa [strValues] using this
  rw [← hsz] at h
  have hT : s.TypeIs (.ref S) "set" := ⟨oS, ho, hex.1⟩
  have hSl : S < s.heap.objs.size := Heap.lt_size ho
  refine wpAny_pyIter_slot hT PySem.F.slot_set_iter (wpAny_call_entry PySem.F.slot_set_iter hT entry_sit_iter ?_ (PySem.F.args_set_iter_1 _))
  unfold Builtin.«frozenset.__iter__»
  refine wpAny_bind (m := Builtin.Frozenset.slot0 "__iter__" _) (wpAny_bind (wpAny_pure (wpAny_pure ?_)))
  refine wpAny_bind (m := Builtin.Frozenset.sizeOf S) ?_
  unfold Builtin.Frozenset.sizeOf
  refine wpAny_bind (wpAny_setEntries_of ho hd hf (wpAny_pure ?_))
  refine wpAny_bind (m := setDrawn S) ?_
  unfold setDrawn
  refine wpAny_bind (wpAny_setState_of ho hd hf ?_)
  unfold setsByText
  refine wpAny_bind (wpAny_bind (wpAny_askSetting (wpAny_pure (wpAny_pure ?_))))
  have mk : ∀ (first : Value) (s1 : Shared), s1.heap.get? S = some oS → (∀ h', h' = s1.heap.push { cls := .type "set_iterator", data := .fields #[first, .int (0 : Nat) 0, .ref S, .int es.size 0, .int ep 0] } → SitAt h' s1.heap.objs.size first 0 S es.size ep → Q (.ref s1.heap.objs.size) { s1 with heap := h' }) →
      wpAny C.M A.in1 (setEpoch S >>= fun n => newFields "set_iterator" [first, rawInt 0, .ref S, rawInt es.size, rawInt n] >>= fun v => ret v) (fun fin s' => ∃ v, fin = Fin.done (Flow.ret v) ∧ ∃ T it, Shared.TypeIs s' v T ∧ typeLookup (.type T) "__next__" = pure (some it) ∧ Q v s') (fun e s' => E e s') s1 := by
    intro first s1 ho1 hq
    unfold setEpoch
    refine wpAny_bind (wpAny_bind (wpAny_setState_of ho1 hd hf (wpAny_pure ?_)))
    refine wpAny_bind (wpAny_newObj_type (wpAny_pure ⟨_, rfl, "set_iterator", _, ⟨_, Heap.get?_push_size _ rfl, rfl⟩, slot_sit_next.lookup, ?_⟩))
    exact hq _ rfl ⟨_, Heap.get?_push_size _ rfl, rfl, rfl⟩
  dsimp only
  rcases Bool.eq_false_or_eq_true (C.w.params.followText "set-order") with hb | hb
  · -- by the text's order
    have hb' : (model C.prog C.w).w.params.followText "set-order" = true := hb
    rw [hb']
    refine wpAny_bind (wpAny_pure ?_)
    refine mk _ s ho fun h' he hit => ?_
    have hpo := pickOrder_perm (C.w.params.setOrder S ep) es
    have W : Walks C.prog C.w A s.heap.objs.size [s.heap.objs.size, S] [s.heap.objs.size] es.size (fun i v => ((pickOrder (C.w.params.setOrder S ep) es).toList.map (fun zz => zz.2))[i]? = some v) (fun i h => SitAt h s.heap.objs.size (.int (0 : Nat) 0) i S es.size ep ∧ h.get? S = some oS) := by
     refine walk_slot (oS := oS) (es := es) (t := t) (n := es.size) (ep := ep) (sl := fun zz => 0) hh (Nat.ne_of_lt hSl) ?_ rfl hd hf ?_ ?_
     · rw [List.length_map, hpo.length_eq, Array.length_toList]
     · intro i x hx A' E' Q' s' ho' hq
       rw [List.getElem?_map] at hx
       obtain ⟨e, he1, rfl⟩ := Option.map_eq_some_iff.mp hx
       unfold setNext
       refine wpAny_bind (wpAny_setState_of ho' hd hf ?_)
       unfold setsByText
       refine wpAny_bind (wpAny_bind (wpAny_askSetting (wpAny_pure ?_)))
       dsimp only
       rw [if_pos hb', if_neg (by simp)]
       refine wpAny_bind (m := setWalk S) ?_
       unfold setWalk
       refine wpAny_bind (wpAny_setState_of ho' hd hf ?_)
       unfold setsByText
       refine wpAny_bind (wpAny_bind (wpAny_askSetting (wpAny_pure ?_)))
       dsimp only
       rw [if_pos hb']
       refine wpAny_bind (wpAny_askSetting (wpAny_pure (wpAny_pure ?_)))
       rw [← Array.getElem?_toList]
       have : (pickOrder ((model C.prog C.w).w.params.setOrder S ep) es).toList[i]? = some e := he1
       rw [this]
       exact hq
     · intro A' E' Q' s' ho' hq
       unfold setNext
       refine wpAny_bind (wpAny_setState_of ho' hd hf ?_)
       unfold setsByText
       refine wpAny_bind (wpAny_bind (wpAny_askSetting (wpAny_pure ?_)))
       dsimp only
       rw [if_pos hb', if_neg (by simp)]
       refine wpAny_bind (m := setWalk S) ?_
       unfold setWalk
       refine wpAny_bind (wpAny_setState_of ho' hd hf ?_)
       unfold setsByText
       refine wpAny_bind (wpAny_bind (wpAny_askSetting (wpAny_pure ?_)))
       dsimp only
       rw [if_pos hb']
       refine wpAny_bind (wpAny_askSetting (wpAny_pure (wpAny_pure ?_)))
       have : (pickOrder ((model C.prog C.w).w.params.setOrder S ep) es)[es.size]? = none := by
         rw [← Array.getElem?_toList, List.getElem?_eq_none]
         rw [(pickOrder_perm _ es).length_eq, Array.length_toList]; exact Nat.le_refl _
       rw [this]
       exact hq
    refine h h' s.drawn s.heap.objs.size [s.heap.objs.size, S] _ ((pickOrder (C.w.params.setOrder S ep) es).toList.map (fun zz => zz.2)) W ⟨hit, by rw [he]; exact Heap.get?_push_of_some _ ho⟩ ((hpo.map _).trans hp) (fun b hm => ?_) (fun b hm => ?_) (Nat.le_refl _) fun b o e => by rw [he]; exact Heap.get?_push_of_some _ e
    · rw [he, Heap.size_push]
      simp only [List.mem_cons, List.not_mem_nil, or_false] at hm
      rcases hm with rfl | rfl
      · exact Nat.lt_succ_self _
      · exact Nat.lt_succ_of_lt hSl
    · simp only [List.mem_cons, List.not_mem_nil, or_false] at hm
      rcases hm with rfl | rfl
      · exact .inr (Nat.le_refl _)
      · exact .inl rfl
  · have hb' : (model C.prog C.w).w.params.followText "set-order" = false := hb
    have hled' : t.led = true := by rw [hled]; show (!C.w.params.followText "set-order") = true; rw [hb]; rfl
    rw [hb']
    rcases Nat.lt_or_ge 1 es.size with h1 | h1
    · -- a drawn order
      have hdr : (!t.plain && decide (es.size > 1)) = true := by rw [hpl]; simpa using h1
      refine wpAny_ite_split (fun zz => ?_) (fun hab => absurd (show (!false && (!t.plain && decide (es.size > 1))) = true by rw [hdr]; rfl) hab)
      refine wpAny_bind (wpAny_drawOrder es.size (List.range es.size) _ _ List.length_range fun ord d hperm => ?_)
      have hol : ord.length = es.size := by rw [hperm.length_eq, List.length_range]
      refine wpAny_bind (wpAny_newObj_type ?_ (by show (List.map (fun (i : Nat) => rawInt i) ord).toArray.size ≤ sizeLine; rw [List.size_toArray, List.length_map, hol, sizeLine_eq]; omega))
      let T := s.heap.objs.size
      have hTo := Heap.get?_push_size s.heap (o := { cls := .type "tuple", data := .seq (ord.map fun (i : Nat) => rawInt i).toArray }) rfl
      refine mk (.ref T) { s with heap := s.heap.push { cls := .type "tuple", data := .seq (ord.map fun (i : Nat) => rawInt i).toArray }, drawn := d } (Heap.get?_push_of_some _ ho) fun h' he hit => ?_
      have hget : ∀ i j : Nat, ord[i]? = some j → j < es.size := fun i j hij => List.mem_range.mp (hperm.mem_iff.mp (List.mem_of_getElem? hij))
      have hsz2 : (s.heap.push { cls := .type "tuple", data := .seq (ord.map fun (i : Nat) => rawInt i).toArray }).objs.size = s.heap.objs.size + 1 := by rw [Heap.size_push]
      refine h h' d (s.heap.push { cls := .type "tuple", data := .seq (ord.map fun (i : Nat) => rawInt i).toArray }).objs.size [_, S, T] _ (ord.map fun i => (es.getD i (0, Value.none)).2) (walk_drawn (oS := oS) (es := es) (t := t) (n := es.size) (ep := ep) (ord := ord) (T := T) (m := 0) (oT := { cls := .type "tuple", data := .seq (ord.map fun (i : Nat) => rawInt i).toArray }) hh ?_ ?_ hol rfl hd hf rfl ?_) ⟨hit, ?_, ?_⟩ ?_ ?_ ?_ (by rw [hsz2]; omega) ?_
      · rw [hsz2]; exact Nat.ne_of_lt (Nat.lt_succ_of_lt hSl)
      · rw [hsz2]; exact Nat.ne_of_lt (Nat.lt_succ_self _)
      · intro i j hij
        have hj := hget i j hij
        refine ⟨es[j], by simp [hj], ?_⟩
        rw [List.getElem?_map, hij]; simp [Array.getD, hj]
      · rw [he]; exact Heap.get?_push_of_some _ (Heap.get?_push_of_some _ ho)
      · rw [he]; exact Heap.get?_push_of_some _ hTo
      · refine List.Perm.trans (hperm.map _) ?_
        have e1 : (List.range es.size).map (fun i => (es.getD i (0, Value.none)).2) = es.toList.map (fun zz => zz.2) := by
          apply List.ext_getElem?
          intro i
          rw [List.getElem?_map, List.getElem?_map]
          rcases Nat.lt_or_ge i es.size with q | q
          · rw [List.getElem?_range q]; simp [Array.getD, q]
          · rw [List.getElem?_eq_none (by simpa using q), List.getElem?_eq_none (by simpa using q)]; rfl
        rw [e1]; exact hp
      · intro b hm
        rw [he, Heap.size_push, hsz2]
        simp only [List.mem_cons, List.not_mem_nil, or_false] at hm
        rcases hm with rfl | rfl | rfl
        · rw [hsz2]; exact Nat.lt_succ_self _
        · exact Nat.lt_succ_of_lt (Nat.lt_succ_of_lt hSl)
        · exact Nat.lt_succ_of_lt (Nat.lt_succ_self _)
      · intro b hm
        simp only [List.mem_cons, List.not_mem_nil, or_false] at hm
        rcases hm with rfl | rfl | rfl
        · rw [hsz2]; exact .inr (Nat.le_succ _)
        · exact .inl rfl
        · exact .inr (Nat.le_refl _)
      · intro b o e; rw [he]; exact Heap.get?_push_of_some _ (Heap.get?_push_of_some _ e)
    · -- a single one
      have hne : es.size = 1 := by
        have : l.length ≠ 0 := fun q => hl (List.length_eq_zero_iff.mp q)
        omega
      have hdr : (!t.plain && decide (es.size > 1)) = false := by rw [hne]; simp
      refine wpAny_ite_split (fun hab => absurd hab (show ¬ (!false && (!t.plain && decide (es.size > 1))) = true by rw [hdr]; decide)) (fun zz => ?_)
      refine wpAny_bind (wpAny_pure ?_)
      refine mk _ s ho fun h' he hit => ?_
      obtain ⟨e0, he0⟩ : ∃ e0, es = #[e0] := arr_one hne
      subst he0
      have hplace : t.place.size = 1 := by
        unfold SetTable.fits at hf
        simp only [Bool.and_eq_true, beq_iff_eq] at hf
        exact hf.1
      obtain ⟨j0, hj0⟩ : ∃ j0, t.place = #[j0] := arr_one hplace
      have hl1 : l.length = 1 := by rw [← hsz]; rfl
      refine h h' s.drawn s.heap.objs.size [s.heap.objs.size, S] _ [e0.2] (walk_slot (oS := oS) (es := #[e0]) (t := t) (n := (#[e0] : Array (Int × Value)).size) (vs := [e0.2]) (ep := ep) (sl := fun i => if i = 0 then 0 else j0 + 1) hh (Nat.ne_of_lt hSl) rfl rfl hd hf ?_ ?_) ⟨hit, ?_⟩ ?_ ?_ ?_ (Nat.le_refl _) ?_
      · intro i x hx A' E' Q' s' ho' hq
        have hi : i = 0 := by
          rcases i with _ | i
          · rfl
          · simp at hx
        subst hi
        have hx : e0.2 = x := by simpa using hx
        subst hx
        unfold setNext
        refine wpAny_bind (wpAny_setState_of ho' hd hf ?_)
        unfold setsByText
        refine wpAny_bind (wpAny_bind (wpAny_askSetting (wpAny_pure ?_)))
        dsimp only
        rw [if_neg (by rw [hb']; exact Bool.false_ne_true)]
        refine wpAny_ite_split (fun hab => absurd hab (show ¬ (!t.plain && decide ((#[e0] : Array (Int × Value)).size > 1)) = true by rw [hdr]; exact Bool.false_ne_true)) (fun zz => ?_)
        refine wpAny_bind (m := (if (!t.led && !(#[e0] : Array (Int × Value)).isEmpty) = true then unsupported "set:maker-not-led" else pure ())) ?_
        rw [if_neg (by rw [hled']; simp)]
        refine wpAny_pure (wpAny_pure ?_)
        rw [hj0, below_one]
        exact hq
      · intro A' E' Q' s' ho' hq
        unfold setNext
        refine wpAny_bind (wpAny_setState_of ho' hd hf ?_)
        unfold setsByText
        refine wpAny_bind (wpAny_bind (wpAny_askSetting (wpAny_pure ?_)))
        dsimp only
        rw [if_neg (by rw [hb']; exact Bool.false_ne_true)]
        refine wpAny_ite_split (fun hab => absurd hab (show ¬ (!t.plain && decide ((#[e0] : Array (Int × Value)).size > 1)) = true by rw [hdr]; exact Bool.false_ne_true)) (fun zz => ?_)
        refine wpAny_bind (m := (if (!t.led && !(#[e0] : Array (Int × Value)).isEmpty) = true then unsupported "set:maker-not-led" else pure ())) ?_
        rw [if_neg (by rw [hled']; simp)]
        refine wpAny_pure (wpAny_pure ?_)
        rw [hj0, below_one, if_pos (by simp)]
        exact hq
      · rw [he]; exact Heap.get?_push_of_some _ ho
      · exact hp
      · intro b hm
        rw [he, Heap.size_push]
        simp only [List.mem_cons, List.not_mem_nil, or_false] at hm
        rcases hm with rfl | rfl
        · exact Nat.lt_succ_self _
        · exact Nat.lt_succ_of_lt hSl
      · intro b hm
        simp only [List.mem_cons, List.not_mem_nil, or_false] at hm
        rcases hm with rfl | rfl
        · exact .inr (Nat.le_refl _)
        · exact .inl rfl
      · intro b o e; rw [he]; exact Heap.get?_push_of_some _ e
end
end Mine
end
section
set_option maxRecDepth 100000
set_option linter.unusedVariables false
namespace Mine
open PySem PySem.Spec PySem.Calls PyProof.Rows PySem.W

section
variable {C : Cx} {A : Around} {E : Value → Shared → Prop} {s : Shared}
theorem set_hint {r : Addr} {Q : Bool → Shared → Prop} (hT : s.TypeIs (.ref r) "set") (h : Q false s) : wpAny C.M A (Builtin.List.listLengthHint (.ref r)) Q E s := by
  unfold Builtin.List.listLengthHint
  refine wpAny_bind (wpAny_specialOf hT PySem.F.slot_set_len.lookup ?_)
  generalize hid : ("set.__len__" : String) = id0
  wp_delta
  rw [show splitId id0 = some ("set", "__len__") from by subst hid; decide +kernel]
  subst hid
  refine wpAny_bind (wpAny_isInstance (T := "set") (b := true) hT (by rw [isSubtype_type]; kernel_rfl) ?_)
  refine wpAny_ite_split (fun hab => absurd hab (by decide)) (fun zz => ?_)
  refine wpAny_ite_split (fun zz => ?_) (fun hab => absurd (by decide +kernel) hab)
  refine wpAny_bind (wpAny_typeOf hT ?_)
  exact wpAny_pure h
theorem set_collect {S : Addr} {oS : Obj} {l : List (Str × Tok)} {R : List Value → Shared → Prop} (hh : A.handled = none) (ho : s.heap.get? S = some oS) (hS : SObj C C.led l oS) (hl : l ≠ []) (hz : l.length ≤ 1000)
    (h : ∀ (h' : Heap) (tk : Nat) (d : Drawn) (vs : List Value), vs.Perm (strValues l) → (∀ b o, s.heap.get? b = some o → h'.get? b = some o) → R vs { s with heap := h', toks := tk, drawn := d }) :
    wpAny C.M A (collect (.ref S)) R E s := by
  have hSl : S < s.heap.objs.size := Heap.lt_size ho
  unfold collect
  refine wpAny_bind (wpAny_runValue (codeAny_builtin entry_proto_collect' ?_))
  rw [Around.under_plainId PySem.F.plain_proto_collect _]
  show wpAny _ A.in1 (newList [] >>= fun l => again (.builtin "list.__iadd__" ⟨[l, .ref S], []⟩)) _ _ s
  refine wpAny_bind (wpAny_newObj_type ?_)
  refine wpAny_pure ⟨plainId_quiet PySem.F.plain_list_iadd _, codeAny_builtin entry_list_iadd' ?_⟩
  rw [Around.under_plainId PySem.F.plain_list_iadd _]
  let D := s.heap.objs.size
  have hD : (s.heap.push { cls := .type "list", data := .seq ([] : List Value).toArray }).get? D = some { cls := .type "list", data := .seq #[] } := Heap.get?_push_size _ rfl
  have ho1 : (s.heap.push { cls := .type "list", data := .seq ([] : List Value).toArray }).get? S = some oS := Heap.get?_push_of_some _ ho
  have hsz1 : (s.heap.push { cls := .type "list", data := .seq ([] : List Value).toArray }).objs.size = D + 1 := by rw [Heap.size_push]
  show wpAny _ A.in1 (Builtin.List.listExtendWith (.ref D) (.ref S) (.ref D)) _ _ _
  unfold Builtin.List.listExtendWith
  refine wpAny_bind (wpAny_typeOf (T := "set") ⟨oS, ho1, hS.ex.1⟩ ?_)
  have h1 : Builtin.List.listSameRef (.ref D) (.ref S) = false := by simp [Builtin.List.listSameRef, D, Nat.ne_of_gt hSl]
  have h2 : (Value.type "set" == Value.type "list") = false := by decide
  have h3 : (Value.type "set" == Value.type "tuple") = false := by decide
  simp only [h1, h2, h3, Bool.or_false, Bool.false_eq_true, if_false]
  refine wpAny_bind (set_walks (C := C) (l := l) (show A.in1.handled = none from hh) ho1 hS hl hz fun h2 d I fp St vs W hst hvs hlt hfp hI hk => ?_)
  have hDf : D ∉ fp := fun hm => by
    rcases hfp D hm with e | e
    · exact absurd e.symm (Nat.ne_of_lt hSl)
    · rw [hsz1] at e; exact absurd e (Nat.not_le.mpr (Nat.lt_succ_self _))
  have hID : I ≠ D := fun e => by rw [hsz1, e] at hI; exact absurd hI (Nat.not_le.mpr (Nat.lt_succ_self _))
  have hIs : s.heap.objs.size ≤ I := by rw [hsz1] at hI; exact Nat.le_of_succ_le hI
  have hD2 := hk D _ hD
  refine wpAny_bind (wpAny_holding (set_hint (C := C) ⟨oS, hk S _ ho1, hS.ex.1⟩ ?_))
  refine wpAny_ite_split (fun zz => ?_) (fun hab => absurd (by decide +kernel) hab)
  refine wpAny_bind (wpAny_rule ?_)
  refine wpAny_bind ?_
  show wpAny _ _ (updateSeq D (·.push .none) >>= fun zz => updateSeq D (·.pop)) _ _ _
  refine wpAny_bind (wpAny_updateSeq hD2 rfl ?_)
  have hD3 := Heap.get?_update_self (Obj.mapSeq (·.push Value.none)) hD2 rfl
  refine wpAny_updateSeq (hz := by seq_fits) hD3 rfl ?_
  have hD4 := Heap.get?_update_self (Obj.mapSeq (·.pop)) hD3 rfl
  have oth : ∀ b o, b ≠ D → h2.get? b = some o → ((h2.update D (Obj.mapSeq (·.push Value.none))).update D (Obj.mapSeq (·.pop))).get? b = some o :=
    fun b o hb e => (Heap.get?_update_other _ _ (Ne.symm hb)).trans ((Heap.get?_update_other _ _ (Ne.symm hb)).trans e)
  have hst4 := W.frame 0 _ ((h2.update D (Obj.mapSeq (·.push Value.none))).update D (Obj.mapSeq (·.pop))) hst fun b hb o e => oth b o (fun q => hDf (q ▸ hb)) e
  refine wpAny_pure ⟨plainId_quiet PySem.F.plain_extend_loop _, codeAny_extend_loopS W.toS (by rw [sizeLine_eq]; omega) D hDf (.ref D) l.length 0 _ #[] _ rfl (Nat.zero_le _) hst4 hD4 (ItemsOf.nil _) fun s' acc' c' hm hS' hacc => ?_⟩
  rw [Moved.eq_with hm]
  show wpAny _ A (load D >>= _) _ _ _
  refine wpAny_bind (wpAny_load hS' ?_)
  have hvl : vs.length = l.length := by rw [hvs.length_eq]; simp [strValues]
  have e1 : acc'.toList = vs := by
    apply List.ext_getElem?
    intro i
    rcases Nat.lt_or_ge i l.length with q | q
    · have q1 : acc'[i]? = some (acc'[i]'(by rw [hacc.1]; exact q)) := Array.getElem?_eq_getElem _
      rw [Array.getElem?_toList, q1]
      exact (hacc.2 i _ q1).symm
    · rw [List.getElem?_eq_none (by rw [Array.length_toList, hacc.1]; exact q), List.getElem?_eq_none (by rw [hvl]; exact q)]
  refine wpAny_pure ?_
  show R acc'.toList _
  rw [e1]
  refine h s'.heap s'.toks d vs hvs fun b o e => ?_
  have hbD : b ≠ D := Nat.ne_of_lt (Heap.lt_size e)
  refine hm.heap b o (fun hmem => ?_) (oth b o hbD (hk b o (Heap.get?_push_of_some _ e)))
  rcases List.mem_cons.mp hmem with e' | hmem
  · exact hbD e'
  · rw [List.mem_singleton] at hmem
    subst hmem
    exact absurd (Heap.lt_size e) (Nat.not_lt.mpr hIs)
end
end Mine
end
section
set_option maxRecDepth 100000
set_option linter.unusedVariables false
namespace Mine
open PySem PySem.Spec PySem.Calls PyProof.Rows PySem.W
open AutoSeq1 (wpAny_loadPart')

section
variable {prog : Program} {w : World} {A : Around} {E : Value → Shared → Prop} {s : Shared}
theorem lt_loop1 {l b : Addr} {items items2 : Array Value} {n n2 : Nat} {dd dd2 : Option Addr} {sl sl2 : Array (Option Value)} {R : Result → Shared → Prop} (hsz : items.size = 1) (hsz2 : items2.size = 1) (hl : s.heap.get? l = some { cls := .type "list", dict := dd, data := .seq items n, slots := sl }) (hb : s.heap.get? b = some { cls := .type "list", dict := dd2, data := .seq items2 n2, slots := sl2 })
    (h : R (.ok (.ret (.bool false))) s) : codeAny (model prog w) A (.builtin "list.__eq__.loop" ⟨[.ref l, .ref b, rawInt 1, rawInt 0], []⟩) R s := by
  refine codeAny_builtin MeetsSeq3.entry_eq_loop ?_
  rw [Around.under_plainId MeetsSeq3.plain_eq_loop _]
  obtain ⟨hp, g, d, tk, os⟩ := s
  unfold Builtin.«list.__eq__.loop»
  wp_walk using wpAny_loadPart' hl, wpAny_loadPart' hb
  have hi1 : items[((1 : Int)).toNat]? = none := by simp; omega
  have hi2 : items2[((1 : Int)).toNat]? = none := by simp; omega
  rw [hi1, hi2]
  wp_walk using wpAny_loadPart' hl, wpAny_loadPart' hb
  show R (.ok (.ret (.bool (decide (items.size < items2.size))))) _
  rw [hsz, hsz2]
  exact h
theorem lt_loop0 {l b : Addr} {x y : Str} {t u : Tok} {items items2 : Array Value} {n n2 : Nat} {dd dd2 : Option Addr} {sl sl2 : Array (Option Value)} {R : Result → Shared → Prop} (i1 : items[0]? = some (.str x t)) (i2 : items2[0]? = some (.str y u)) (hsz : items.size = 1) (hsz2 : items2.size = 1)
    (hl : s.heap.get? l = some { cls := .type "list", dict := dd, data := .seq items n, slots := sl }) (hb : s.heap.get? b = some { cls := .type "list", dict := dd2, data := .seq items2 n2, slots := sl2 })
    (h : R (.ok (.ret (.bool (decide (x.cps.toList < y.cps.toList))))) s) : codeAny (model prog w) A (.builtin "list.__eq__.loop" ⟨[.ref l, .ref b, rawInt 0, rawInt 0], []⟩) R s := by
  refine codeAny_builtin MeetsSeq3.entry_eq_loop ?_
  rw [Around.under_plainId MeetsSeq3.plain_eq_loop _]
  obtain ⟨hp, g, d, tk, os⟩ := s
  unfold Builtin.«list.__eq__.loop»
  wp_walk using wpAny_loadPart' hl, wpAny_loadPart' hb
  have hi1 : items[((0 : Int)).toNat]? = some (.str x t) := i1
  have hi2 : items2[((0 : Int)).toNat]? = some (.str y u) := i2
  rw [hi1, hi2]
  refine wpAny_bind (wpAny_eqBool_str ?_)
  by_cases he : x = y
  · subst he
    simp only [decide_true]
    wp_walk
    exact ⟨plainId_quiet MeetsSeq3.plain_eq_loop _, lt_loop1 hsz hsz2 hl hb (by rw [decide_eq_false (List.lt_irrefl _)] at h; exact h)⟩
  · rw [decide_eq_false he]
    wp_walk using wpAny_loadPart' hl, wpAny_loadPart' hb
    rw [hi1, hi2]
    refine wpAny_bind ?_
    refine lt_str (x := x) (y := y) ?_
    exact wpAny_pure h
theorem list1_lt {a b : Addr} {x y : Str} {t u : Tok} {n m : Nat} {dd dd2 : Option Addr} {sl sl2 : Array (Option Value)} {Q : Bool → Shared → Prop} (ha : s.heap.get? a = some { cls := .type "list", dict := dd, data := .seq #[.str x t] n, slots := sl }) (hb : s.heap.get? b = some { cls := .type "list", dict := dd2, data := .seq #[.str y u] m, slots := sl2 }) (hu : A.units < cLine)
    (h : Q (decide (sLt x y)) s) : wpAny (model prog w) A (oneLt' true (.ref a) (.ref b)) Q E s := by
  rw [oneLt'_eq]
  simp only [if_true]
  refine wpAny_bind (wpAny_cRoomFor hu ?_)
  have mt : MeetsIn prog w (Builtin.«list.__lt__» ⟨[.ref a, .ref b], []⟩) (fun zz R s => s.heap.get? a = some { cls := .type "list", dict := dd, data := .seq #[.str x t] n, slots := sl } ∧ s.heap.get? b = some { cls := .type "list", dict := dd2, data := .seq #[.str y u] m, slots := sl2 } ∧ R (.ok (.ret (.bool (decide (x.cps.toList < y.cps.toList))))) s) := by
    intro A R s h
    obtain ⟨hp, g, d, tk, os⟩ := s
    obtain ⟨ha, hb, h⟩ := h
    have f3 := AutoSeq1.sub_list_list
    unfold Builtin.«list.__lt__»
    wp_walk using wpAny_loadPart' ha, wpAny_loadPart' hb
    exact ⟨plainId_quiet MeetsSeq3.plain_eq_loop _, lt_loop0 rfl rfl rfl rfl ha hb h⟩
  refine wpAny_bind (wpAny_callSpecialIfBound?_slot (T := "list") ⟨_, ha, rfl⟩ PySem.F.slot_list_lt (call_meetsIn PySem.F.slot_list_lt ⟨_, ha, rfl⟩ PySem.F.entry_list_lt (PySem.F.args_list_lt_2 _ _) mt ⟨ha, hb, ?_⟩))
  exact wpAny_truthy_bool h
end
noncomputable def Keys1 (h : Heap) (ks : List Value) (xs : List Str) : Prop := ks.length = xs.length ∧ ∀ (i : Nat) (x : Str), xs[i]? = some x → ∃ a dd sl n t, ks[i]? = some (.ref a) ∧ h.get? a = some { cls := .type "list", dict := dd, data := .seq #[.str x t] n, slots := sl }
theorem Keys1.of {g h : Heap} (k : Le g h) {ks : List Value} {xs : List Str} (hv : VRs g (xs.map fun x => .lst [.str x]) ks) : Keys1 h ks xs := by
  refine ⟨by have := hv.length; simpa using this.symm, fun i x hx => ?_⟩
  obtain ⟨v, e1, e2⟩ := hv.get (i := i) (x := .lst [.str x]) (by rw [List.getElem?_map, hx]; rfl)
  obtain ⟨a, ⟨ocls, odict, odata, oslots⟩, vs, n, rfl, h1, h2, h3, h4⟩ := e2.isLst
  obtain ⟨v1, q0, q1⟩ := h4.one
  obtain ⟨t, rfl⟩ := q1.isStr
  obtain rfl : vs = #[.str x t] := Array.toList_inj.mp q0
  obtain rfl : ocls = _ := h2
  obtain rfl : odata = _ := h3
  exact ⟨a, odict, oslots, n, t, e1, k _ _ h1⟩
section
variable {prog : Program} {w : World} {A : Around} {E : Value → Shared → Prop} {s : Shared}
theorem Keys1.kind {ks : List Value} {xs : List Str} (x : Keys1 s.heap ks xs) (h2 : 2 ≤ ks.length) (Q : SortKind → Shared → Prop) (h : Q oneType' s) : wpAny (model prog w) A (keyKind' ks.toArray) Q E s := by
  refine kas_kind (T := .type "list") h2 (fun v hv => ?_) (by decide) (by decide) h
  obtain ⟨i, hi, rfl⟩ := List.mem_iff_getElem.mp hv
  obtain ⟨a, dd, sl, n, t, e1, e2⟩ := x.2 i (xs[i]'(by rw [← x.1]; exact hi)) (List.getElem?_eq_getElem _)
  rw [List.getElem?_eq_getElem hi] at e1
  rw [Option.some.inj e1]
  exact (Looks.ld e2).andThen .now
theorem Keys1.asks {ks : List Value} {xs : List Str} (x : Keys1 s.heap ks xs) (hn : xs.Nodup) (h2 : 2 ≤ ks.length) (hu : A.units < cLine) :
    Asks ks.length (fun i => rkOf xs (xs.getD i Str.empty)) (kas_ask prog w A oneType' ks) s := by
  have hl := x.1
  have at_ : ∀ i, i < ks.length → ∃ e, xs[i]? = some e ∧ xs.getD i Str.empty = e ∧ e ∈ xs := fun i hi => by
    have hi' : i < xs.length := by omega
    refine ⟨xs[i], List.getElem?_eq_getElem hi', ?_, List.getElem_mem hi'⟩
    rw [List.getD_eq_getElem?_getD, List.getElem?_eq_getElem hi']
    rfl
  refine ⟨by omega, fun i j hi hj Cn hC => ?_, fun i j hi hj he => ?_⟩
  · obtain ⟨ei, hei, gi, mi⟩ := at_ i hi
    obtain ⟨ej, hej, gj, mj⟩ := at_ j hj
    obtain ⟨a, dd, sl, n, t, q1, q2⟩ := x.2 i ei hei
    obtain ⟨a', dd', sl', n', t', r1, r2⟩ := x.2 j ej hej
    unfold kas_ask
    have f1 : ks.getD i Value.none = .ref a := by rw [List.getD_eq_getElem?_getD, q1]; rfl
    have f2 : ks.getD j Value.none = .ref a' := by rw [List.getD_eq_getElem?_getD, r1]; rfl
    rw [f1, f2, keyLt'_oneType]
    refine list1_lt q2 r2 hu ?_
    have : decide (sLt ei ej) = decide (rkOf xs ei < rkOf xs ej) := decide_eq_decide.mpr (rk_iff mi mj)
    rw [this]
    have := hC
    simp only [gi, gj] at this
    exact this
  · obtain ⟨ei, hei, gi, mi⟩ := at_ i hi
    obtain ⟨ej, hej, gj, mj⟩ := at_ j hj
    simp only [gi, gj] at he
    have he := rk_inj mi mj he
    subst he
    have hi' : i < xs.length := by omega
    have hj' : j < xs.length := by omega
    rw [List.getElem?_eq_getElem hi'] at hei
    rw [List.getElem?_eq_getElem hj'] at hej
    have e3 : xs[i] = xs[j] := (Option.some.inj hei).trans (Option.some.inj hej).symm
    rcases Nat.lt_trichotomy i j with q | q | q
    · exact absurd e3 (List.pairwise_iff_getElem.mp hn i j hi' hj' q)
    · exact q
    · exact absurd e3.symm (List.pairwise_iff_getElem.mp hn j i hj' hi' q)
end
end Mine
end
section
set_option maxRecDepth 100000
set_option linter.unusedVariables false
namespace Mine
open PySem PySem.Spec PySem.Calls PyProof.Rows PySem.W

theorem RepL.rawAt {C : Cx} {L : Led} {g : Heap} {s : Shared} {a : Addr} {o : Obj} (R : RepL C g L s) (hm : (a, .raw o) ∈ L) : s.heap.get? a = some o := by
  obtain ⟨o', h1, h2⟩ := R.led _ (Cx.inAll hm)
  rw [h1, show o' = o from h2]
section
variable {C : Cx} {A : Around} {E : Value → Shared → Prop} {s : Shared}
theorem sort_key {m : Nat} {L0 : Led} {g : Heap} {D : Addr} {fv : Value} {f : AV} {xs : List Str} {vs : List Value} {c : Nat} {P : PySem.Fin → Shared → Prop} (r : Room A m) (hn : m ≤ 190)
    (R0 : RepL C g ((D, .raw (seqObj "list" vs.toArray c)) :: L0) s) (hv : VRs g (xs.map .str) vs) (hfv : VR g f fv) (h64 : vs.length < 64) (hnd : xs.Nodup)
    (hf : ∀ x ∈ xs, ∀ Lw, (∀ p ∈ L0, p ∈ Lw) → CALL C m f [.str x] [] Lw (fun v L' => v = .lst [.str x] ∧ L' = Lw))
    (h : ∀ g' s' c' (ys : List Str) (us : List Value), Le g g' → ys.Perm xs → VRs g' (ys.map .str) us → RepL C g' ((D, .raw (seqObj "list" us.toArray c')) :: L0) s' → P (.done (.ret .none)) s') :
    wpAny C.M A (ksk_tree D fv false) P E s := by
  have hxl : xs.length = vs.length := by have := hv.length; simpa using this
  have ho := R0.rawAt List.mem_cons_self
  obtain ⟨e1, ho1⟩ : ∃ e1, (s.heap.update D (Obj.mapSeq fun zz => (#[] : Array Value))).get? D = some (seqObj "list" #[] e1) := ⟨_, get?_update_seq ho fun zz => #[]⟩
  have R1 := R0.set (x := .raw (seqObj "list" #[] e1)) LSet.here (Heap.SameBut.update s.heap D (Obj.mapSeq fun zz => (#[] : Array Value))) ⟨_, ho1, rfl⟩ s.toks
  have R2 := R1.heapAll (h' := (s.heap.update D (Obj.mapSeq fun zz => (#[] : Array Value))).push (seqObj "tuple" vs.toArray 0)) (fun b o e => Heap.get?_push_of_some _ e) s.toks
  have R3 := R2.alloc (x := .raw (seqObj "list" #[] 0)) (o := seqObj "list" #[] 0) rfl rfl s.toks
  unfold ksk_tree
  refine wpAny_bind (listItems_at ho rfl ?_)
  refine wpAny_bind (listUpdate_at ho rfl ?_ (by rw [List.size_toArray, sizeLine_eq]; omega) (Nat.zero_le _))
  refine wpAny_bind (seqEpoch_at ho1 rfl ?_)
  refine wpAny_bind (wpAny_newTuple ?_ (by show vs.length ≤ _; rw [sizeLine_eq]; omega))
  refine wpAny_bind (wpAny_newList ?_ (Nat.zero_le _))
  refine wpAny_holding ?_
  generalize hkS : ((s.heap.update D (Obj.mapSeq fun zz => (#[] : Array Value))).push (seqObj "tuple" vs.toArray 0)).objs.size = kS at R3
  show wpAny C.M A (ksk_rest D fv false vs.toArray e1 (.ref kS)) P E { s with heap := ((s.heap.update D (Obj.mapSeq fun zz => (#[] : Array Value))).push (seqObj "tuple" vs.toArray 0)).push (seqObj "list" #[] 0) }
  unfold ksk_rest
  refine wpAny_bind (wpAny_rule ?_)
  rw [List.forIn_toArray]
  refine wpAny_bind (ksk_fold (fun i s' => ∃ g' ks e, Le g g' ∧ VRs g' ((xs.take i).map fun x => .lst [.str x]) ks ∧ RepL C g' ((kS, .raw (seqObj "list" ks.toArray e)) :: (D, .raw (seqObj "list" #[] e1)) :: L0) s') vs 0 _
    ⟨g, [], 0, .refl g, .nil, R3⟩ ?step ?done)
  case step =>
    rintro j x s' hx ⟨g', ks, e, k1, hks, R'⟩
    simp only [Nat.zero_add] at hks ⊢
    have hj : j < vs.length := (List.getElem?_eq_some_iff.mp hx).1
    have hxj : xs[j]? = some (xs[j]'(by omega)) := List.getElem?_eq_getElem _
    obtain ⟨v', e1', e2'⟩ := hv.get (i := j) (x := .str (xs[j]'(by omega))) (by rw [List.getElem?_map, hxj]; rfl)
    rw [hx] at e1'
    cases e1'
    have hkl : ks.length ≤ vs.length := by have := hks.length; rw [List.length_map, List.length_take] at this; omega
    have hcall := hf _ (List.getElem_mem (l := xs) (n := j) (by omega)) _ (fun p hp => List.mem_cons_of_mem _ (List.mem_cons_of_mem _ hp)) A g' s' fv [x] [] r R' (hfv.mono k1) (.cons (e2'.mono k1) .nil) .nil
    refine wpAny_bind (wpAny_attempt (wpAny_mono hcall (fun v s'' he => ?_) fun zz zz hF => hF.elim))
    obtain ⟨g2, L2, k2, R2', av, hav, rfl, rfl⟩ := he
    dsimp only
    have hok := R2'.rawAt List.mem_cons_self
    obtain ⟨c2, hc2⟩ : ∃ c2, (s''.heap.update kS (Obj.mapSeq (·.push v))).get? kS = some (seqObj "list" (ks.toArray.push v) c2) := ⟨_, get?_update_seq hok (·.push v)⟩
    refine wpAny_bind (listUpdate_at hok rfl ?_ (by rw [List.size_toArray, sizeLine_eq]; omega) (Nat.le_trans (Nat.le_of_eq (Array.size_push ..)) (by rw [List.size_toArray, sizeLine_eq]; omega)))
    refine wpAny_pure ⟨rfl, g2, ks ++ [v], c2, k1.trans k2, ?_, ?_⟩
    · rw [List.take_add_one, hxj, List.map_append]
      exact (hks.mono k2).append (.cons hav .nil)
    · have ea : ks.toArray.push v = (ks ++ [v]).toArray := by simp
      rw [ea] at hc2
      exact R2'.set (x := .raw (seqObj "list" (ks ++ [v]).toArray c2)) LSet.here (Heap.SameBut.update s''.heap kS (Obj.mapSeq (·.push v))) ⟨_, hc2, rfl⟩ s''.toks
  case done =>
    rintro s' ⟨g', ks, e, k1, hks, R'⟩
    rw [List.take_of_length_le (by omega)] at hks
    have hkl : ks.length = vs.length := by have := hks.length; rw [List.length_map] at this; omega
    have hok := R'.rawAt (a := kS) List.mem_cons_self
    have hod := R'.rawAt (a := D) (List.mem_cons_of_mem _ List.mem_cons_self)
    have K1 := Keys1.of R'.sub hks
    refine wpAny_bind (listItems_at hok rfl ?_)
    have fin : ∀ (st : SortSt) (p : Array Nat), PermN vs.length p → failedOf st = none → (arrOf st).map (fun zz => zz.2) = List.toArray (p.toList.map fun i => vs.getD i Value.none) → wpAny C.M A (ksk_tail D false e1 (.ref kS) st) P E s' := by
      intro st p hp hfl har
      unfold ksk_tail
      dsimp only
      rw [har]
      have hps := hp.size
      obtain ⟨c1, hc1⟩ : ∃ c1, (s'.heap.update kS (Obj.mapSeq fun zz => (#[] : Array Value))).get? kS = some (seqObj "list" #[] c1) := ⟨_, get?_update_seq hok fun zz => #[]⟩
      have R4 := R'.set (x := .raw (seqObj "list" #[] c1)) LSet.here (Heap.SameBut.update s'.heap kS (Obj.mapSeq fun zz => (#[] : Array Value))) ⟨_, hc1, rfl⟩ s'.toks
      have hod4 := R4.rawAt (a := D) (List.mem_cons_of_mem _ List.mem_cons_self)
      refine wpAny_bind (listUpdate_at hok rfl ?_ (by rw [List.size_toArray, sizeLine_eq]; omega) (Nat.zero_le _))
      refine wpAny_bind (wpAny_letGo ?_)
      refine wpAny_bind (seqEpoch_at hod4 rfl ?_)
      have hsz : (List.toArray (p.toList.map fun i => vs.getD i Value.none)).size = vs.length := by rw [List.size_toArray, List.length_map, Array.length_toList, hps]
      refine wpAny_bind (listUpdate_at hod4 rfl ?_ (Nat.zero_le _) (by show (if false = true then _ else _ : Array Value).size ≤ _; rw [if_neg Bool.false_ne_true, hsz, sizeLine_eq]; omega))
      rw [hfl]
      simp only [bne_self_eq_false, Bool.false_eq_true, if_false]
      obtain ⟨c3, hc3⟩ : ∃ c3, ((s'.heap.update kS (Obj.mapSeq fun zz => (#[] : Array Value))).update D (Obj.mapSeq fun zz => List.toArray (p.toList.map fun i => vs.getD i Value.none))).get? D = some (seqObj "list" (List.toArray (p.toList.map fun i => vs.getD i Value.none)) c3) := ⟨_, get?_update_seq hod4 fun zz => List.toArray (p.toList.map fun i => vs.getD i Value.none)⟩
      have R5 := R4.set (x := .raw (seqObj "list" (List.toArray (p.toList.map fun i => vs.getD i Value.none)) c3)) (.there .here) (Heap.SameBut.update _ D (Obj.mapSeq fun zz => List.toArray (p.toList.map fun i => vs.getD i Value.none))) ⟨_, hc3, rfl⟩ s'.toks
      refine wpAny_pure (h g' _ c3 (p.toList.map fun i => xs.getD i Str.empty) (p.toList.map fun i => vs.getD i Value.none) k1 ?_ ?_ (R5.less (List.sublist_cons_self _ _)))
      · have e0 : (List.range vs.length).map (fun i => xs.getD i Str.empty) = xs := by
          apply List.ext_getElem?
          intro i
          rw [List.getElem?_map]
          rcases Nat.lt_or_ge i xs.length with q | q
          · rw [List.getElem?_range (by omega), Option.map_some, List.getElem?_eq_getElem q, List.getD_eq_getElem?_getD, List.getElem?_eq_getElem q]; rfl
          · rw [List.getElem?_eq_none (by simpa using (by omega : vs.length ≤ i)), List.getElem?_eq_none q]; rfl
        have := hp.map (fun i => xs.getD i Str.empty)
        rwa [e0] at this
      · have key : ∀ l : List Nat, (∀ i ∈ l, i < vs.length) → VRs g' ((l.map fun i => xs.getD i Str.empty).map .str) (l.map fun i => vs.getD i Value.none) := by
          intro l
          induction l with
          | nil => intro _; exact .nil
          | cons i t ih =>
            intro hi
            have hi0 := hi i List.mem_cons_self
            have hxi : xs[i]? = some (xs[i]'(by omega)) := List.getElem?_eq_getElem _
            obtain ⟨v', q1, q2⟩ := hv.get (i := i) (x := .str (xs[i]'(by omega))) (by rw [List.getElem?_map, hxi]; rfl)
            refine .cons ?_ (ih fun j hj => hi j (List.mem_cons_of_mem _ hj))
            have f1 : vs.getD i Value.none = v' := by rw [List.getD_eq_getElem?_getD, q1]; rfl
            have f2 : xs.getD i Str.empty = xs[i]'(by omega) := by rw [List.getD_eq_getElem?_getD, hxi]; rfl
            show VR g' (.str (xs.getD i Str.empty)) (vs.getD i Value.none)
            rw [f1, f2]; exact q2.mono k1
        exact key _ fun i hi => List.mem_range.mp (hp.mem_iff.mp hi)
    unfold ksk_end
    dsimp only
    rw [if_neg Bool.false_ne_true]
    by_cases h2 : 2 ≤ vs.length
    · have hn2 : ¬ vs.toArray.size < 2 := by rw [List.size_toArray]; omega
      rw [if_neg hn2, if_neg hn2]
      refine wpAny_bind (wpAny_mono (K1.kind (by omega) (fun κ' s3 => κ' = oneType' ∧ s3 = s') ⟨rfl, rfl⟩) ?_ fun zz zz x => x)
      rintro _ s4 ⟨rfl, q4⟩
      rw [q4]
      have asks := K1.asks (prog := C.prog) (w := C.w) (A := A) (s := s') hnd (by omega) (by have := room_units r hn 0 (by omega); omega)
      rw [hkl] at asks
      refine wpAny_bind (wpAny_mono (kat_run (Q := fun st' s3 => s3 = s' ∧ ∃ p : Array Nat, PermN vs.length p ∧ arrOf st' = p.map (kas_item (ks.toArray.zip vs.toArray)) ∧ failedOf st' = none)
        (G := fun p s3 => s3 = s' ∧ PermN vs.length p) hkl h2 h64 (fun p' st' s3 a1 a2 a3 a4 => ⟨a4.1, p', a4.2, a2, a3⟩) (sort_wp asks fun p q1 q2 => ⟨rfl, q1⟩)) ?_ fun zz zz e => e)
      rintro ⟨⟨⟩, st'⟩ s3 ⟨rfl, p, hp, har, hfl⟩
      exact fin st' p hp hfl (kat_snds hkl har)
    · have hn2 : vs.toArray.size < 2 := by rw [List.size_toArray]; omega
      rw [if_pos hn2, if_pos hn2]
      refine wpAny_bind (wpAny_pure ?_)
      rw [StateT.run_pure]
      refine wpAny_bind (wpAny_pure ?_)
      dsimp only
      refine fin _ (List.toArray (List.range vs.length)) (by show (List.toArray (List.range vs.length)).toList.Perm _; rw [List.toList_toArray]) rfl ?_
      rw [if_neg Bool.false_ne_true]
      show (ks.toArray.zip vs.toArray).map (fun zz => zz.2) = _
      rw [List.toList_toArray, perm_small h2]
      apply Array.toList_inj.mp
      simp [List.map_snd_zip, hkl]
theorem RepL.draw {L : Led} {g : Heap} (R : RepL C g L s) (d : Drawn) : RepL C g L { s with drawn := d } := ⟨R.ok, R.base, R.sub, R.nd, R.free, R.led, R.os, R.gens⟩
end
section
variable {C : Cx} {L : Led} {n : Nat} {Q : AV → Led → Prop}
theorem room_in1 {A : Around} (r : Room A n) : Room A.in1.in1 (n + 1) := ⟨r.handled, Nat.le_trans r.depth (by omega), by have := r.units; show A.units + 1 + 1 ≤ _; omega⟩
theorem call_sorted_key {S : Addr} {o : Obj} {l : List (Str × Tok)} {f : AV} {xs : List Str} (hS : SObj C C.led l o) (hl : l ≠ []) (hx : l.map (fun zz => zz.1) = xs) (hnd : xs.Nodup) (h64 : xs.length < 64) (hn : n ≤ 180) (hm : (S, .raw o) ∈ L) (hfr : ∃ a, f = .obj a)
    (hf : ∀ x ∈ xs, ∀ Lw, (∀ p ∈ L, p ∈ Lw) → CALL C (n + 1) f [.str x] [] Lw (fun v L' => v = .lst [.str x] ∧ L' = Lw))
    (h : ∀ ys : List Str, ys.Perm xs → Q (.lst (ys.map .str)) L) : CALL C n (.cst (.builtin "sorted")) [.obj S] [("key", f)] L Q :=
  fun A g s vf vs kv r R hff hv hk => by
    obtain ⟨fa, rfl⟩ := hfr
    cases hff
    apply hv.eOne; intro v0 q1
    cases q1
    apply hk.eOne; intro fv q1
    cases q1
    have ho := R.rawAt hm
    have hll : l.length = xs.length := by rw [← hx, List.length_map]
    change OpL C A (call _ [_] [(Str.ofString "key", .ref fa)]) g s (VK Q)
    refine call_function_entry_kw kind_sorted plain_sorted entry_sorted (ksk_s1 _ _) ?_
    unfold Builtin.«sorted»
    refine wpAny_bind (m := checkCount "sorted" 1 1 _) (wpAny_pure ?_)
    refine wpAny_bind (set_collect (A := A.in1) r.handled ho hS hl (by omega) fun h1 tk d vs hvs hk1 => ?_)
    have R1 : RepL C g L { s with heap := h1, toks := tk, drawn := d } := (R.heapAll hk1 tk).draw d
    have hvl : vs.length = xs.length := by rw [hvs.length_eq, strValues, List.length_map, hll]
    refine wpAny_bind (wpAny_newList ?_ (by rw [hvl, sizeLine_eq]; omega))
    -- the order met
    obtain ⟨zs, hzp, hzv⟩ : ∃ zs : List Str, zs.Perm xs ∧ ∀ g' : Heap, VRs g' (zs.map .str) vs := by
      have key : ∀ (vs : List Value), (∀ v ∈ vs, ∃ x t, v = .str x t) → ∃ zs : List Str, (vs.map fun v => match v with | .str x _ => x | _ => Str.empty) = zs ∧ ∀ g' : Heap, VRs g' (zs.map .str) vs := by
        intro vs
        induction vs with
        | nil => intro _; exact ⟨[], rfl, fun zz => .nil⟩
        | cons v t ih =>
          intro hh
          obtain ⟨x, t1, rfl⟩ := hh v List.mem_cons_self
          obtain ⟨zs, e, hz⟩ := ih fun u hu => hh u (List.mem_cons_of_mem _ hu)
          exact ⟨x :: zs, by simp [e], fun g' => .cons (.str _ _) (hz g')⟩
      obtain ⟨zs, e, hz⟩ := key vs fun v hv => by
        obtain ⟨p, _, e⟩ := List.mem_map.mp (hvs.mem_iff.mp hv)
        exact ⟨_, _, e.symm⟩
      refine ⟨zs, ?_, hz⟩
      have := hvs.map (fun v => match v with | .str x _ => x | _ => Str.empty)
      rw [e] at this
      refine this.trans (List.Perm.of_eq ?_)
      rw [← hx, strValues, List.map_map]
      rfl
    have R2 := R1.alloc (x := .raw (seqObj "list" vs.toArray 0)) (o := seqObj "list" vs.toArray 0) rfl rfl tk
    have hD := R2.rawAt List.mem_cons_self
    refine wpAny_bind (wpAny_holding (wpAny_call_entry_kw slot_list_sort ⟨_, hD, rfl⟩ entry_list_sort ?body (ksk_l1 _ _)))
    case body =>
      rw [ksk_t1]
      refine sort_key (room_in1 r) (by omega) R2 (hzv g) (.obj fa) (by omega) (hzp.nodup_iff.mpr hnd) (fun x hx' Lw hLw => hf x (hzp.mem_iff.mp hx') Lw hLw) fun g' s' c' ys us k1 hp hu R3 => ?_
      refine ⟨.none, rfl, wpAny_pure ⟨_, rfl, ?_⟩⟩
      have hD3 := R3.rawAt List.mem_cons_self
      have hDn := (List.nodup_cons.mp (show (h1.objs.size :: ads (L ++ C.pins)).Nodup from R3.nd)).1
      have R4 := R3.less (List.sublist_cons_self _ _)
      refine ⟨hideAll s'.heap (ads (C.all L)), L, k1.trans R4.wide, R4.toWide, .lst (ys.map .str), .lst (hideAll_get _ hD3 hDn) rfl rfl ?_, h ys (hp.trans hzp)⟩
      rw [List.toList_toArray]
      exact hu.mono R4.wide
end
end Mine
end
section
set_option maxRecDepth 100000
set_option linter.unusedVariables false
namespace Mine
open PySem PySem.Spec PySem.Calls PyProof.Rows PySem.W

theorem nodup_fst {α β : Type} : ∀ {l : List (α × β)} {a : α} {x y : β}, (l.map (fun zz => zz.1)).Nodup → (a, x) ∈ l → (a, y) ∈ l → x = y
  | p :: r, a, x, y, hn, hx, hy => by
    have hn' := List.nodup_cons.mp (show (p.1 :: r.map (fun zz => zz.1)).Nodup from hn)
    rcases List.mem_cons.mp hx with e1 | e1
    · rcases List.mem_cons.mp hy with e2 | e2
      · rw [← e2] at e1; exact (Prod.mk.inj e1).2
      · exact absurd (List.mem_map_of_mem (f := (fun zz => zz.1)) e2) (by rw [← e1] at hn'; exact hn'.1)
    · rcases List.mem_cons.mp hy with e2 | e2
      · exact absurd (List.mem_map_of_mem (f := (fun zz => zz.1)) e1) (by rw [← e2] at hn'; exact hn'.1)
      · exact nodup_fst hn'.2 e1 e2
theorem RepL.turn {C : Cx} {L : Led} {g : Heap} {s : Shared} {a : Addr} {x : AO} (R : RepL C g L s) (hm : (a, x) ∈ C.all L) {h' : Heap} (k : ∀ b o, b ≠ a → s.heap.get? b = some o → h'.get? b = some o)
    (ho : At C (hideAll h' (ads (C.all L))) h' a x) (t : Nat) : Le g (hideAll h' (ads (C.all L))) ∧ RepL C (hideAll h' (ads (C.all L))) L { s with heap := h', toks := t } := by
  have hle : Le g (hideAll h' (ads (C.all L))) := fun b o e => by
    have hb : b ∉ ads (C.all L) := fun q => by rw [R.free b q] at e; cases e
    exact hideAll_get _ (k b o (fun q => hb (q ▸ List.mem_map_of_mem (f := fun x : Addr × AO => x.1) hm)) (R.sub b o e)) hb
  refine ⟨hle, R.ok, R.base.trans hle, fun zz zz e => of_hideAll _ e, R.nd, fun zz h => hideAll_none _ h, fun p hp => ?_, R.os, R.gens⟩
  by_cases e : p.1 = a
  · obtain ⟨b, y⟩ := p
    dsimp only at e
    subst e
    have : y = x := nodup_fst R.nd hp hm
    subst this
    exact ho
  · obtain ⟨o, h1, h2⟩ := R.led p hp
    exact ⟨o, k _ _ e h1, h2.monoD hle.d⟩

set_option tactic.hygienic true in
theorem codeAmong_snoc_inv {pos : Pos} {a b : Int} {c cv : Value} (l : List Value) (h : TriplesOk l) (hc : codeAmong pos (l ++ [rawInt a, rawInt b, c]) = some cv) : codeAmong pos l = some cv ∨ cv = c := by
  fun_induction TriplesOk l with
  | case1 =>
    right
    simp only [List.nil_append, codeAmong, rawInt] at hc
    split at hc
    · exact (Option.some.inj hc).symm
    · cases hc
  | case2 i t j u x rest ih =>
    simp only [List.cons_append, codeAmong] at hc ⊢
    split at hc
    · rename_i hh; rw [if_pos hh]; exact .inl hc
    · rename_i hh; rw [if_neg hh]; exact ih h hc
  | case3 => exact h.elim
structure LamOk (C : Cx) (c P : Addr) : Prop where
  code : CodeHd C.hB c P
  bm : ∃ bm ob, C.mg "__builtins__" = some (.ref bm) ∧ bm ≠ builtinsNs ∧ C.hB.get? bm = some ob ∧ ob.cls = .type "module" ∧ ob.dict = some builtinsNs ∧ ob.data = .plain
  pin : ∃ q, (P, AO.tab q) ∈ C.pins
  sys : SysIn C
section
variable {C : Cx} {F : SF} {ρ : Vars} {L : Led} {Q : AV → Led → Prop}
theorem ev_Lambda {params : Arguments} {body : Expr} {lscope : Scope} {pos : Pos} {c P : Addr} (hl : LamOk C c P) (hcode : F.code = .ref c) (hdef : ∀ env, defaultsOf params env = ([], [])) (hclo : ∀ env, closureFor lscope env = pure [])
    (h : ∀ f q pm c' ct, Q (.obj f) ((f, .fn (kla_fn "<lambda>" q params body lscope [] pm (.ref c') ct)) :: L)) : EV C F ρ L (.Lambda params body lscope pos) Q := fun A env own g s r0 hE Fo => by
  refine kla_eval (hdef env) ?_
  rw [makeFunction_eq]
  simp only [List.zip_nil_right, List.filterMap_nil, List.isEmpty_nil, if_true, pure_bind]
  refine Fo.liftV fun g1 k1 R => ?_
  obtain ⟨bm, ob, hbm, hne0, hbo0, hcls, hdict, hdata⟩ := hl.bm
  obtain ⟨tq, hpin⟩ := hl.pin
  obtain ⟨oP, hP, ps, rfl, htr, hcs⟩ := R.led _ (Cx.pinAll (L := L) hpin)
  have hbo : s.heap.get? bm = some ob := R.sub _ _ (R.base _ _ hbo0)
  have hg : s.heap.Ns mainGlobals C.mg := R.ok.g.keeps (R.base.trans R.sub)
  have hCd : CodeHd s.heap c P := hl.code.keeps (R.base.trans R.sub)
  have hPn : C.hB.get? P = none := by
    cases e : C.hB.get? P with
    | none => rfl
    | some o => exact absurd (R.base _ _ e) (by rw [R.free P (List.mem_map_of_mem (f := fun x : Addr × AO => x.1) (Cx.pinAll (L := L) hpin))]; exact fun w => nomatch w)
  have hgP : mainGlobals ≠ P := fun q => by
    obtain ⟨o, es, ep, e, _⟩ := R.ok.g
    rw [q, hPn] at e; cases e
  have hneP : bm ≠ P := fun q => by rw [q, hPn] at hbo0; cases hbo0
  unfold makeTail
  rw [hclo env, hE.globals]
  refine wpAny_bind (wpAny_pure ?_)
  simp only [List.isEmpty_nil, if_true]
  refine wpAny_bind (wpAny_pure ?_)
  have hec : env.code = .ref c := hE.code.trans hcode
  cases hca : codeAmong pos ps.toList with
  | some cv =>
    obtain ⟨c', oc, vs, rfl, q1, q2, q3, x, t, q4⟩ := hcs pos cv hca
    refine wpAny_bind (wpAny_functionCode_hit hec (hCd.code hP htr) hca ?_)
    refine wpAny_bind (wpAny_builtinsFor hg hbm hne0 hbo hcls hdict hdata ?_)
    refine wpAny_bind (wpAny_nsGet hg ?_)
    refine wpAny_bind (wpAny_pure (wpAny_newObj_type ?_ (by size_fits)))
    exact ⟨g1, _, .refl g1, R.alloc (x := .fn _) ⟨rfl, c', oc, vs, x, t, rfl, q1, q2, q3, q4⟩ rfl s.toks, _, .obj _, h _ _ _ _ _⟩
  | none =>
    refine wpAny_bind (wpAny_functionCodeX hec (hCd.code hP htr) (hCd.tab hP) hca fun c' h' tk hx hge hlt hisc hrec htb hnew => ?_)
    obtain ⟨P', hP', _, ⟨oc, vs, n1, n2, n3, _⟩, _⟩ := hnew
    obtain ⟨c₂, oc₂, vs₂, t, e2, m1, m2, m3⟩ := hrec
    cases e2
    rw [n1] at m1; cases m1
    rw [n3] at m2; cases m2
    have hc'n : c' ∉ ads (C.all L) := fun hm => by
      obtain ⟨p, hp, e⟩ := List.mem_map.mp hm
      obtain ⟨o, ho, _⟩ := R.led p hp
      rw [e] at ho
      exact absurd (Heap.lt_size ho) (Nat.not_lt.mpr hge)
    have hget := hideAll_get (ads (C.all L)) n1 hc'n
    obtain ⟨k2, R2⟩ := R.turn (Cx.pinAll (L := L) hpin) (h' := h') (fun b o hb e => hx b o hb e) ⟨_, htb.2, _, rfl, by rw [Array.toList_append]; exact TriplesOk_snoc _ _ _ _ htr, fun pos' cv hcv => by
      rw [Array.toList_append] at hcv
      rcases codeAmong_snoc_inv _ htr hcv with hcv | rfl
      · obtain ⟨a, oc', vs', z1, z2, z3, z4, z5⟩ := hcs pos' cv hcv
        have ha : a ∉ ads (C.all L) := fun hm => by rw [R.free a hm] at z2; cases z2
        refine ⟨a, oc', vs', z1, hideAll_get _ (hx a oc' (fun q => ha (q ▸ List.mem_map_of_mem (f := fun x : Addr × AO => x.1) (Cx.pinAll (L := L) hpin))) (R.sub _ _ z2)) ha, z3, z4, z5⟩
      · exact ⟨c', _, _, rfl, hget, n2, n3, _, _, m3⟩⟩ tk
    refine wpAny_bind (wpAny_builtinsFor (hg.extBut hx hgP) hbm hne0 (hx _ _ hneP hbo) hcls hdict hdata ?_)
    refine wpAny_bind (wpAny_nsGet (hg.extBut hx hgP) ?_)
    refine wpAny_bind (wpAny_pure (wpAny_newObj_type ?_ (by size_fits)))
    exact ⟨_, _, k2, R2.alloc (x := .fn _) ⟨rfl, c', _, _, _, _, rfl, hget, n2, n3, m3⟩ rfl tk, _, .obj _, h _ _ _ _ _⟩
theorem call_lam {n : Nat} {f : Addr} {q : Str} {params : Arguments} {body : Expr} {scope : Scope} {pm cdv ct : Value} {xs : List AV} {ks : List (Str × AV)} {ns : List Str}
    (hm : (f, .fn (kla_fn "<lambda>" q params body scope [] pm cdv ct)) ∈ L) (hbind : BIND C (kla_fn "<lambda>" q params body scope [] pm cdv ct) xs ks ρ) (hns : ρ.map (fun zz => zz.1) = ns) (hpar : parOk scope ns = true) (hn : n ≤ 190)
    (h : EV C ⟨scope, cdv, n + 1, true, []⟩ ρ L body Q)
    (hco : scope.isCoroutine = false) (hgen : scope.isGenerator = false) (hk : scope.kind = .function) : CALL C n (.obj f) xs ks L Q := by
  have hnd : (ρ.map (fun zz => zz.1)).Nodup := by rw [hns]; exact parOk_nodup hpar
  have hkind : ∀ x ∈ ρ.map (fun zz => zz.1), scope.names.lookup x = some .local ∨ scope.names.lookup x = some .cell := by rw [hns]; exact parOk_kind hpar
  intro A g s vf vs kv r R hvf hvs hkv
  cases hvf
  obtain ⟨us, hb, hus⟩ := hbind g s vs kv R.Xs hvs hkv
  obtain ⟨oF, ho, rfl, c', oc, cvs, qx, qt, rfl, hgc, hcc, hcd, hcq⟩ := R.led _ (Cx.inAll hm)
  have hlim : s.heap.NoLimit := R.ok.nolimit.keeps (R.base.trans R.sub)
  have hlenu : ρ.length = us.length := by have := hus.length; simpa using this
  have hmem : ∀ y ∈ (ρ.map (fun zz => zz.1)).zip us, y.1 ∈ ρ.map (fun zz => zz.1) := fun y hy => (List.of_mem_zip hy).1
  have mem_of_look : ∀ {x : Str}, scope.names.lookup x = some NameKind.cell → (x, NameKind.cell) ∈ scope.names := fun e => PySem.mem_of_lookup e
  refine wpAny_call (codeAny_of_tree ?_)
  show wpAny _ A.in1 (callAny (.ref f) _) _ _ s
  simp only [callAny]
  refine wpAny_bind (wpAny_load ho ?_)
  simp only [callFunction, hco, hgen]
  refine wpAny_bind (m := field (.ref c') 1) (wpAny_field (R.sub _ _ hgc) hcd hcq (wpAny_bind (wpAny_pure ?_)))
  refine wpAny_bind (hb _ _ _ _ ?_)
  refine wpAny_bind (wpAny_newFunctionEnv_cells hk (fun y hy => ?_) fun env he s1 I => ?_)
  · rcases hkind y.1 (hmem y hy) with h1 | h1
    · exact .inl h1
    · exact .inr ⟨h1, cellsFrom_some _ _ _ _ (.inl (mem_of_look h1))⟩
  · refine wpAny_bind (wpAny_enterFrame (hlim.keeps I.toInCall.keep) (by have := r.depth; show A.depth < _; unfold recursionLimit; omega) (wpAny_pure ⟨rfl, kla_codeExpr ?_⟩))
    have hsc : env.scope = scope := by rw [he]; rfl
    have hcells : env.cells = cellsFrom (s.heap.objs.size + 1) scope.names [] := by rw [he]; rfl
    have hloc : env.locals = s.heap.objs.size := by rw [he]; rfl
    have hE : EnvIs ⟨scope, .ref c', n + 1, true, []⟩ env := ⟨hsc, hk, by rw [he]; rfl, by rw [he]; rfl, by rw [he]; rfl, fun zz => (by rw [he]; exact fun q => nomatch q), fun zz q => nomatch q⟩
    obtain ⟨h1, tk, es1⟩ := I.toInCall.same
    have keep := I.toInCall.keep
    have frL : ∀ a ∈ ads (C.all L), a < s.heap.objs.size := fun a ha => by
      obtain ⟨p, hp, rfl⟩ := List.mem_map.mp ha
      obtain ⟨o, ho, _⟩ := R.led p hp
      exact Heap.lt_size ho
    let own : List Addr := env.locals :: env.cells.filterMap fun p => env.cells.lookup p.1
    have ownIs : ∀ a ∈ own, a = env.locals ∨ ∃ x, env.cells.lookup x = some a := fun a ha => by
      rcases List.mem_cons.mp ha with h | h
      · exact .inl h
      · obtain ⟨p, _, hp⟩ := List.mem_filterMap.mp h
        exact .inr ⟨p.1, hp⟩
    have inOwn : ∀ {x : Str} {c : Addr}, env.cells.lookup x = some c → c ∈ own := fun {x c} e => List.mem_cons_of_mem _ (List.mem_filterMap.mpr ⟨(x, c), PySem.mem_of_lookup e, e⟩)
    have ownGe : ∀ a ∈ own, s.heap.objs.size ≤ a := fun a ha => by
      rcases ownIs a ha with h | ⟨x, h⟩
      · rw [h, hloc]; exact Nat.le_refl _
      · have := I.above x a (PySem.mem_of_lookup h)
        exact Nat.le_of_lt (Nat.lt_of_le_of_lt (Nat.le_of_eq hloc.symm) this)
    have W := R.toWide
    have Fo : FrameOk C env own ρ (hideAll s.heap (ads (C.all L))) L s1 := by
      refine ⟨?_, fun a ha => ⟨?_, fun hl => ?_⟩, List.mem_cons_self, fun a ha => ?_, ⟨_, I.toInCall.ns, fun x av e => ?_⟩, fun x zz hx => ?_, fun x y c e1 e2 => ?_⟩
      · have := W.heapAll (h' := s1.heap) keep tk
        rw [es1] at this ⊢
        exact this
      · cases q : (hideAll s.heap (ads (C.all L))).get? a with
        | none => rfl
        | some o => exact absurd (Heap.lt_size (of_hideAll _ q)) (Nat.not_lt.mpr (ownGe a ha))
      · exact absurd (frL a hl) (Nat.not_lt.mpr (ownGe a ha))
      · rcases ownIs a ha with h | ⟨x, h⟩
        · subst h
          obtain ⟨o, es, ep, q1, q2, _⟩ := I.toInCall.ns
          exact ⟨o, q1, .inl ⟨es, ep, q2⟩⟩
        · obtain ⟨o, q1, q2⟩ := I.cell x a h
          exact ⟨o, q1, .inr (.inl ⟨_, q2⟩)⟩
      · obtain ⟨v, hv, b1, b2⟩ := bound_at (kindOf := env.kindOf) ρ us (fun zz => none) (fun zz => none) x av hus hnd e
        refine ⟨v, ?_, hv.mono R.wide⟩
        have hxm : x ∈ ρ.map (fun zz => zz.1) := List.mem_map.mpr ⟨(x, av), PySem.mem_of_lookup e, rfl⟩
        rcases hkind x hxm with hl | hl
        · have hl' : env.kindOf x = some .local := (hE.kindOf x).trans hl
          exact .inl ⟨hl', b1 hl'⟩
        · have hl' : env.kindOf x = some .cell := (hE.kindOf x).trans hl
          obtain ⟨c, hc⟩ := Option.isSome_iff_exists.mp (hcells ▸ cellsFrom_some scope.names (s.heap.objs.size + 1) [] x (.inl (mem_of_look hl)) : (env.cells.lookup x).isSome = true)
          refine .inr (.inl ⟨hl', c, hc, inOwn hc, ?_⟩)
          have := I.cell x c hc
          rwa [b2 (by rw [hl']; decide)] at this
      · have hl : scope.names.lookup x = some .cell := (hE.kindOf x).symm.trans hx
        obtain ⟨c, hc⟩ := Option.isSome_iff_exists.mp (hcells ▸ cellsFrom_some scope.names (s.heap.objs.size + 1) [] x (.inl (mem_of_look hl)) : (env.cells.lookup x).isSome = true)
        exact ⟨c, _, hc, inOwn hc, I.cell x c hc⟩
      · exact name_of_addr I.apart (PySem.mem_of_lookup e1) (PySem.mem_of_lookup e2)
    refine wpAny_mono (h (A.deeper env) env own _ s1 (r.next env) hE Fo) (fun v s2 hx => ?_) fun zz zz f => f.elim
    obtain ⟨g', L', k, Fo', av, q1, q2⟩ := hx
    exact ⟨g', L', R.wide.trans k, Fo'.rep, av, q1, q2⟩
noncomputable def noCut (y x : Str) : Bool := (decide (x.length < y.length) || decide (PySem.Builtin.Str.strKind x < PySem.Builtin.Str.strKind y)) || (!(y.length == 0) && (Builtin.Str.occurrences x y 0 x.length (limitOf x 1)).isEmpty)
theorem call_split_not {n : Nat} {x y : Str} (hc : noCut y x = true) (h : Q (.lst [.str x]) L) : CALL C n (.cst (.builtin "str.split")) [.str x, .str y, .int 1] [] L Q := fun A g s vf vs kv r R hf hv hk => by
  cases hf; cases hk
  apply hv.eThree; intro v1 v2 v3 q1 q2 q3
  obtain ⟨t, rfl⟩ : ∃ t, v1 = .str x t := by cases q1; exact ⟨_, rfl⟩
  obtain ⟨u, rfl⟩ : ∃ t, v2 = .str y t := by cases q2; exact ⟨_, rfl⟩
  obtain ⟨v, rfl⟩ : ∃ t, v3 = .int 1 t := by cases q3; exact ⟨_, rfl⟩
  change OpL C A (call _ [_, _, _] []) g s (VK Q)
  refine wpAny_call_entry PySem.F.slot_str_split (typeIs_str _ _ _) PySem.F.entry_str_split ?_ (PySem.F.args_str_split_3 _ _ _)
  obtain ⟨raising, htree⟩ := split_sep_max_tree x y 1 t u v (by decide)
  rw [htree]
  have fin : wpAny C.M A.in1 (newList [.str x t] >>= fun v => ret v) (fun fin s' => ∃ v, fin = Fin.done (Flow.ret v) ∧ P5 (RepL C) g (VK Q) v s') (fun e s' => Never e s') s := by
    refine wpAny_bind (wpAny_newList ?_ (by size_fits))
    obtain ⟨g', kk, R', hg⟩ := R.allocG (o := { cls := .type "list", data := .seq [Value.str x t].toArray }) rfl s.toks
    exact wpAny_pure ⟨_, rfl, g', L, kk, R', _, .lst hg rfl rfl (.cons (.str _ _) .nil), h⟩
  unfold noCut at hc
  by_cases h1 : (decide (x.length < y.length) || decide (PySem.Builtin.Str.strKind x < PySem.Builtin.Str.strKind y)) = true
  · rw [if_pos h1]
    exact wpAny_bind (wpAny_rule fin)
  · rw [if_neg h1]
    have h1' : (decide (x.length < y.length) || decide (PySem.Builtin.Str.strKind x < PySem.Builtin.Str.strKind y)) = false := by simpa using h1
    rw [h1', Bool.false_or, Bool.and_eq_true] at hc
    rw [if_neg (by have := hc.1; intro q; rw [q] at this; cases this)]
    rw [if_pos (by rw [hc.2]; rfl)]
    exact wpAny_bind (wpAny_rule fin)
end
end Mine
end
section
set_option maxRecDepth 100000
set_option linter.unusedVariables false
namespace Mine
open PySem PySem.Spec PySem.Calls PyProof.Rows PySem.W

theorem RepL.perm {C : Cx} {L L' : Led} {g : Heap} {s : Shared} (R : RepL C g L s) (h0 : L'.Perm L) : RepL C g L' s := by
  have h : (C.all L').Perm (C.all L) := h0.append_right _
  have hm : ∀ a, a ∈ ads (C.all L') ↔ a ∈ ads (C.all L) := fun a => (h.map _).mem_iff
  have hg : (genEs (C.all L')).Perm (genEs (C.all L)) := h.filterMap _
  exact ⟨R.ok, R.base, R.sub, (h.map _).nodup_iff.mpr R.nd, fun a ha => R.free a ((hm a).mp ha), fun p hp => R.led p (h.mem_iff.mp hp), R.os, R.gens.1, (hg.map _).nodup_iff.mpr R.gens.2.1, fun p hp => R.gens.2.2 p (hg.mem_iff.mp hp)⟩
section
variable {C : Cx} {n : Nat} {L : Led} {Q : AV → Led → Prop}
inductive Pm (Q : AV → Led → Prop) (v : AV) (L' : Led) : Prop
  | mk (L'' : Led) (h : L''.Perm L') (q : Q v L'')
theorem CALLC.perm {f : AV} {xs : List AV} {ks : List (Str × AV)} (h : CALLC C n f xs ks L (Pm Q)) : CALLC C n f xs ks L Q := fun A g s vf vs kv r R a b c =>
  codeAny_mono (h A g s vf vs kv r R a b c) fun _ _ ⟨v, e, g', L', h1, h2, av, h3, L'', h4, h5⟩ => ⟨v, e, g', L'', h1, h2.perm h4, av, h3, h5⟩
theorem bindW {fd : FuncData} {a b e : AV} (h : ∀ S v u t, peek C.K S (bindArgs fd ⟨[v, u], [(Str.ofString "exclude_attrs", t)]⟩) = some [(Str.ofString "self", v), (Str.ofString "write", u), (Str.ofString "with_comments", .bool false), (Str.ofString "strip_text", .bool false), (Str.ofString "rewrite_prefixes", .bool false),
      (Str.ofString "qname_aware_tags", .none), (Str.ofString "qname_aware_attrs", .none), (Str.ofString "exclude_attrs", t), (Str.ofString "exclude_tags", .none)]) :
    BIND C fd [a, b] [(Str.ofString "exclude_attrs", e)] [(Str.ofString "self", a), (Str.ofString "write", b), (Str.ofString "with_comments", .bool false), (Str.ofString "strip_text", .bool false), (Str.ofString "rewrite_prefixes", .bool false),
      (Str.ofString "qname_aware_tags", .none), (Str.ofString "qname_aware_attrs", .none), (Str.ofString "exclude_attrs", e), (Str.ofString "exclude_tags", .none)] := fun g s vs kv X hv hk => by
  apply hk.eOne; intro t h3
  apply hv.eTwo; intro v u h1 h2
  exact ⟨[v, u, .bool false, .bool false, .bool false, .none, .none, t, .none], kp_binds X fun S => h S v u t, .cons h1 (.cons h2 (.cons (.bool _) (.cons (.bool _) (.cons (.bool _) (.cons .none (.cons .none (.cons h3 (.cons .none .nil))))))))⟩
theorem seta_at {x d K : Addr} {es : List (Str × AV)} (es' : List (Str × AV)) {name : Str} {av : AV} {L' : Led} {Q : Led → Prop} (h1 : (x, .inst K d) ∈ L) (h2 : (d, .dict es) ∈ L) (hc : setsPlain C.K K name = true) (he : putE es name av = es') (hS : LSet d (.dict es') L L') (hz : es.length ≤ 1000) (h : Q L') :
    SETA C n (.obj x) name av L Q := seta_own h1 h2 hc (he ▸ hS) hz h
end
section
variable {C : Cx} {F : SF} {ρ : Vars} {L : Led} {X : XQ}
theorem le_line {k : Nat} (h : k ≤ 1000) : k ≤ sizeLine := by rw [sizeLine_eq]; omega
theorem NXK.imp {Q Q' : Option AV → Led → Prop} {g : Heap} {r : Option Value} {L : Led} (k : ∀ r L, Q r L → Q' r L) (h : NXK Q g r L) : NXK Q' g r L := by
  cases r with
  | none => exact k _ _ h
  | some v => obtain ⟨x, h1, h2⟩ := h; exact ⟨x, h1, k _ _ h2⟩
theorem perm3 {α : Type} (a b c e : α) (l : List α) : (a :: b :: c :: e :: l).Perm (e :: a :: b :: c :: l) := by
  have : (a :: b :: c :: e :: l).Perm (e :: ([a, b, c] ++ l)) := List.perm_middle (l₁ := [a, b, c])
  exact this
theorem permW {α : Type} (P d x stk nss ps D0 data pm : α) (e L : List α) : ((P :: d :: x :: stk :: nss :: ps :: D0 :: data :: pm :: e) ++ L).Perm (ps :: pm :: nss :: stk :: D0 :: data :: x :: d :: (e ++ (P :: L))) := by
  have h1 : ((P :: d :: x :: stk :: nss :: ps :: D0 :: data :: pm :: e) ++ L).Perm (d :: x :: stk :: nss :: ps :: D0 :: data :: pm :: (e ++ (P :: L))) := by
    have := (List.perm_middle (a := P) (l₁ := d :: x :: stk :: nss :: ps :: D0 :: data :: pm :: e) (l₂ := L)).symm
    simpa using this
  refine h1.trans ?_
  have h2 : ∀ (k : List α), ([d, x, stk, nss, ps, D0, data, pm] ++ k).Perm ([ps, pm, nss, stk, D0, data, x, d] ++ k) := fun k => by
    refine List.Perm.append_right k ?_
    have a1 : [d, x, stk, nss, ps, D0, data, pm].Perm (ps :: [d, x, stk, nss, D0, data, pm]) := List.perm_middle (l₁ := [d, x, stk, nss])
    refine a1.trans (.cons _ ?_)
    have a2 : [d, x, stk, nss, D0, data, pm].Perm (pm :: [d, x, stk, nss, D0, data]) := List.perm_middle (l₁ := [d, x, stk, nss, D0, data])
    refine a2.trans (.cons _ ?_)
    have a3 : [d, x, stk, nss, D0, data].Perm (nss :: [d, x, stk, D0, data]) := List.perm_middle (l₁ := [d, x, stk])
    refine a3.trans (.cons _ ?_)
    have a4 : [d, x, stk, D0, data].Perm (stk :: [d, x, D0, data]) := List.perm_middle (l₁ := [d, x])
    refine a4.trans (.cons _ ?_)
    have a5 : [d, x, D0, data].Perm (D0 :: [d, x, data]) := List.perm_middle (l₁ := [d, x])
    refine a5.trans (.cons _ ?_)
    have a6 : [d, x, data].Perm (data :: [d, x]) := List.perm_middle (l₁ := [d, x])
    exact a6.trans (.cons _ (.swap _ _ _))
  exact h2 _
theorem FrameOk.perm {env : Env} {own : List Addr} {L' : Led} {g : Heap} {s : Shared} (Fo : FrameOk C env own ρ g L s) (h : L'.Perm L) : FrameOk C env own ρ g L' s :=
  ⟨Fo.rep.perm h, fun a ha => ⟨(Fo.ownFree a ha).1, fun hm => (Fo.ownFree a ha).2 ((((h.append_right C.pins).map (fun zz => zz.1)).mem_iff).mp hm)⟩, Fo.loc, Fo.ownDull, Fo.ns, Fo.cells, Fo.apart⟩
theorem ex_joinP (Ok : Vars → Led → Prop) {st : Stmt} {sts : List Stmt} (h1 : EX1 C F ρ L st ⟨fun ρ' L' => ∃ L'', L''.Perm L' ∧ Ok ρ' L'', X.bk, X.ct, X.rt⟩) (h2 : ∀ ρ' L', Ok ρ' L' → EX C F ρ' L' sts X) : EX C F ρ L (st :: sts) X :=
  ex_cons fun A env own g s r0 hE Fo => wpAny_mono (h1 A env own g s r0 hE Fo) (fun f s' hf => by
    cases f with
    | next => obtain ⟨g', ρ', L', k, Fo', L'', hp, h⟩ := hf; exact ⟨g', ρ', L'', k, Fo'.perm hp, h2 ρ' L'' h⟩
    | brk => exact hf
    | cont => exact hf
    | ret v => exact hf) fun zz zz f => f
end
theorem putE_new {es : List (Str × AV)} {x : Str} {v : AV} (h : x ∉ es.map (fun zz => zz.1)) : putE es x v = es ++ [(x, v)] := by
  unfold putE
  rw [if_neg]
  intro q
  obtain ⟨e, he, e1⟩ := List.any_eq_true.mp q
  exact h (by rw [← of_decide_eq_true e1]; exact List.mem_map_of_mem (f := (fun zz => zz.1)) he)
section
variable {C : Cx} {n : Nat} {L : Led} {Q : AV → Led → Prop}
theorem call_items_raw {d : Addr} {o : Obj} {es : List (Str × AV)} (hy : SysIn C) (hm : (d, .raw o) ∈ L) (hr : DictRaw C es o) (h : Q (.recd "dict_items" [.obj d]) L) : CALL C n (.cst (.builtin "dict.items")) [.obj d] [] L Q :=
  fun A g s vf vs kv r R hf hv hk => by
    cases hf; cases hk
    apply hv.eOne; intro v0 q1
    cases q1
    have ho := R.rawAt hm
    obtain ⟨kvs, hd, hkk, hvs⟩ := OR.dictOf ho (hr g)
    change OpL C A (call _ [_] []) g s (VK Q)
    refine call_meetsIn PySem.F.slot_dict_items hd.typeIs PySem.F.entry_dict_items (PySem.F.args_dict_items_1 _) (meets_dict_items C.SK d (R.notSys hy hm)) ⟨⟨_, hd⟩, ?_⟩
    obtain ⟨g', k, R', hg⟩ := R.allocG (o := fldsOf "dict_items" #[.ref d]) rfl s.toks
    exact ⟨g', L, k, R', _, .recd (by decide) hg (.cons (.obj d) .nil), h⟩
end
end Mine
end
section
set_option maxRecDepth 100000
set_option linter.unusedVariables false
namespace Mine
open PySem PySem.Spec PySem.Calls PyProof.Rows PySem.W
theorem LSet.pre {a : Addr} {x : AO} {L L' : Led} (h : LSet a x L L') : ∀ P : Led, LSet a x (P ++ L) (P ++ L')
  | [] => h
  | _ :: P => .there (h.pre P)
theorem not_in_take {zs : List Str} (hn : zs.Nodup) {i : Nat} {w : Str} (hw : zs[i]? = some w) (f : Str → AV) : w ∉ ((zs.take i).map fun w => (w, f w)).map (fun zz => zz.1) := fun hm => by
  rw [List.map_map] at hm
  obtain ⟨w', hm2, e1⟩ := List.mem_map.mp hm
  have e1 : w' = w := e1
  subst e1
  obtain ⟨j, hj, e2⟩ := List.mem_iff_getElem.mp hm2
  have hj' : j < i := by rw [List.length_take] at hj; omega
  have hi := (List.getElem?_eq_some_iff.mp hw).1
  have e3 := (List.getElem?_eq_some_iff.mp hw).2
  rw [List.getElem_take] at e2
  exact absurd (e2.trans e3.symm) (List.pairwise_iff_getElem.mp hn j i (by omega) hi hj')
section
variable {C : Cx} {n : Nat} {L : Led} {Q : AV → Led → Prop}
theorem CALL.raw0 {f : AV} {xs : List AV} {ks : List (Str × AV)} {d : Addr} {es : List (Str × AV)} (hes : ∀ x ∈ es.map (fun zz => zz.2), ∃ y, x = .str y) (h : ∀ o, DictRaw C es o → CALL C n f xs ks ((d, .raw o) :: L) Q) : CALL C n f xs ks ((d, .dict es) :: L) Q := fun A g s vf vs kv r R hf hv hk => by
  obtain ⟨o, ho, hor⟩ := R.led (d, .dict es) (Cx.inAll List.mem_cons_self)
  have R' : RepL C g ((d, .raw o) :: L) s := R.set (x := .raw o) LSet.here ⟨rfl, fun zz zz => rfl⟩ ⟨o, ho, rfl⟩ s.toks
  refine h o (fun g' => ?_) A g s vf vs kv r R' hf hv hk
  obtain ⟨e0, cs, ep, kvs, h1, h2, h3, h4, h5, h6⟩ := hor
  exact ⟨e0, cs, ep, kvs, h1, h2, h3, h4, h5, h6.bares hes⟩
theorem DictRaw.pn {PP : Led} {es : List (Str × AV)} {o : Obj} (h : DictRaw C es o) : DictRaw (C.pn PP) es o := fun g => OR.pn (C := C) (P := C.pins) (P' := PP) (h g)
end
section
variable {C : Cx} {F : SF} {ρ : Vars} {L : Led}
theorem asg_triple {x y z : Expr} {k : Nat} {pos : Pos} {a b c : AV} {Q : Vars → Led → Prop} (h : ASG C F ρ L x a fun ρ1 L1 => ASG C F ρ1 L1 y b fun ρ2 L2 => ASG C F ρ2 L2 z c Q)
    (he : ∀ env, assignEach [x, y, z] env = [(false, assign x env), (false, assign y env), (false, assign z env)]) :
    ASG C F ρ L (.Tuple [x, y, z] k pos) (.tup [a, b, c]) Q := fun A env own g s v r0 hE Fo hv => by
  · apply hv.eTup3; intro d o v1 v2 v3 m h1 h2 h3 q1 q2 q3
    have ht : s.heap.IsTuple d #[v1, v2, v3] := ⟨_, Fo.rep.sub _ _ h1, h2, _, h3⟩
    refine PySem.wpAny_assign_Tuple r0.handled ht (by rw [he]; rfl) (by rw [he]; rfl) fun h' hs => ?_
    rw [he]
    show wpAny C.M A (assignInOrder [assign x env, assign y env, assign z env] [v1, v2, v3]) _ _ _
    unfold assignInOrder assignInOrder assignInOrder assignInOrder
    have Fo1 : FrameOk C env own ρ g L { s with heap := h', toks := s.toks } := by
      obtain ⟨f1, f2, f3⟩ := Fo.fresh (heap_none (Nat.le_refl s.heap.objs.size))
      exact Fo.heap (a := s.heap.objs.size) hs f1 f2 f3
    refine wpAny_bind (wpAny_holding (on6 (h A env own g _ v1 r0 hE Fo1 q1) (fun zz s1 g1 ρ1 L1 k1 Fo2 h5 => ?_)))
    refine wpAny_bind (wpAny_holding (on6 (h5 A env own g1 s1 v2 r0 hE Fo2 (q2.mono k1)) (fun zz s2 g2 ρ2 L2 k2 Fo3 h6 => ?_)))
    exact wpAny_bind (wpAny_holding (wpAny_mono (h6 A env own g2 s2 v3 r0 hE Fo3 (q3.mono (k1.trans k2))) (fun zz zz x => wpAny_pure (x.le (k1.trans k2))) fun zz zz f => f))
theorem et_And_no {x : Expr} {ys : List Expr} {pos : Pos} {Q : Bool → Led → Prop} (h : ET C F ρ L x fun b L1 => b = false ∧ Q false L1) : ET C F ρ L (.BoolOp .And (x :: ys) pos) Q :=
  fun A env own g s r0 hE Fo => by
    show FrL C A env own ρ (isTrue x env (eval x env) >>= fun b => match BoolOp.And, b with | .And, false => pure false | .Or, true => pure true | _, _ => allTrue .And ys env) g s _
    refine (h A env own g s r0 hE Fo).bind fun g1 b L1 s1 k1 Fo1 h1 => ?_
    obtain ⟨rfl, h2⟩ := h1
    exact .pure Fo1 h2
theorem lookup_map_mem {f : Str → AV} {w : Str} : ∀ {zs : List Str}, w ∈ zs → (zs.map fun w => (w, f w)).lookup w = some (f w)
  | z :: r, h => by
    rw [List.map_cons, List.lookup_cons]
    by_cases e : w = z
    · subst e; simp
    · have : (w == z) = false := by simpa using e
      rw [this]
      exact lookup_map_mem ((List.mem_cons.mp h).resolve_left e)
theorem lookup_map_none {f : Str → AV} {w : Str} : ∀ {zs : List Str}, w ∉ zs → (zs.map fun w => (w, f w)).lookup w = none
  | [], _ => rfl
  | z :: r, h => by
    rw [List.map_cons, List.lookup_cons]
    have e : w ≠ z := fun q => h (q ▸ List.mem_cons_self)
    have : (w == z) = false := by simpa using e
    rw [this]
    exact lookup_map_none fun q => h (List.mem_cons_of_mem _ q)
end
section
variable {C : Cx} {n : Nat} {L : Led}
theorem getm_own {x d K : Addr} {es : List (Str × AV)} {name : Str} {av : AV} {Q : AV → List AV → Led → Prop} (h1 : (x, .inst K d) ∈ L) (h2 : (d, .dict es) ∈ L) (hc : ownAttr C.K K name = true) (hl : es.lookup name = some av) (ho : okA av = true) (h : Q av [] L) :
    GETM C n (.obj x) name L Q := fun A g s v pl r R hv => by
  cases hv
  obtain ⟨ox, od, I, hor, _, _⟩ := instAt R h1 h2
  have hc2 := hc
  unfold ownAttr at hc2
  simp only [Bool.and_eq_true, beq_iff_eq] at hc2
  have hp := plainGet_of hc2.1.1
  refine method_usual R.Xs I hp.1 hp.2 (r := none) hc2.2 rfl ?_
  exact wpAny_mono (geta_own (Q := fun v L' => v = av ∧ L' = L) h1 h2 hc hl ho ⟨rfl, rfl⟩ A g s (.ref x) false r R (.obj x)) (fun v s' ⟨g', L', k, R', a, ha, e1, e2⟩ => by
    subst e1; subst e2
    exact ⟨g', L', k, R', _, [], ha, .nil, h⟩) fun zz zz f => f
end
end Mine
end
section
set_option maxRecDepth 100000
set_option linter.unusedVariables false
namespace Mine
open PySem PySem.Spec PySem.Calls PyProof.Rows PySem.W
section
variable {C : Cx} {n : Nat} {L : Led} {Q : AV → Led → Prop}
theorem call_joinS {sep : Str} {a : AV} {xs : List Str} (hs : SeqV L a (xs.map .str)) (hok : JoinOk sep xs = true) (h : Q (.str (Txt.join sep xs)) L) : CALL C n (.cst (.builtin "str.join")) [.str sep, a] [] L Q :=
  fun A g s vf vs kv r R hf hv hk => by
    cases hf; cases hk
    apply hv.eTwo; intro v1 v2 q1 q2
    cases q1
    obtain ⟨d, ws, rfl, hl, h2⟩ := hs.at R q2
    obtain ⟨l, e1, e2⟩ := h2.strs
    have hl : s.heap.IsList d (strValues l).toArray := by rw [← e1]; exact hl
    change OpL C A (call _ [_, _] []) g s (VK Q)
    with_reducible refine SC.join hl e2 hok fun t' k => ?_
    exact ⟨g, L, .refl g, R.toks _, _, .str _ _, h⟩
end
end Mine
end
section
set_option maxRecDepth 100000
set_option linter.unusedVariables false
namespace Mine
noncomputable def dif (a b : Nat) : Nat := a ^^^ (a &&& b)
theorem dif_bit (a b i : Nat) : (dif a b).testBit i = (a.testBit i && !b.testBit i) := by
  unfold dif
  rw [Nat.testBit_xor, Nat.testBit_and]
  cases a.testBit i <;> cases b.testBit i <;> rfl
theorem eq_of_bits {a b : Nat} (h : ∀ i, a.testBit i = b.testBit i) : a = b := Nat.eq_of_testBit_eq h
theorem dif_lt {a b n : Nat} (h : a < 2 ^ n) : dif a b < 2 ^ n := by
  apply Nat.lt_pow_two_of_testBit
  intro i hi
  rw [dif_bit, Nat.testBit_lt_two_pow (Nat.lt_of_lt_of_le h (Nat.pow_le_pow_right (by decide) hi))]
  rfl
theorem bit_top {n x i : Nat} (hx : x < 2 ^ n) : (x + 2 ^ n).testBit i = if i = n then true else if i < n then x.testBit i else false := by
  rw [Nat.add_comm]
  rcases Nat.lt_trichotomy i n with h | h | h
  · rw [if_neg (by omega), if_pos h, Nat.testBit_two_pow_add_gt h]
  · subst h
    rw [if_pos rfl, Nat.testBit_two_pow_add_eq, Nat.testBit_lt_two_pow hx]
    rfl
  · rw [if_neg (by omega), if_neg (by omega)]
    apply Nat.testBit_lt_two_pow
    have : 2 ^ (n + 1) ≤ 2 ^ i := Nat.pow_le_pow_right (by decide) h
    rw [Nat.pow_succ] at this
    omega
theorem low_bit {n x i : Nat} (hx : x < 2 ^ n) (hi : n ≤ i) : x.testBit i = false := Nat.testBit_lt_two_pow (Nat.lt_of_lt_of_le hx (Nat.pow_le_pow_right (by decide) hi))
theorem dif_00 {n a b : Nat} (ha : a < 2 ^ n) (hb : b < 2 ^ n) : dif (a + 2 ^ n) (b + 2 ^ n) = dif a b := eq_of_bits fun i => by
  rw [dif_bit, dif_bit, bit_top ha, bit_top hb]
  by_cases h1 : i = n
  · subst h1; rw [if_pos rfl, if_pos rfl, low_bit ha (Nat.le_refl _)]; rfl
  · rw [if_neg h1, if_neg h1]
    by_cases h2 : i < n
    · rw [if_pos h2, if_pos h2]
    · rw [if_neg h2, if_neg h2, low_bit ha (by omega)]; simp
theorem dif_10 {n a b : Nat} (ha : a < 2 ^ n) (hb : b < 2 ^ n) : dif (a + 2 ^ n) b = dif a b + 2 ^ n := eq_of_bits fun i => by
  rw [dif_bit, bit_top ha, bit_top (dif_lt ha)]
  by_cases h1 : i = n
  · subst h1; rw [if_pos rfl, if_pos rfl, low_bit hb (Nat.le_refl _)]; rfl
  · rw [if_neg h1, if_neg h1]
    by_cases h2 : i < n
    · rw [if_pos h2, if_pos h2, dif_bit]
    · rw [if_neg h2, if_neg h2]; rfl
theorem dif_01 {n a b : Nat} (ha : a < 2 ^ n) (hb : b < 2 ^ n) : dif a (b + 2 ^ n) = dif a b := eq_of_bits fun i => by
  rw [dif_bit, dif_bit, bit_top hb]
  by_cases h1 : i = n
  · subst h1; rw [if_pos rfl, low_bit ha (Nat.le_refl _)]; rfl
  · rw [if_neg h1]
    by_cases h2 : i < n
    · rw [if_pos h2]
    · rw [if_neg h2, low_bit ha (by omega)]; simp
noncomputable def SUM : Nat → (Nat → Nat) → Nat
  | 0, f => f 0
  | n + 1, f => SUM n f + SUM n fun i => f (i + 2 ^ n)
theorem SUM_add : ∀ (n : Nat) (f g : Nat → Nat), SUM n (fun i => f i + g i) = SUM n f + SUM n g
  | 0, f, g => rfl
  | n + 1, f, g => by
    unfold SUM
    rw [SUM_add n f g, SUM_add n (fun i => f (i + 2 ^ n)) (fun i => g (i + 2 ^ n))]
    omega
theorem two_le {p q R S : Nat} (hp : p ≤ R) (hq : q ≤ R) (h : p * q ≤ R * S) : p + q ≤ R + S := by
  rcases Nat.eq_zero_or_pos R with e | e
  · omega
  · have h1 : R * (p + q) ≤ R * (R + S) := by
      obtain ⟨u, hu⟩ : ∃ u, R = p + u := ⟨R - p, by omega⟩
      obtain ⟨v, hv⟩ : ∃ v, R = q + v := ⟨R - q, by omega⟩
      have e1 : R * R + p * q = R * (p + q) + u * v := by
        have a1 : R * R = (p + u) * (q + v) := by rw [← hu, ← hv]
        have a2 : R * (p + q) = (q + v) * p + (p + u) * q := by rw [Nat.mul_add, ← hu, ← hv]
        rw [a1, a2]
        simp only [Nat.add_mul, Nat.mul_add]
        have c1 := Nat.mul_comm p q
        have c2 := Nat.mul_comm v p
        have c3 := Nat.mul_comm u q
        omega
      rw [Nat.mul_add R R S]
      omega
    exact Nat.le_of_mul_le_mul_left h1 e
theorem one_place {a0 a1 b0 b1 c0 c1 d0 d1 : Nat} (h00 : a0 * b0 ≤ c0 * d0) (h11 : a1 * b1 ≤ c0 * d0) (h01 : a0 * b1 ≤ c0 * d1) (h10 : a1 * b0 ≤ c1 * d0) : (a0 + a1) * (b0 + b1) ≤ (c0 + c1) * (d0 + d1) := by
  have h := two_le (S := c1 * d1) h00 h11 (by
    have e1 : a0 * b0 * (a1 * b1) = (a0 * b1) * (a1 * b0) := by
      rw [Nat.mul_mul_mul_comm a0 b0 a1 b1, Nat.mul_mul_mul_comm a0 b1 a1 b0, Nat.mul_comm b0 b1]
    have e2 : c0 * d0 * (c1 * d1) = (c0 * d1) * (c1 * d0) := by
      rw [Nat.mul_mul_mul_comm c0 d0 c1 d1, Nat.mul_mul_mul_comm c0 d1 c1 d0, Nat.mul_comm d0 d1]
    rw [e1, e2]
    exact Nat.mul_le_mul h01 h10)
  simp only [Nat.add_mul, Nat.mul_add]
  omega
theorem four : ∀ (n : Nat) (α β γ δ : Nat → Nat), (∀ a b, a < 2 ^ n → b < 2 ^ n → α a * β b ≤ γ (dif a b) * δ (dif b a)) → SUM n α * SUM n β ≤ SUM n γ * SUM n δ
  | 0, α, β, γ, δ, h => h 0 0 (by decide) (by decide)
  | n + 1, α, β, γ, δ, h => by
    have lt : ∀ {x}, x < 2 ^ n → x < 2 ^ (n + 1) ∧ x + 2 ^ n < 2 ^ (n + 1) := fun {x} hx => by rw [Nat.pow_succ]; omega
    have key := four n (fun i => α i + α (i + 2 ^ n)) (fun i => β i + β (i + 2 ^ n)) (fun i => γ i + γ (i + 2 ^ n)) (fun i => δ i + δ (i + 2 ^ n)) (fun a b ha hb => by
      refine one_place (h a b (lt ha).1 (lt hb).1) ?_ ?_ ?_
      · have := h (a + 2 ^ n) (b + 2 ^ n) (lt ha).2 (lt hb).2
        rwa [dif_00 ha hb, dif_00 hb ha] at this
      · have := h a (b + 2 ^ n) (lt ha).1 (lt hb).2
        rwa [dif_01 ha hb, dif_10 hb ha] at this
      · have := h (a + 2 ^ n) b (lt ha).2 (lt hb).1
        rwa [dif_10 ha hb, dif_01 hb ha] at this)
    rw [SUM_add, SUM_add, SUM_add, SUM_add] at key
    exact key
noncomputable def ind (l : List Nat) (i : Nat) : Nat := if i ∈ l then 1 else 0
theorem SUM_zero : ∀ n, SUM n (fun zz => 0) = 0
  | 0 => rfl
  | n + 1 => by
    show SUM n (fun zz => 0) + SUM n (fun zz => 0) = 0
    rw [SUM_zero n]
theorem SUM_congr : ∀ (n : Nat) {f g : Nat → Nat}, (∀ i, i < 2 ^ n → f i = g i) → SUM n f = SUM n g
  | 0, f, g, h => h 0 (by decide)
  | n + 1, f, g, h => by
    unfold SUM
    rw [SUM_congr n (fun i hi => h i (by rw [Nat.pow_succ]; omega)), SUM_congr n (f := fun i => f (i + 2 ^ n)) (g := fun i => g (i + 2 ^ n)) (fun i hi => h _ (by rw [Nat.pow_succ]; omega))]
theorem SUM_one : ∀ (n x : Nat), x < 2 ^ n → SUM n (fun i => if i = x then 1 else 0) = 1
  | 0, x, h => by
    have : x = 0 := by simpa using h
    subst this; rfl
  | n + 1, x, h => by
    unfold SUM
    rw [Nat.pow_succ] at h
    by_cases hx : x < 2 ^ n
    · rw [SUM_one n x hx, SUM_congr n (g := fun zz => 0) (fun i hi => if_neg (by omega)), SUM_zero]
    · rw [SUM_congr n (f := fun i => if i = x then 1 else 0) (g := fun zz => 0) (fun i hi => if_neg (by omega)), SUM_zero]
      rw [SUM_congr n (g := fun i => if i = x - 2 ^ n then 1 else 0) (fun i hi => by
        by_cases e : i = x - 2 ^ n
        · show (if i + 2 ^ n = x then 1 else 0) = (if i = x - 2 ^ n then 1 else 0)
          rw [if_pos (show i + 2 ^ n = x by omega), if_pos e]
        · show (if i + 2 ^ n = x then 1 else 0) = (if i = x - 2 ^ n then 1 else 0)
          rw [if_neg (show ¬ i + 2 ^ n = x by omega), if_neg e])]
      rw [SUM_one n (x - 2 ^ n) (by omega)]
theorem SUM_ind (n : Nat) : ∀ (l : List Nat), l.Nodup → (∀ x ∈ l, x < 2 ^ n) → SUM n (ind l) = l.length
  | [], _, _ => by
    rw [SUM_congr n (g := fun zz => 0) (fun i hi => by simp [ind]), SUM_zero]; rfl
  | x :: r, hn, hx => by
    have hn' := List.nodup_cons.mp hn
    rw [SUM_congr n (g := fun i => (if i = x then 1 else 0) + ind r i) (fun i hi => by
      unfold ind
      by_cases e : i = x
      · subst e
        rw [if_pos List.mem_cons_self, if_pos rfl, if_neg hn'.1]
      · rw [if_neg e]
        by_cases m : i ∈ r
        · rw [if_pos (List.mem_cons_of_mem _ m), if_pos m]
        · rw [if_neg (by simp [e, m]), if_neg m])]
    rw [SUM_add, SUM_one n x (hx x List.mem_cons_self), SUM_ind n r hn'.2 fun y hy => hx y (List.mem_cons_of_mem _ hy), List.length_cons]
    omega
theorem ahlswede {n : Nat} {as bs cs ds : List Nat} (ha : ∀ x ∈ as, x < 2 ^ n) (hb : ∀ x ∈ bs, x < 2 ^ n) (hc : ∀ a ∈ as, ∀ b ∈ bs, dif a b ∈ cs) (hd : ∀ a ∈ as, ∀ b ∈ bs, dif b a ∈ ds) (hc' : ∀ x ∈ cs, x < 2 ^ n) (hd' : ∀ x ∈ ds, x < 2 ^ n) :
    (ddK as).length * (ddK bs).length ≤ (ddK cs).length * (ddK ds).length := by
  have e : ∀ l : List Nat, (∀ x ∈ l, x < 2 ^ n) → (ddK l).length = SUM n (ind (ddK l)) := fun l h => (SUM_ind n _ (ddK_nodup l) fun x hx => h x ((mem_ddK l x).mp hx)).symm
  rw [e as ha, e bs hb, e cs hc', e ds hd']
  refine four n _ _ _ _ fun a b zz zz => ?_
  unfold ind
  by_cases h1 : a ∈ ddK as
  · by_cases h2 : b ∈ ddK bs
    · have m1 := (mem_ddK as a).mp h1
      have m2 := (mem_ddK bs b).mp h2
      rw [if_pos h1, if_pos h2, if_pos ((mem_ddK cs _).mpr (hc a m1 b m2)), if_pos ((mem_ddK ds _).mpr (hd a m1 b m2))]
      exact Nat.le_refl _
    · rw [if_neg h2]; simp
  · rw [if_neg h1]; simp
end Mine
end
section
set_option maxRecDepth 100000
set_option linter.unusedVariables false
namespace Mine
open PySem PySem.Builtin.Str PySem.StrLaws

noncomputable def JL (y : List Nat) : List (List Nat) → List Nat
  | [] => []
  | [p] => p
  | p :: q :: r => p ++ (y ++ JL y (q :: r))
noncomputable def cutsL (w : Nat) : Nat → List (List Nat) → List Nat
  | _, [] => []
  | _, [_] => []
  | a, p :: q :: r => (a + p.length) :: cutsL w (a + p.length + w) (q :: r)
theorem join_toList (y : Str) : ∀ ps : List Str, (Str.join y ps).cps.toList = JL y.cps.toList (ps.map fun p => p.cps.toList)
  | [] => rfl
  | [p] => rfl
  | p :: q :: r => by
    show (p ++ y ++ Str.join y (q :: r)).cps.toList = _
    simp only [Str.cps_append, Array.toList_append]
    rw [join_toList y (q :: r), List.append_assoc]
    rfl
section
variable {y : List Nat} {k c : Nat} (hk : y[k]? = some c) (hu : ∀ j, y[j]? = some c → j = k)
include hk hu
theorem cut_at : ∀ (ps : List (List Nat)) (a j : Nat), (∀ p ∈ ps, c ∉ p) → (JL y ps)[j]? = some c → ∃ cut ∈ cutsL y.length a ps, a + j = cut + k
  | [], _, j, _, h => by simp [JL] at h
  | [p], _, j, hp, h => absurd (List.mem_of_getElem? h) (hp p List.mem_cons_self)
  | p :: q :: r, a, j, hp, h => by
    unfold JL at h
    have hky : k < y.length := (List.getElem?_eq_some_iff.mp hk).1
    rcases Nat.lt_or_ge j p.length with h1 | h1
    · rw [List.getElem?_append_left h1] at h
      exact absurd (List.mem_of_getElem? h) (hp p List.mem_cons_self)
    · rw [List.getElem?_append_right h1] at h
      rcases Nat.lt_or_ge (j - p.length) y.length with h2 | h2
      · rw [List.getElem?_append_left h2] at h
        have := hu _ h
        exact ⟨a + p.length, List.mem_cons_self, by omega⟩
      · rw [List.getElem?_append_right h2] at h
        obtain ⟨cut, h3, h4⟩ := cut_at (q :: r) (a + p.length + y.length) _ (fun p' hp' => hp p' (List.mem_cons_of_mem _ hp')) h
        exact ⟨cut, List.mem_cons_of_mem _ h3, by omega⟩
end
theorem cut_is (y : List Nat) : ∀ (ps : List (List Nat)) (a cut : Nat), cut ∈ cutsL y.length a ps → a ≤ cut ∧ ((JL y ps).drop (cut - a)).take y.length = y ∧ cut - a + y.length ≤ (JL y ps).length
  | [], _, _, h => by simp [cutsL] at h
  | [_], _, _, h => by simp [cutsL] at h
  | p :: q :: r, a, cut, h => by
    unfold cutsL at h
    unfold JL
    rcases List.mem_cons.mp h with rfl | h
    · refine ⟨by omega, ?_, ?_⟩
      · have : a + p.length - a = p.length := by omega
        rw [this]
        simp
      · simp only [List.length_append]; omega
    · obtain ⟨h1, h2, h3⟩ := cut_is y (q :: r) _ cut h
      refine ⟨by omega, ?_, ?_⟩
      · have e : cut - a = p.length + (y.length + (cut - (a + p.length + y.length))) := by omega
        rw [e, ← List.drop_drop, List.drop_left, ← List.drop_drop, List.drop_left]
        exact h2
      · simp only [List.length_append]; omega
theorem cuts_far (w : Nat) : ∀ (ps : List (List Nat)) (a : Nat), (cutsL w a ps).Pairwise fun i j => i + w ≤ j
  | [], _ => .nil
  | [_], _ => .nil
  | p :: q :: r, a => by
    unfold cutsL
    refine .cons (fun j hj => ?_) (cuts_far w (q :: r) _)
    have : ∀ (ps : List (List Nat)) (a j : Nat), j ∈ cutsL w a ps → a ≤ j := by
      intro ps
      induction ps with
      | nil => intro a j h; simp [cutsL] at h
      | cons p ps ih =>
        intro a j h
        cases ps with
        | nil => simp [cutsL] at h
        | cons q r =>
          unfold cutsL at h
          rcases List.mem_cons.mp h with rfl | h
          · omega
          · have := ih _ _ h; omega
    exact this _ _ _ hj
theorem occ_filter (s sub : Str) (hi limit : Nat) : ∀ (l : List Nat) (st : Array Nat × Nat), l.Pairwise (· < ·) → (∀ i ∈ l, (i + sub.length ≤ hi ∧ subAt s sub i = true) → st.snd ≤ i) →
    (∀ i ∈ l, ∀ j ∈ l, i < j → (i + sub.length ≤ hi ∧ subAt s sub i = true) → (j + sub.length ≤ hi ∧ subAt s sub j = true) → i + sub.length ≤ j) → st.fst.size + l.length ≤ limit →
    (forIn l st (occBody s sub hi limit)).run.fst.toList = st.fst.toList ++ l.filter fun i => decide (i + sub.length ≤ hi ∧ subAt s sub i = true)
  | [], st, _, _, _, _ => by simp
  | a :: l, st, hs, hf, hap, hl => by
    have hs' := List.pairwise_cons.mp hs
    rw [List.length_cons] at hl
    rw [List.forIn_cons]
    unfold occBody
    by_cases hc : a + sub.length ≤ hi ∧ subAt s sub a = true
    · rw [if_pos ⟨⟨⟨by omega, hf a List.mem_cons_self hc⟩, hc.1⟩, hc.2⟩]
      rw [List.filter_cons_of_pos (by simpa using hc)]
      have ih := occ_filter s sub hi limit l (st.fst.push a, a + sub.length) hs'.2 (fun i hi' hm => hap a List.mem_cons_self i (List.mem_cons_of_mem _ hi') (hs'.1 i hi') hc hm)
        (fun i h1 j h2 => hap i (List.mem_cons_of_mem _ h1) j (List.mem_cons_of_mem _ h2)) (by rw [Array.size_push]; omega)
      have ih' : (forIn l (st.fst.push a, a + sub.length) (occBody s sub hi limit)).run.fst.toList = (st.fst.push a).toList ++ l.filter fun i => decide (i + sub.length ≤ hi ∧ subAt s sub i = true) := ih
      rw [Array.toList_push, List.append_assoc] at ih'
      exact ih'
    · rw [if_neg (fun h => hc ⟨h.1.2, h.2⟩)]
      rw [List.filter_cons_of_neg (by simpa using hc)]
      exact occ_filter s sub hi limit l st hs'.2 (fun i hi' hm => hf i (List.mem_cons_of_mem _ hi') hm) (fun i h1 j h2 => hap i (List.mem_cons_of_mem _ h1) j (List.mem_cons_of_mem _ h2)) (by omega)
theorem rising_ext : ∀ {a b : List Nat}, a.Pairwise (· < ·) → b.Pairwise (· < ·) → (∀ x, x ∈ a ↔ x ∈ b) → a = b
  | [], [], _, _, _ => rfl
  | [], y :: b, _, _, h => absurd ((h y).mpr List.mem_cons_self) (by simp)
  | x :: a, [], _, _, h => absurd ((h x).mp List.mem_cons_self) (by simp)
  | x :: a, y :: b, ha, hb, h => by
    have ha' := List.pairwise_cons.mp ha
    have hb' := List.pairwise_cons.mp hb
    have e : x = y := by
      rcases List.mem_cons.mp ((h x).mp List.mem_cons_self) with e | e
      · exact e
      · rcases List.mem_cons.mp ((h y).mpr List.mem_cons_self) with e2 | e2
        · exact e2.symm
        · have := hb'.1 x e; have := ha'.1 y e2; omega
    subst e
    rw [rising_ext ha'.2 hb'.2 fun z => ⟨fun hz => ((List.mem_cons.mp ((h z).mp (List.mem_cons_of_mem _ hz))).resolve_left fun q => by have := ha'.1 z hz; omega),
      fun hz => ((List.mem_cons.mp ((h z).mpr (List.mem_cons_of_mem _ hz))).resolve_left fun q => by have := hb'.1 z hz; omega)⟩]
theorem parts_cuts (x y : Str) : ∀ (ps : List Str) (a : Nat), ps ≠ [] → x.cps.toList.drop a = JL y.cps.toList (ps.map fun p => p.cps.toList) → a ≤ x.length → partsFrom x y.length a (cutsL y.length a (ps.map fun p => p.cps.toList)) = ps
  | [], _, h, _, _ => absurd rfl h
  | [p], a, _, h, ha => by
    show [strSub x a x.length] = [p]
    congr 1
    apply Str.ext'
    apply Array.toList_inj.mp
    rw [strSub_toList, h]
    show (p.cps.toList).take _ = _
    apply List.take_of_length_le
    have h2 := congrArg List.length h
    rw [List.length_drop] at h2
    have h3 : x.cps.toList.length = x.length := by simp [Str.length]
    have h4 : (JL y.cps.toList ([p].map fun p => p.cps.toList)).length = p.cps.toList.length := rfl
    omega
  | p :: q :: r, a, _, h, ha => by
    have h3 : x.cps.toList.length = x.length := by simp [Str.length]
    have hyl : y.cps.toList.length = y.length := by simp [Str.length]
    have e0 : JL y.cps.toList ((p :: q :: r).map fun p => p.cps.toList) = p.cps.toList ++ (y.cps.toList ++ JL y.cps.toList ((q :: r).map fun p => p.cps.toList)) := rfl
    rw [e0] at h
    have h2 := congrArg List.length h
    rw [List.length_drop, List.length_append, List.length_append] at h2
    show strSub x a (a + p.cps.toList.length) :: partsFrom x y.length (a + p.cps.toList.length + y.length) (cutsL y.length (a + p.cps.toList.length + y.length) ((q :: r).map fun p => p.cps.toList)) = _
    congr 1
    · apply Str.ext'
      apply Array.toList_inj.mp
      rw [strSub_toList, h]
      have : a + p.cps.toList.length - a = p.cps.toList.length := by omega
      rw [this, List.take_left]
    · refine parts_cuts x y (q :: r) _ (by simp) ?_ (by omega)
      rw [Nat.add_assoc, ← List.drop_drop, h, ← List.drop_drop, List.drop_left, ← hyl, List.drop_left]
set_option tactic.hygienic true in
theorem split_join_of {y : Str} {ps : List Str} {k c : Nat} (hne : ps ≠ []) (hk : y.cps.toList[k]? = some c) (hu : ∀ j, y.cps.toList[j]? = some c → j = k) (hp : ∀ p ∈ ps, c ∉ p.cps.toList) (hkd : Builtin.Str.strKind y = 1) :
    Txt.split (Str.join y ps) y = ps := by
  generalize hx : Str.join y ps = x
  have hyl : y.cps.toList.length = y.length := by simp [Str.length]
  have hxl : x.cps.toList.length = x.length := by simp [Str.length]
  have hxL : x.cps.toList = JL y.cps.toList (ps.map fun p => p.cps.toList) := by rw [← hx]; exact join_toList y ps
  have hpL : ∀ p ∈ ps.map (fun p => p.cps.toList), c ∉ p := fun p hm => by
    obtain ⟨p', h1, rfl⟩ := List.mem_map.mp hm
    exact hp p' h1
  have hky : k < y.length := by rw [← hyl]; exact (List.getElem?_eq_some_iff.mp hk).1
  -- where the mark is met
  have hiff : ∀ i, (i + y.length ≤ x.length ∧ subAt x y i = true) ↔ i ∈ cutsL y.length 0 (ps.map fun p => p.cps.toList) := fun i => by
    constructor
    · rintro ⟨h1, h2⟩
      rw [subAt_eq] at h2
      have h2 := eq_of_beq h2
      have h3 : x.cps.toList[i + k]? = some c := by
        rw [← hk, ← h2, List.getElem?_take, if_pos hky, List.getElem?_drop]
      rw [hxL] at h3
      obtain ⟨cut, h4, h5⟩ := cut_at hk hu _ 0 _ hpL h3
      rw [hyl] at h4
      have : i = cut := by omega
      rw [this]; exact h4
    · intro h
      rw [← hyl] at h
      obtain ⟨h1, h2, h3⟩ := cut_is y.cps.toList _ 0 i h
      rw [← hxL] at h2 h3
      refine ⟨by omega, ?_⟩
      rw [subAt_eq]
      rw [Nat.sub_zero, hyl] at h2
      rw [h2]; exact beq_self_eq_true _
  have hfar := cuts_far y.length (ps.map fun p => p.cps.toList) 0
  have hrise : (cutsL y.length 0 (ps.map fun p => p.cps.toList)).Pairwise (· < ·) := hfar.imp fun h => by omega
  have hapart : ∀ i j, i < j → i ∈ cutsL y.length 0 (ps.map fun p => p.cps.toList) → j ∈ cutsL y.length 0 (ps.map fun p => p.cps.toList) → i + y.length ≤ j := fun i j hij hi hj => by
    obtain ⟨a, ha, ea⟩ := List.mem_iff_getElem.mp hi
    obtain ⟨b, hb, eb⟩ := List.mem_iff_getElem.mp hj
    rcases Nat.lt_trichotomy a b with h | h | h
    · have := List.pairwise_iff_getElem.mp hfar a b ha hb h
      rw [ea, eb] at this; exact this
    · subst h; rw [ea] at eb; omega
    · have := List.pairwise_iff_getElem.mp hfar b a hb ha h
      rw [ea, eb] at this; omega
  have hocc : occurrences x y 0 x.length (x.length + 1) = cutsL y.length 0 (ps.map fun p => p.cps.toList) := by
    rw [occ_eq, occ_filter x y x.length (x.length + 1) _ _ List.pairwise_lt_range' (fun zz zz zz => Nat.zero_le _) (fun i zz j zz hij h1 h2 => hapart i j hij ((hiff i).mp h1) ((hiff j).mp h2)) (by rw [List.length_range']; simp)]
    show [] ++ _ = _
    rw [List.nil_append]
    refine rising_ext (List.Pairwise.filter _ List.pairwise_lt_range') hrise fun i => ?_
    rw [List.mem_filter, decide_eq_true_eq, hiff i]
    constructor
    · exact fun h => h.2
    · intro h
      have := ((hiff i).mpr h).1
      exact ⟨by rw [List.mem_range'_1]; omega, h⟩
  have hparts : partsBetween x (occurrences x y 0 x.length (x.length + 1)) y.length = ps := by
    rw [partsBetween_eq, hocc]
    exact parts_cuts x y ps 0 hne (by rw [List.drop_zero]; exact hxL) (Nat.zero_le _)
  have single : (occurrences x y 0 x.length (x.length + 1)).isEmpty = true → [x] = ps := fun he => by
    rw [List.isEmpty_iff.mp he] at hparts
    rw [partsBetween_eq] at hparts
    have : partsFrom x y.length 0 [] = [strSub x 0 x.length] := rfl
    rw [this, sub_whole] at hparts
    exact hparts
  unfold Txt.split
  split
  · rename_i h
    refine single ?_
    rw [hkd] at h
    have hk1 : ¬ Builtin.Str.strKind x < 1 := by
      unfold Builtin.Str.strKind
      split
      · omega
      · split <;> omega
    have hlt : x.length < y.length := by simpa [hk1] using h
    rw [List.isEmpty_iff, hocc]
    cases hcs : cutsL y.length 0 (ps.map fun p => p.cps.toList) with
    | nil => rfl
    | cons a r =>
      have := ((hiff a).mpr (hcs ▸ List.mem_cons_self)).1
      omega
  · split
    · rename_i h
      exact single h
    · exact hparts
end Mine
end
section
set_option maxRecDepth 100000
set_option linter.unusedVariables false
namespace Mine
open PySem PySem.Spec PySem.Calls PyProof.Rows PySem.W
noncomputable def intF (f : Nat → AV) : AV → List AV
  | .int i => [f i.toNat]
  | _ => []
theorem intF_flat (f : Nat → AV) : ∀ ms : List Nat, (ms.map fun (m : Nat) => AV.int (m : Nat)).flatMap (intF f) = ms.map f
  | [] => rfl
  | m :: r => by rw [List.map_cons, List.flatMap_cons, intF_flat f r]; rfl
theorem intF_le (f : Nat → AV) (x : AV) : (intF f x).length ≤ 1 := by unfold intF; split <;> simp
theorem smp_strs : ∀ l : List Str, ∀ x ∈ l.map AV.str, Smp x := fun l x hx => by
  obtain ⟨w, _, rfl⟩ := List.mem_map.mp hx
  exact .str w
theorem fname_ne : ∀ i, i < 12 → fname i ≠ Str.empty ∧ 1 ≤ (fname i).length := by decide +kernel
theorem fnames_ne {m : Nat} (hm : m < 4096) (h0 : m ≠ 0) : fnames m 12 ≠ [] := fun e => by
  apply h0
  apply eq_of_bits
  intro i
  rw [Nat.zero_testBit]
  rcases Nat.lt_or_ge i 12 with hi | hi
  · cases hb : m.testBit i with
    | false => rfl
    | true =>
      have : fname i ∈ fnames m 12 := List.mem_map.mpr ⟨i, List.mem_filter.mpr ⟨List.mem_range.mpr hi, hb⟩, rfl⟩
      rw [e] at this
      cases this
  · exact low_bit (n := 12) (by simpa using hm) hi
theorem join_ge (sep x : Str) : ∀ r : List Str, x.length ≤ (Txt.join sep (x :: r)).length
  | [] => Nat.le_refl _
  | y :: r => by
    show x.length ≤ (Builtin.Str.glued sep (x :: y :: r)).length
    rw [StrLaws.glued_eq_join]
    show x.length ≤ (x ++ sep ++ Str.join sep (y :: r)).length
    rw [Str.length_append, Str.length_append]
    omega
theorem jn_len {m : Nat} (hm : m < 4096) (h0 : m ≠ 0) : ((Txt.join (Str.ofString ", ") (fnames m 12)).length != 0) = true := by
  cases e : fnames m 12 with
  | nil => exact absurd e (fnames_ne hm h0)
  | cons x r =>
    have hx : x ∈ fnames m 12 := e ▸ List.mem_cons_self
    obtain ⟨i, hi, rfl⟩ := List.mem_map.mp hx
    have h1 := (fname_ne i (List.mem_range.mp (List.mem_filter.mp hi).1)).2
    have h2 := join_ge (Str.ofString ", ") (fname i) r
    simp
    intro q
    have : (Txt.join (Str.ofString ", ") (fname i :: r)).length = 0 := by simp [q]
    omega
noncomputable def strF (p : Str → Bool) : AV → List AV
  | .str w => if p w = true then [.str w] else []
  | _ => []
theorem strF_flat (p : Str → Bool) : ∀ l : List Str, (l.map .str).flatMap (strF p) = (l.filter p).map .str
  | [] => rfl
  | w :: r => by
    rw [List.map_cons, List.flatMap_cons, strF_flat p r]
    by_cases h : p w = true <;> simp [strF, h]
theorem strF_le (p : Str → Bool) (x : AV) : (strF p x).length ≤ 1 := by
  unfold strF
  split
  · split <;> simp
  · simp
noncomputable def notNull (w : Str) : Bool := w != Str.ofString "0x0"
theorem comma_in : ∀ i, i < 12 → (44 : Nat) ∉ (fname i).cps.toList ∧ notNull (fname i) = true := by decide +kernel
theorem fnames_all {P : Str → Prop} (h : ∀ i, i < 12 → P (fname i)) (m : Nat) : ∀ w ∈ fnames m 12, P w := fun w hw => by
  obtain ⟨i, hi, rfl⟩ := List.mem_map.mp hw
  exact h i (List.mem_range.mp (List.mem_filter.mp hi).1)
theorem split_pretty {m : Nat} (hm : m < 4096) : Txt.split (prettyS m) (Str.ofString ", ") = if m = 0 then [Str.ofString "0x0"] else fnames m 12 := by
  have hy : (Str.ofString ", ").cps.toList = [44, 32] := by decide +kernel
  have hk : (Str.ofString ", ").cps.toList[0]? = some 44 := by rw [hy]; rfl
  have hu : ∀ j, (Str.ofString ", ").cps.toList[j]? = some 44 → j = 0 := fun j h => by
    rw [hy] at h
    rcases j with _ | _ | j
    · rfl
    · simp at h
    · simp at h
  have hkd : Builtin.Str.strKind (Str.ofString ", ") = 1 := by decide +kernel
  unfold prettyS
  by_cases h0 : m = 0
  · rw [if_pos h0, if_pos h0]
    exact split_join_of (y := Str.ofString ", ") (ps := [Str.ofString "0x0"]) (by simp) hk hu (fun p hp => by rw [List.mem_singleton.mp hp]; decide +kernel) hkd
  · rw [if_neg h0, if_neg h0]
    have := split_join_of (y := Str.ofString ", ") (ps := fnames m 12) (fnames_ne hm h0) hk hu (fnames_all (P := fun w => 44 ∉ w.cps.toList) (fun i hi => (comma_in i hi).1) m) hkd
    have e : Txt.join (Str.ofString ", ") (fnames m 12) = Str.join (Str.ofString ", ") (fnames m 12) := StrLaws.glued_eq_join _ _
    rw [e]; exact this
theorem words_of {m : Nat} (hm : m < 4096) : (Txt.split (prettyS m) (Str.ofString ", ")).filter notNull = fnames m 12 := by
  rw [split_pretty hm]
  by_cases h0 : m = 0
  · subst h0
    rw [if_pos rfl, fnames_zero]
    decide +kernel
  · rw [if_neg h0, List.filter_eq_self]
    exact fnames_all (P := fun w => notNull w = true) (fun i hi => (comma_in i hi).2) m
theorem pretty_len {m : Nat} : (prettyS m).length ≤ 500 := by
  unfold prettyS
  split
  · decide +kernel
  · show (Builtin.Str.glued _ _).length ≤ _
    rw [StrLaws.glued_eq_join]
    have h1 := StrLaws.join_length_le (Str.ofString ", ") (fnames m 12)
    have h2 := fnames_sum m 12
    have h3 := fnames_length m 12
    have h4 : (Str.ofString ", ").length = 2 := by decide
    rw [h4] at h1
    omega
end Mine
end
section
set_option maxRecDepth 100000
set_option linter.unusedVariables false
namespace Mine
open PySem PySem.Spec PySem.Calls PyProof.Rows PySem.W
theorem ints_VRs (g : Heap) : ∀ {vs : List Value} {ns : List Int}, IntsAre vs ns → VRs g (ns.map .int) vs
  | _, _, .nil => .nil
  | _, _, .cons n t h => .cons (.int n t) (ints_VRs g h)
section
variable {prog : Program} {w : World} {K : Frag} {s₁ : Shared} {mg mb : Str → Option Value} {cA PA : Addr} {p : Program} {loose : List Str} {mean : ExcName → Option Value}
noncomputable def cxOf (prog : Program) (w : World) (K : Frag) (s₁ : Shared) (mg mb : Str → Option Value) (cA PA : Addr) : Cx := ⟨prog, w, ghostOf s₁.heap [(cA, PA)], K, s₁.os, mg, mb, [(PA, .tab (Str.ofString ""))]⟩
theorem cxOf_ok (hT : TabsAt [(cA, PA)] s₁.heap) (X : K.In s₁.heap) (hK : noTabs K = true) (T : Top p loose mean mg mb s₁.heap) : (cxOf prog w K s₁ mg mb cA PA).Ok :=
  ⟨ghost_K hT X hK, ghost_ns hT T.g, ghost_ns hT T.b, (ghost_top hT T).nolimit, T.builtins⟩
theorem cxOf_rep (hT : TabsAt [(cA, PA)] s₁.heap) (X : K.In s₁.heap) (hK : noTabs K = true) (T : Top p loose mean mg mb s₁.heap) (hg : s₁.gens = #[]) : RepL (cxOf prog w K s₁ mg mb cA PA) (ghostOf s₁.heap [(cA, PA)]) [] s₁ := by
  refine ⟨cxOf_ok hT X hK T, .refl _, fun zz zz e => of_hideAll _ e, ?_, fun a ha => hideAll_none _ ha, fun q hq => ?_, rfl, ?_, List.nodup_nil, fun q hq => nomatch hq⟩
  · exact List.nodup_cons.mpr ⟨List.not_mem_nil, List.nodup_nil⟩
  · cases List.mem_singleton.mp hq
    exact ⟨tabObj #[], (hT _ (.head _)).2, #[], rfl, trivial, fun pos c h => nomatch h⟩
  · rw [hg]; exact .of_eq rfl
theorem cxOf_lam (hT : TabsAt [(cA, PA)] s₁.heap) (T : Top p loose mean mg mb s₁.heap) (hs : ∃ o, s₁.heap.get? sysModules = some o ∧ o ≠ tabObj #[]) : LamOk (cxOf prog w K s₁ mg mb cA PA) cA PA :=
  ⟨(ghost_code hT).1, (ghost_top hT T).bmain, ⟨_, .head _⟩, let ⟨o, h1, h2⟩ := hs; ⟨o, ghost_get hT h1 h2⟩⟩
theorem join_up {c : ClaimW} {cl : Str → Option Addr} {mean' : ExcName → Option Value} {args : List WData} {fa l : Addr} {vals : List Value} {sc : List Int}
    (hT : TabsAt [(cA, PA)] s₁.heap) (X : K.In s₁.heap) (hK : noTabs K = true) (T : Top p loose mean mg mb s₁.heap) (hg : s₁.gens = #[]) (hr : ∀ cls, c.raises args cls = false) (hp : c.post args (.bool true) args = true)
    (hL : s₁.heap.IsList l vals.toArray) (hI : IntsAre vals sc)
    (h : CALLC (cxOf prog w K s₁ mg mb cA PA) 0 (.obj fa) [.lst (sc.map .int)] [] [] fun v zz => v = .bool true) :
    codeAny (model prog w) callerA (.call (.ref fa) ⟨[.ref l], []⟩) (GoodWG c cl mean' args s₁) s₁ := by
  have hv : VR (ghostOf s₁.heap [(cA, PA)]) (.lst (sc.map .int)) (.ref l) := by
    obtain ⟨o, h1, h2, n, h3⟩ := ghost_list hT hL
    exact .lst h1 h2 h3 (ints_VRs _ hI)
  have room : Room callerA 0 := ⟨rfl, (by show 1 + claimMargin ≤ _; decide +kernel), (by show 4 ≤ _; decide)⟩
  refine codeAny_mono (h callerA _ s₁ (.ref fa) [.ref l] [] room (cxOf_rep hT X hK T hg) (.obj _) (.cons hv .nil) .nil) ?_
  rintro r s' ⟨v, rfl, g', L', k, R', av, h1, rfl⟩
  cases h1
  have keep : ∀ b o, b ≠ PA → s₁.heap.get? b = some o → s'.heap.get? b = some o := fun b o hb e => R'.sub _ _ (k _ _ (ghost_ne e (by simpa using hb)))
  have grown : ∃ ps, s'.heap.get? PA = some (tabObj ps) := by
    obtain ⟨o, e1, ps, e2, _⟩ := R'.led (PA, .tab (Str.ofString "")) (Cx.pinAll (C := cxOf prog w K s₁ mg mb cA PA) (.head _))
    exact ⟨ps, e2 ▸ e1⟩
  have hTP := hT (cA, PA) (.head _)
  refine ⟨.inl ⟨.bool true, .bool true, [], rfl, hr, .bool _, hp, fun zz => ⟨List.nodup_nil, fun a ha => nomatch ha⟩⟩, ⟨fun b o e => ?_, fun b o e => ?_⟩, R'.os, R'.gens.1⟩
  · by_cases hb : b = PA
    · subst hb
      obtain ⟨ps, hP⟩ := grown
      have e2 := hTP.2
      rw [e] at e2
      cases e2
      exact .inr (.inl ⟨(hTP.1.tab hTP.2).isCodeTable, rfl, #[], ps, rfl, by rw [Array.empty_append]; exact hP⟩)
    · exact .inl (keep b o hb e)
  · by_cases hb : b = PA
    · subst hb
      obtain ⟨ps, hP⟩ := grown
      exact ⟨_, hP⟩
    · exact ⟨o, keep b o hb e⟩
end
end Mine
end
namespace Mine
open PySem PySem.Spec PySem.Calls PySem.W PyProof.Rows
set_option maxRecDepth 100000
set_option maxHeartbeats 8000000
set_option linter.unusedVariables false
local macro_rules | `(tactic| wtm_at "look") => `(tactic| first | exact look_here | (apply look_there; (decide); (wtm_at "look")))
local macro_rules | `(tactic| wtm_at "setv") => `(tactic| first | exact setV_nil | exact setV_here | (apply setV_there; (decide); (wtm_at "setv")))
local macro_rules | `(tactic| wtm_at "sub") => `(tactic| first | exact SubV.nil | (with_reducible refine SubV.cons (by wtm_at "look") ?_; wtm_at "sub"))
local macro_rules | `(tactic| wtm_at "ir") => `(tactic| (intros; with_unfolding_all rfl))
local macro_rules | `(tactic| wtm_at "slb") => `(tactic| first | exact List.Sublist.refl _ | (with_reducible refine List.Sublist.cons_cons _ ?_; wtm_at "slb") | (with_reducible refine List.Sublist.cons _ ?_; wtm_at "slb"))
local macro_rules | `(tactic| wtm_at "mem") => `(tactic| first | assumption | exact List.mem_cons_self | (refine List.mem_cons_of_mem _ ?_; wtm_at "mem"))
local macro_rules | `(tactic| wtm_at "lset") => `(tactic| first | assumption | exact LSet.here | (apply LSet.there; wtm_at "lset"))
local macro_rules | `(tactic| wtm_at "simple") => `(tactic| with_reducible (first | exact SimpleL.nil | (apply SimpleL.name; (wtm_at "look"); (kernel_rfl); (wtm_at "simple")) | (apply SimpleL.int; (wtm_at "simple")) | (apply SimpleL.str; (wtm_at "simple")) | (apply SimpleL.bool; (wtm_at "simple")) | (apply SimpleL.none; (wtm_at "simple"))))
local macro_rules | `(tactic| wtm_at "nd") => `(tactic| dsimp only [List.cons_append, List.nil_append, List.filterMap_cons, List.filterMap_nil, List.zip_cons_cons, List.zip_nil_right, List.zip_nil_left, List.nil_append])
local macro_rules | `(tactic| wtm_at "nz") => `(tactic| first | (wtm_at "nd"; done) | (wtm_at "nd"; exact rfl) | exact rfl)
local macro_rules | `(tactic| wtm_at "cn") => `(tactic| refine CALL.norm (by wtm_at "nz") (by wtm_at "nz") (by wtm_at "nz") ?_)
local macro_rules | `(tactic| wtm_at "q0") => `(tactic| with_reducible refine ev_name (by wtm_at "look") ?_ (by decide) (by decide))
local macro_rules | `(tactic| wtm_at "q1") => `(tactic| with_reducible refine asg_name (by kernel_rfl) (by wtm_at "setv") ?_)
local macro_rules | `(tactic| wtm_at "q2") => `(tactic| with_reducible refine ev_Method ?_ (by wtm_at "ir") (by with_unfolding_all rfl) (by wtm_at "ir") (by wtm_at "ir") (by wtm_at "ir") (by wtm_at "ir"))
local macro_rules | `(tactic| wtm_at "q3") => `(tactic| with_reducible refine evl_cons ?_ (by wtm_at "ir"))
section
open PySem PySem.Spec PySem.Calls PySem.W PyProof.Rows
set_option maxRecDepth 100000
set_option maxHeartbeats 8000000
set_option linter.unusedVariables false
set_option pp.deepTerms false
set_option pp.deepTerms.threshold 8
noncomputable abbrev wAttrs (P data stk nss pm ps : Addr) (ex : AV) (seen done : Bool) : List (Str × AV) :=
  [(Str.ofString "_write", .bm "list.append" (.obj P)), (Str.ofString "_data", .obj data), (Str.ofString "_with_comments", .bool false), (Str.ofString "_strip_text", .bool false), (Str.ofString "_exclude_attrs", ex), (Str.ofString "_exclude_tags", .none),
   (Str.ofString "_rewrite_prefixes", .bool false), (Str.ofString "_qname_aware_tags", .none), (Str.ofString "_find_qname_aware_attrs", .none), (Str.ofString "_declared_ns_stack", .obj stk), (Str.ofString "_ns_stack", .obj nss), (Str.ofString "_prefix_map", .obj pm),
   (Str.ofString "_preserve_space", .obj ps), (Str.ofString "_pending_start", .none), (Str.ofString "_root_seen", .bool seen), (Str.ofString "_root_done", .bool done), (Str.ofString "_ignored_depth", .int 0)]
noncomputable def wNames : List Str := ["_write", "_data", "_with_comments", "_strip_text", "_exclude_attrs", "_exclude_tags", "_rewrite_prefixes", "_qname_aware_tags", "_find_qname_aware_attrs", "_declared_ns_stack", "_ns_stack", "_prefix_map", "_preserve_space", "_pending_start", "_root_seen", "_root_done", "_ignored_depth"]
noncomputable abbrev xmlT : AV := .tup [.str (Str.ofString "http://www.w3.org/XML/1998/namespace"), .str (Str.ofString "xml")]
inductive ExOf (ws : List Str) : AV → Led → Prop
  | none : ws = [] → ExOf ws .none []
  | some (E : Addr) : ws ≠ [] → ExOf ws (.obj E) [(E, .sset (ddK ws))]
noncomputable abbrev Wr (P x d data stk nss pm ps D0 : Addr) (B : Addr) (ex : AV) (seen done : Bool) (txt : List Str) (exL : Led) : Led :=
  (P, .list (txt.map .str)) :: (d, .dict (wAttrs P data stk nss pm ps ex seen done)) :: (x, .inst 150 d) :: (stk, .list [.obj D0]) :: (nss, .list [.obj B, .lst []]) :: (ps, .list [.bool false]) :: (D0, .list [xmlT]) :: (data, .list []) :: (pm, .dict []) :: exL
section
variable {C : Cx} (hK : C.K = hd.heap_1 C.P)
include hK
theorem own150 {nm : Str} (h : (wNames.contains nm) = true) : ownAttr C.K 150 nm = true := by
  have all : wNames.all (fun nm => ownAttr C.K 150 nm) = true := by rw [hK]; kernel_rfl
  exact List.all_eq_true.mp all nm (by simpa using h)
theorem sets150 {nm : Str} (h : (wNames.contains nm) = true) : setsPlain C.K 150 nm = true := by
  have all : wNames.all (fun nm => setsPlain C.K 150 nm) = true := by rw [hK]; kernel_rfl
  exact List.all_eq_true.mp all nm (by simpa using h)
theorem makes_150 : makesIn C.K 150 = true := by rw [hK]; kernel_rfl
theorem init_150 : findIn C.K (.ref 150) "__init__" = some (some (.ref 67)) := by rw [hK]; kernel_rfl
theorem type_67 : typeIn C.K (.ref 67) = some (.type "function") := by rw [hK]; kernel_rfl
theorem g_nsmap : nsIn C.K mainGlobals (Str.ofString "_namespace_map") = some (some (.ref 44)) := by rw [hK]; kernel_rfl
theorem b_set10 : BLT C (Str.ofString "set") (.type "set") := ⟨(by rw [hK]; kernel_rfl), (by kernel_rfl), (fun zz e => nomatch e), (by decide)⟩
theorem b_list10 : BLT C (Str.ofString "list") (.type "list") := ⟨(by rw [hK]; kernel_rfl), (by kernel_rfl), (fun zz e => nomatch e), (by decide)⟩
theorem nsmap : KDict C 44 [("http://www.w3.org/XML/1998/namespace", 329, .str "xml" 330), ("http://www.w3.org/1999/xhtml", 331, .str "html" 332), ("http://www.w3.org/1999/02/22-rdf-syntax-ns#", 333, .str "rdf" 334), ("http://schemas.xmlsoap.org/wsdl/", 335, .str "wsdl" 336),
    ("http://www.w3.org/2001/XMLSchema", 337, .str "xs" 338), ("http://www.w3.org/2001/XMLSchema-instance", 339, .str "xsi" 340), ("http://purl.org/dc/elements/1.1/", 341, .str "dc" 342)] :=
  ⟨⟨_, _, by rw [hK]; with_unfolding_all rfl, by with_unfolding_all rfl⟩, by decide, by decide⟩
set_option tactic.hygienic true in
theorem writer_init {n : Nat} {L : Led} {Q : AV → Led → Prop} (hn : n ≤ 160) {x d P : Addr} {ws : List Str} (hlen : ws.length ≤ 1000)
    (hQ : ∀ B data stk nss pm ps D0 ex exL, ExOf ws ex exL → Q .none ((ps, .list [.bool false]) :: (pm, .dict []) :: (nss, .list [.obj B, .lst []]) :: (stk, .list [.obj D0]) :: (D0, .list [xmlT]) :: (data, .list []) :: (x, .inst 150 d) :: (d, .dict (wAttrs P data stk nss pm ps ex false false)) :: (exL ++ L))) :
    CALLC C n (.obj 67) [.obj x, .bm "list.append" (.obj P)] [(Str.ofString "exclude_attrs", .lst (ws.map .str))] ((x, .inst 150 d) :: (d, .dict []) :: L) Q := by
  refine call_def (ρ := [(Str.ofString "self", .obj x), (Str.ofString "write", .bm "list.append" (.obj P)), (Str.ofString "with_comments", .bool false), (Str.ofString "strip_text", .bool false), (Str.ofString "rewrite_prefixes", .bool false),
      (Str.ofString "qname_aware_tags", .none), (Str.ofString "qname_aware_attrs", .none), (Str.ofString "exclude_attrs", .lst (ws.map .str)), (Str.ofString "exclude_tags", .none)]) (by rw [hK]; with_unfolding_all rfl) (by rw [hK]; kernel_rfl) (bindW fun zz zz zz zz => by rw [hK]; with_unfolding_all rfl) (by rfl) (by kernel_rfl) (by omega) ?_
  with_reducible refine ex_cons ?_
  with_reducible refine x_assign ?_ (by wtm_at "ir") (by wtm_at "ir") (by wtm_at "ir")
  wtm_at "q0"
  with_reducible refine asg_attr ?_
  wtm_at "q0"
  refine seta_at [(Str.ofString "_write", .bm "list.append" (.obj P))] (by wtm_at "mem") (by wtm_at "mem") (sets150 hK (by kernel_rfl)) (by kernel_rfl) (by wtm_at "lset") (Nat.le_of_ble_eq_true rfl) ?_
  with_reducible refine ex_cons ?_
  with_reducible refine x_assign ?_ (by wtm_at "ir") (by wtm_at "ir") (by wtm_at "ir")
  with_reducible refine ev_List ?_
  with_reducible refine evl_nil ?_
  with_reducible refine opl_newList (by decide) fun data => ?_
  with_reducible refine asg_attr ?_
  wtm_at "q0"
  refine seta_at [(Str.ofString "_write", .bm "list.append" (.obj P)), (Str.ofString "_data", .obj data)] (by wtm_at "mem") (by wtm_at "mem") (sets150 hK (by kernel_rfl)) (by kernel_rfl) (by wtm_at "lset") (Nat.le_of_ble_eq_true rfl) ?_
  with_reducible refine ex_cons ?_
  with_reducible refine x_assign ?_ (by wtm_at "ir") (by wtm_at "ir") (by wtm_at "ir")
  wtm_at "q0"
  with_reducible refine asg_attr ?_
  wtm_at "q0"
  refine seta_at [(Str.ofString "_write", .bm "list.append" (.obj P)), (Str.ofString "_data", .obj data), (Str.ofString "_with_comments", .bool false)] (by wtm_at "mem") (by wtm_at "mem") (sets150 hK (by kernel_rfl)) (by kernel_rfl) (by wtm_at "lset") (Nat.le_of_ble_eq_true rfl) ?_
  with_reducible refine ex_cons ?_
  with_reducible refine x_assign ?_ (by wtm_at "ir") (by wtm_at "ir") (by wtm_at "ir")
  wtm_at "q0"
  with_reducible refine asg_attr ?_
  wtm_at "q0"
  refine seta_at [(Str.ofString "_write", .bm "list.append" (.obj P)), (Str.ofString "_data", .obj data), (Str.ofString "_with_comments", .bool false), (Str.ofString "_strip_text", .bool false)] (by wtm_at "mem") (by wtm_at "mem") (sets150 hK (by kernel_rfl)) (by kernel_rfl) (by wtm_at "lset") (Nat.le_of_ble_eq_true rfl) ?_
  -- the words left out
  refine ex_joinP (fun ρ' L' => ρ' = [(Str.ofString "self", .obj x), (Str.ofString "write", .bm "list.append" (.obj P)), (Str.ofString "with_comments", .bool false), (Str.ofString "strip_text", .bool false), (Str.ofString "rewrite_prefixes", .bool false),
      (Str.ofString "qname_aware_tags", .none), (Str.ofString "qname_aware_attrs", .none), (Str.ofString "exclude_attrs", .lst (ws.map .str)), (Str.ofString "exclude_tags", .none)] ∧ ∃ ex exL, ExOf ws ex exL ∧ L' = (data, .list []) :: (x, .inst 150 d) :: (d, .dict [(Str.ofString "_write", .bm "list.append" (.obj P)), (Str.ofString "_data", .obj data), (Str.ofString "_with_comments", .bool false), (Str.ofString "_strip_text", .bool false), (Str.ofString "_exclude_attrs", ex)]) :: (exL ++ L)) ?_ ?_
  · with_reducible refine x_assign ?_ (by wtm_at "ir") (by wtm_at "ir") (by wtm_at "ir")
    with_reducible refine ev_IfExp ?_
    with_reducible refine et_val (by wtm_at "ir") ?_
    wtm_at "q0"
    with_reducible refine tr_seq SeqV.lst (by rw [List.length_map, sizeLine_eq]; omega) ?_
    refine ite_of (fun _ => ?_) (fun _ => ?_)
    · with_reducible refine ev_CallN (fun h => ev_blt (by kernel_rfl) (by first | exact b_set10 (by assumption) | exact b_list10 (by assumption)) h (by decide)) (by exact keep_cst (fun zz e => nomatch e)) (by wtm_at "simple") (by wtm_at "nz") ?_ (by wtm_at "ir") (by wtm_at "ir")
      with_reducible refine call_set_strs SeqV.lst (by omega) fun E => ?_
      with_reducible refine asg_attr ?_
      wtm_at "q0"
      refine seta_at [(Str.ofString "_write", .bm "list.append" (.obj P)), (Str.ofString "_data", .obj data), (Str.ofString "_with_comments", .bool false), (Str.ofString "_strip_text", .bool false), (Str.ofString "_exclude_attrs", .obj E)] (by wtm_at "mem") (by wtm_at "mem") (sets150 hK (by kernel_rfl)) (by kernel_rfl) (by wtm_at "lset") (Nat.le_of_ble_eq_true rfl) ?_
      rename_i h
      exact ⟨(data, .list []) :: (x, .inst 150 d) :: (d, .dict [(Str.ofString "_write", .bm "list.append" (.obj P)), (Str.ofString "_data", .obj data), (Str.ofString "_with_comments", .bool false), (Str.ofString "_strip_text", .bool false), (Str.ofString "_exclude_attrs", .obj E)]) :: (E, .sset (ddK ws)) :: L, perm3 _ _ _ _ _, rfl, _, [(E, .sset (ddK ws))], .some E (fun q => by subst q; simp at h), rfl⟩
    · with_reducible refine ev_none ?_
      with_reducible refine asg_attr ?_
      wtm_at "q0"
      refine seta_at [(Str.ofString "_write", .bm "list.append" (.obj P)), (Str.ofString "_data", .obj data), (Str.ofString "_with_comments", .bool false), (Str.ofString "_strip_text", .bool false), (Str.ofString "_exclude_attrs", .none)] (by wtm_at "mem") (by wtm_at "mem") (sets150 hK (by kernel_rfl)) (by kernel_rfl) (by wtm_at "lset") (Nat.le_of_ble_eq_true rfl) ?_
      rename_i h
      exact ⟨_, List.Perm.refl _, rfl, _, [], .none (List.length_eq_zero_iff.mp (by simpa using h)), rfl⟩
  rintro _ _ ⟨rfl, ex, exL, hex, rfl⟩
  with_reducible refine ex_cons ?_
  with_reducible refine x_assign ?_ (by wtm_at "ir") (by wtm_at "ir") (by wtm_at "ir")
  with_reducible refine ev_IfExp ?_
  with_reducible refine et_val (by wtm_at "ir") ?_
  wtm_at "q0"
  with_reducible refine tr_none ?_
  rw [if_neg (by decide)]
  with_reducible refine ev_none ?_
  with_reducible refine asg_attr ?_
  wtm_at "q0"
  refine seta_at [(Str.ofString "_write", .bm "list.append" (.obj P)), (Str.ofString "_data", .obj data), (Str.ofString "_with_comments", .bool false), (Str.ofString "_strip_text", .bool false), (Str.ofString "_exclude_attrs", ex), (Str.ofString "_exclude_tags", .none)] (by wtm_at "mem") (by wtm_at "mem") (sets150 hK (by kernel_rfl)) (by kernel_rfl) (by wtm_at "lset") (Nat.le_of_ble_eq_true rfl) ?_
  with_reducible refine ex_cons ?_
  with_reducible refine x_assign ?_ (by wtm_at "ir") (by wtm_at "ir") (by wtm_at "ir")
  wtm_at "q0"
  with_reducible refine asg_attr ?_
  wtm_at "q0"
  refine seta_at [(Str.ofString "_write", .bm "list.append" (.obj P)), (Str.ofString "_data", .obj data), (Str.ofString "_with_comments", .bool false), (Str.ofString "_strip_text", .bool false), (Str.ofString "_exclude_attrs", ex), (Str.ofString "_exclude_tags", .none), (Str.ofString "_rewrite_prefixes", .bool false)] (by wtm_at "mem") (by wtm_at "mem") (sets150 hK (by kernel_rfl)) (by kernel_rfl) (by wtm_at "lset") (Nat.le_of_ble_eq_true rfl) ?_
  with_reducible refine ex_cons ?_
  with_reducible refine x_if ?_
  with_reducible refine et_val (by wtm_at "ir") ?_
  wtm_at "q0"
  with_reducible refine tr_none ?_
  rw [if_neg (by decide)]
  with_reducible refine ex_last ?_
  with_reducible refine x_assign ?_ (by wtm_at "ir") (by wtm_at "ir") (by wtm_at "ir")
  with_reducible refine ev_none ?_
  with_reducible refine asg_attr ?_
  wtm_at "q0"
  refine seta_at [(Str.ofString "_write", .bm "list.append" (.obj P)), (Str.ofString "_data", .obj data), (Str.ofString "_with_comments", .bool false), (Str.ofString "_strip_text", .bool false), (Str.ofString "_exclude_attrs", ex), (Str.ofString "_exclude_tags", .none), (Str.ofString "_rewrite_prefixes", .bool false), (Str.ofString "_qname_aware_tags", .none)] (by wtm_at "mem") (by wtm_at "mem") (sets150 hK (by kernel_rfl)) (by kernel_rfl) (by wtm_at "lset") (Nat.le_of_ble_eq_true rfl) ?_
  skip
  with_reducible refine ex_cons ?_
  with_reducible refine x_if ?_
  with_reducible refine et_val (by wtm_at "ir") ?_
  wtm_at "q0"
  with_reducible refine tr_none ?_
  rw [if_neg (by decide)]
  with_reducible refine ex_last ?_
  with_reducible refine x_assign ?_ (by wtm_at "ir") (by wtm_at "ir") (by wtm_at "ir")
  with_reducible refine ev_none ?_
  with_reducible refine asg_attr ?_
  wtm_at "q0"
  refine seta_at [(Str.ofString "_write", .bm "list.append" (.obj P)), (Str.ofString "_data", .obj data), (Str.ofString "_with_comments", .bool false), (Str.ofString "_strip_text", .bool false), (Str.ofString "_exclude_attrs", ex), (Str.ofString "_exclude_tags", .none), (Str.ofString "_rewrite_prefixes", .bool false), (Str.ofString "_qname_aware_tags", .none), (Str.ofString "_find_qname_aware_attrs", .none)] (by wtm_at "mem") (by wtm_at "mem") (sets150 hK (by kernel_rfl)) (by kernel_rfl) (by wtm_at "lset") (Nat.le_of_ble_eq_true rfl) ?_
  skip
  with_reducible refine ex_cons ?_
  with_reducible refine x_assign ?_ (by wtm_at "ir") (by wtm_at "ir") (by wtm_at "ir")
  with_reducible refine ev_List ?_
  wtm_at "q3"
  with_reducible refine ev_List ?_
  wtm_at "q3"
  with_reducible refine ev_Tuple ?_
  wtm_at "q3"
  with_reducible refine ev_str ?_
  wtm_at "q3"
  with_reducible refine ev_str ?_
  with_reducible refine evl_nil ?_
  with_reducible refine opl_newTuple (by decide) ?_
  with_reducible refine evl_nil ?_
  with_reducible refine opl_newList (by decide) fun D0 => ?_
  with_reducible refine evl_nil ?_
  with_reducible refine opl_newList (le_line (Nat.le_of_ble_eq_true rfl)) fun stk => ?_
  with_reducible refine asg_attr ?_
  wtm_at "q0"
  refine seta_at [(Str.ofString "_write", .bm "list.append" (.obj P)), (Str.ofString "_data", .obj data), (Str.ofString "_with_comments", .bool false), (Str.ofString "_strip_text", .bool false), (Str.ofString "_exclude_attrs", ex), (Str.ofString "_exclude_tags", .none), (Str.ofString "_rewrite_prefixes", .bool false), (Str.ofString "_qname_aware_tags", .none), (Str.ofString "_find_qname_aware_attrs", .none), (Str.ofString "_declared_ns_stack", .obj stk)] (by wtm_at "mem") (by wtm_at "mem") (sets150 hK (by kernel_rfl)) (by kernel_rfl) (by wtm_at "lset") (Nat.le_of_ble_eq_true rfl) ?_
  with_reducible refine ex_cons ?_
  with_reducible refine x_assign ?_ (by wtm_at "ir") (by wtm_at "ir") (by wtm_at "ir")
  with_reducible refine ev_List ?_
  with_reducible refine evl_nil ?_
  with_reducible refine opl_newList (by decide) fun nss => ?_
  with_reducible refine asg_attr ?_
  wtm_at "q0"
  refine seta_at [(Str.ofString "_write", .bm "list.append" (.obj P)), (Str.ofString "_data", .obj data), (Str.ofString "_with_comments", .bool false), (Str.ofString "_strip_text", .bool false), (Str.ofString "_exclude_attrs", ex), (Str.ofString "_exclude_tags", .none), (Str.ofString "_rewrite_prefixes", .bool false), (Str.ofString "_qname_aware_tags", .none), (Str.ofString "_find_qname_aware_attrs", .none), (Str.ofString "_declared_ns_stack", .obj stk), (Str.ofString "_ns_stack", .obj nss)] (by wtm_at "mem") (by wtm_at "mem") (sets150 hK (by kernel_rfl)) (by kernel_rfl) (by wtm_at "lset") (Nat.le_of_ble_eq_true rfl) ?_
  with_reducible refine ex_cons ?_
  with_reducible refine x_if ?_
  with_reducible refine et_Not ?_
  with_reducible refine et_val (by wtm_at "ir") ?_
  wtm_at "q0"
  with_reducible refine tr_bool ?_
  rw [if_pos (by decide)]
  with_reducible refine ex_last ?_
  with_reducible refine x_expr ?_ (by wtm_at "ir")
  wtm_at "q2"
  with_reducible refine ev_Attr ?_ (by wtm_at "ir")
  wtm_at "q0"
  with_reducible refine geta_own (by wtm_at "mem") (by wtm_at "mem") (by exact own150 (by assumption) (by kernel_rfl)) (by wtm_at "look") rfl ?_
  refine GETM.norm (by wtm_at "nz") ?_
  with_reducible refine getm_list (by wtm_at "mem") PySem.F.slot_list_append PySem.F.type_list_append ?_
  refine And.intro (keep_cst (fun zz e => nomatch e)) ?_
  wtm_at "q3"
  with_reducible refine ev_Call ?_ (by wtm_at "ir") (by wtm_at "ir") (by wtm_at "ir") (by wtm_at "ir")
  with_reducible refine ev_blt (by kernel_rfl) (by first | exact b_set10 (by assumption) | exact b_list10 (by assumption)) ?_ (by decide)
  refine And.intro (keep_cst (fun zz e => nomatch e)) ?_
  wtm_at "q3"
  wtm_at "q2"
  with_reducible refine ev_gref (by kernel_rfl) (by first | exact g_nsmap (by assumption)) ?_ (by decide)
  refine GETM.norm (by wtm_at "nz") ?_
  (with_reducible refine getm_kdict (nsmap (by assumption)) PySem.F.slot_dict_items PySem.F.type_dict_items ?_)
  refine And.intro (keep_cst (fun zz e => nomatch e)) ?_
  first | with_reducible refine args0 (by wtm_at "simple") (by wtm_at "nz") ?_ | with_reducible refine argsM (by wtm_at "simple") (by wtm_at "nz") (by wtm_at "nz") ?_
  with_reducible refine call_items_K (nsmap hK) (by decide) ?_
  with_reducible refine evl_nil ?_
  with_reducible refine evk_nil ?_
  wtm_at "cn"
  with_reducible refine call_list_items_K (nsmap hK) fun B => ?_
  with_reducible refine evl_nil ?_
  with_reducible refine evk_nil ?_
  wtm_at "cn"
  with_reducible refine call_append (by wtm_at "mem") (by wtm_at "lset") (le_line (Nat.le_of_ble_eq_true rfl)) ?_
  with_reducible refine ex_cons ?_
  with_reducible refine x_expr ?_ (by wtm_at "ir")
  wtm_at "q2"
  with_reducible refine ev_Attr ?_ (by wtm_at "ir")
  wtm_at "q0"
  with_reducible refine geta_own (by wtm_at "mem") (by wtm_at "mem") (by exact own150 (by assumption) (by kernel_rfl)) (by wtm_at "look") rfl ?_
  refine GETM.norm (by wtm_at "nz") ?_
  with_reducible refine getm_list (by wtm_at "mem") PySem.F.slot_list_append PySem.F.type_list_append ?_
  refine And.intro (keep_cst (fun zz e => nomatch e)) ?_
  wtm_at "q3"
  with_reducible refine ev_List ?_
  with_reducible refine evl_nil ?_
  with_reducible refine opl_newListF (by decide) ?_
  with_reducible refine evl_nil ?_
  with_reducible refine evk_nil ?_
  wtm_at "cn"
  with_reducible refine call_append (by wtm_at "mem") (by wtm_at "lset") (le_line (Nat.le_of_ble_eq_true rfl)) ?_
  with_reducible refine ex_cons ?_
  with_reducible refine x_assign ?_ (by wtm_at "ir") (by wtm_at "ir") (by wtm_at "ir")
  with_reducible refine ev_Dict0 fun pm => ?_
  with_reducible refine asg_attr ?_
  wtm_at "q0"
  refine seta_at [(Str.ofString "_write", .bm "list.append" (.obj P)), (Str.ofString "_data", .obj data), (Str.ofString "_with_comments", .bool false), (Str.ofString "_strip_text", .bool false), (Str.ofString "_exclude_attrs", ex), (Str.ofString "_exclude_tags", .none), (Str.ofString "_rewrite_prefixes", .bool false), (Str.ofString "_qname_aware_tags", .none), (Str.ofString "_find_qname_aware_attrs", .none), (Str.ofString "_declared_ns_stack", .obj stk), (Str.ofString "_ns_stack", .obj nss), (Str.ofString "_prefix_map", .obj pm)] (by wtm_at "mem") (by wtm_at "mem") (sets150 hK (by kernel_rfl)) (by kernel_rfl) (by wtm_at "lset") (Nat.le_of_ble_eq_true rfl) ?_
  with_reducible refine ex_cons ?_
  with_reducible refine x_assign ?_ (by wtm_at "ir") (by wtm_at "ir") (by wtm_at "ir")
  with_reducible refine ev_List ?_
  wtm_at "q3"
  with_reducible refine ev_bool ?_
  with_reducible refine evl_nil ?_
  with_reducible refine opl_newList (le_line (Nat.le_of_ble_eq_true rfl)) fun ps => ?_
  with_reducible refine asg_attr ?_
  wtm_at "q0"
  refine seta_at [(Str.ofString "_write", .bm "list.append" (.obj P)), (Str.ofString "_data", .obj data), (Str.ofString "_with_comments", .bool false), (Str.ofString "_strip_text", .bool false), (Str.ofString "_exclude_attrs", ex), (Str.ofString "_exclude_tags", .none), (Str.ofString "_rewrite_prefixes", .bool false), (Str.ofString "_qname_aware_tags", .none), (Str.ofString "_find_qname_aware_attrs", .none), (Str.ofString "_declared_ns_stack", .obj stk), (Str.ofString "_ns_stack", .obj nss), (Str.ofString "_prefix_map", .obj pm), (Str.ofString "_preserve_space", .obj ps)] (by wtm_at "mem") (by wtm_at "mem") (sets150 hK (by kernel_rfl)) (by kernel_rfl) (by wtm_at "lset") (Nat.le_of_ble_eq_true rfl) ?_
  with_reducible refine ex_cons ?_
  with_reducible refine x_assign ?_ (by wtm_at "ir") (by wtm_at "ir") (by wtm_at "ir")
  with_reducible refine ev_none ?_
  with_reducible refine asg_attr ?_
  wtm_at "q0"
  refine seta_at [(Str.ofString "_write", .bm "list.append" (.obj P)), (Str.ofString "_data", .obj data), (Str.ofString "_with_comments", .bool false), (Str.ofString "_strip_text", .bool false), (Str.ofString "_exclude_attrs", ex), (Str.ofString "_exclude_tags", .none), (Str.ofString "_rewrite_prefixes", .bool false), (Str.ofString "_qname_aware_tags", .none), (Str.ofString "_find_qname_aware_attrs", .none), (Str.ofString "_declared_ns_stack", .obj stk), (Str.ofString "_ns_stack", .obj nss), (Str.ofString "_prefix_map", .obj pm), (Str.ofString "_preserve_space", .obj ps), (Str.ofString "_pending_start", .none)] (by wtm_at "mem") (by wtm_at "mem") (sets150 hK (by kernel_rfl)) (by kernel_rfl) (by wtm_at "lset") (Nat.le_of_ble_eq_true rfl) ?_
  with_reducible refine ex_cons ?_
  with_reducible refine x_assign ?_ (by wtm_at "ir") (by wtm_at "ir") (by wtm_at "ir")
  with_reducible refine ev_bool ?_
  with_reducible refine asg_attr ?_
  wtm_at "q0"
  refine seta_at [(Str.ofString "_write", .bm "list.append" (.obj P)), (Str.ofString "_data", .obj data), (Str.ofString "_with_comments", .bool false), (Str.ofString "_strip_text", .bool false), (Str.ofString "_exclude_attrs", ex), (Str.ofString "_exclude_tags", .none), (Str.ofString "_rewrite_prefixes", .bool false), (Str.ofString "_qname_aware_tags", .none), (Str.ofString "_find_qname_aware_attrs", .none), (Str.ofString "_declared_ns_stack", .obj stk), (Str.ofString "_ns_stack", .obj nss), (Str.ofString "_prefix_map", .obj pm), (Str.ofString "_preserve_space", .obj ps), (Str.ofString "_pending_start", .none), (Str.ofString "_root_seen", .bool false)] (by wtm_at "mem") (by wtm_at "mem") (sets150 hK (by kernel_rfl)) (by kernel_rfl) (by wtm_at "lset") (Nat.le_of_ble_eq_true rfl) ?_
  with_reducible refine ex_cons ?_
  with_reducible refine x_assign ?_ (by wtm_at "ir") (by wtm_at "ir") (by wtm_at "ir")
  with_reducible refine ev_bool ?_
  with_reducible refine asg_attr ?_
  wtm_at "q0"
  refine seta_at [(Str.ofString "_write", .bm "list.append" (.obj P)), (Str.ofString "_data", .obj data), (Str.ofString "_with_comments", .bool false), (Str.ofString "_strip_text", .bool false), (Str.ofString "_exclude_attrs", ex), (Str.ofString "_exclude_tags", .none), (Str.ofString "_rewrite_prefixes", .bool false), (Str.ofString "_qname_aware_tags", .none), (Str.ofString "_find_qname_aware_attrs", .none), (Str.ofString "_declared_ns_stack", .obj stk), (Str.ofString "_ns_stack", .obj nss), (Str.ofString "_prefix_map", .obj pm), (Str.ofString "_preserve_space", .obj ps), (Str.ofString "_pending_start", .none), (Str.ofString "_root_seen", .bool false), (Str.ofString "_root_done", .bool false)] (by wtm_at "mem") (by wtm_at "mem") (sets150 hK (by kernel_rfl)) (by kernel_rfl) (by wtm_at "lset") (Nat.le_of_ble_eq_true rfl) ?_
  with_reducible refine ex_last ?_
  with_reducible refine x_assign ?_ (by wtm_at "ir") (by wtm_at "ir") (by wtm_at "ir")
  with_reducible refine ev_int ?_
  with_reducible refine asg_attr ?_
  wtm_at "q0"
  refine seta_at [(Str.ofString "_write", .bm "list.append" (.obj P)), (Str.ofString "_data", .obj data), (Str.ofString "_with_comments", .bool false), (Str.ofString "_strip_text", .bool false), (Str.ofString "_exclude_attrs", ex), (Str.ofString "_exclude_tags", .none), (Str.ofString "_rewrite_prefixes", .bool false), (Str.ofString "_qname_aware_tags", .none), (Str.ofString "_find_qname_aware_attrs", .none), (Str.ofString "_declared_ns_stack", .obj stk), (Str.ofString "_ns_stack", .obj nss), (Str.ofString "_prefix_map", .obj pm), (Str.ofString "_preserve_space", .obj ps), (Str.ofString "_pending_start", .none), (Str.ofString "_root_seen", .bool false), (Str.ofString "_root_done", .bool false), (Str.ofString "_ignored_depth", .int 0)] (by wtm_at "mem") (by wtm_at "mem") (sets150 hK (by kernel_rfl)) (by kernel_rfl) (by wtm_at "lset") (Nat.le_of_ble_eq_true rfl) ?_
  skip
  exact ⟨_, List.Sublist.refl _, hQ B data stk nss pm ps D0 ex exL hex⟩
end
end
section
open PySem PySem.Spec PySem.Calls PySem.W PyProof.Rows
set_option maxRecDepth 100000
set_option maxHeartbeats 8000000
set_option linter.unusedVariables false
set_option pp.deepTerms false
set_option pp.deepTerms.threshold 8
section
variable {C : Cx} (hK : C.K = hd.heap_1 C.P)
include hK
theorem writer_new {n : Nat} {L : Led} {Q : AV → Led → Prop} (hn : n ≤ 150) {P : Addr} {ws : List Str} (hlen : ws.length ≤ 1000)
    (hQ : ∀ x d data stk nss pm ps D0 B ex exL, ExOf ws ex exL → Q (.obj x) (Wr P x d data stk nss pm ps D0 B ex false false [] exL ++ L)) :
    CALLC C n (.obj 150) [.bm "list.append" (.obj P)] [(Str.ofString "exclude_attrs", .lst (ws.map .str))] ((P, .list []) :: L) Q := by
  refine CALLC.perm (call_class (makes_150 hK) (init_150 hK) (type_67 hK) fun x d => ?_)
  refine writer_init hK (nle hn rfl) hlen fun B data stk nss pm ps D0 ex exL hex => ⟨rfl, _, ?_, hQ x d data stk nss pm ps D0 B ex exL hex⟩
  exact permW _ _ _ _ _ _ _ _ _ _ _
theorem m_iterns : methAttr C.K 150 (Str.ofString "_iter_namespaces") 75 = true := by rw [hK]; kernel_rfl
theorem k_75 : keepIn C.K (.ref 75) = true := by rw [hK]; kernel_rfl
theorem qname_ok {n : Nat} {L : Led} {Q : AV → Led → Prop} (hn : n ≤ 150) {P x d data stk nss pm ps D0 : Addr} {ex : AV} {seen done : Bool} {q : Nat} {nm : Str} (h1 : (x, .inst 150 d) ∈ L) (h2 : (d, .dict (wAttrs P data stk nss pm ps ex seen done)) ∈ L)
    (h3 : (stk, .list (.obj D0 :: List.replicate q (.lst []))) ∈ L) (h4 : (D0, .list [xmlT]) ∈ L) (hnm : Txt.slice nm none (some 1) ≠ Str.ofString "{") (hl : nm.length ≤ 1000) (hQ : Q (.tup [.str nm, .str nm, .str (Str.ofString "")]) L) :
    CALLC C n (.obj 90) [.obj x, .str nm] [] L Q := by
  refine call_def (ρ := [(Str.ofString "self", .obj x), (Str.ofString "qname", .str nm), (Str.ofString "uri", .none)]) (by rw [hK]; with_unfolding_all rfl) (by rw [hK]; kernel_rfl) (bind2d (fun zz => .none) fun zz zz zz => by rw [hK]; with_unfolding_all rfl) (by rfl) (by kernel_rfl) (by omega) ?_
  with_reducible refine ex_cons ?_
  with_reducible refine x_if ?_
  with_reducible refine et_Cmp ?_ (by with_unfolding_all rfl)
  wtm_at "q0"
  with_reducible refine ev_none ?_
  with_reducible refine cmp_none_is_none ?_
  with_reducible refine tr_bool ?_
  rw [if_pos (by decide)]
  with_reducible refine ex_last ?_
  with_reducible refine x_assign ?_ (by wtm_at "ir") (by wtm_at "ir") (by wtm_at "ir")
  with_reducible refine ev_IfExp ?_
  with_reducible refine et_Cmp ?_ (by with_unfolding_all rfl)
  with_reducible refine ev_Sub ?_
  wtm_at "q0"
  refine ev_Slice ?_
  with_reducible refine ev_int ?_
  with_reducible refine item_slice_str .none (.int 1) (le_line hl) ?_
  with_reducible refine ev_str ?_
  with_reducible refine cmp_eq_str ?_
  with_reducible refine tr_bool ?_
  rw [if_neg (by simpa using hnm)]
  with_reducible refine ev_Tuple ?_
  wtm_at "q3"
  with_reducible refine ev_str ?_
  wtm_at "q3"
  wtm_at "q0"
  with_reducible refine evl_nil ?_
  with_reducible refine opl_newTuple (le_line (Nat.le_of_ble_eq_true rfl)) ?_
  with_reducible refine asg_pair ?_ (by wtm_at "ir")
  wtm_at "q1"
  wtm_at "q1"
  with_reducible refine ex_cons ?_
  with_reducible refine x_assign ?_ (by wtm_at "ir") (by wtm_at "ir") (by wtm_at "ir")
  with_reducible refine ev_CallN (fun h => ev_blt (by kernel_rfl) (by first | exact b_set10 (by assumption) | exact b_list10 (by assumption)) h (by decide)) (by exact keep_cst (fun zz e => nomatch e)) (by wtm_at "simple") (by wtm_at "nz") ?_ (by wtm_at "ir") (by wtm_at "ir")
  with_reducible refine call_set_empty fun S => ?_
  wtm_at "q1"
  with_reducible refine ex_cons ?_
  refine x_forN ?_ (by intro _ _; with_unfolding_all rfl)
  wtm_at "q2"
  wtm_at "q0"
  refine GETM.norm (by wtm_at "nz") ?_
  with_reducible refine getm_inst (by wtm_at "mem") (by wtm_at "mem") (by first | exact m_iterns (by assumption)) (by with_unfolding_all rfl) ?_
  refine And.intro (keep_K (by first | exact k_75 (by assumption))) ?_
  wtm_at "q3"
  with_reducible refine ev_Attr ?_ (by wtm_at "ir")
  wtm_at "q0"
  with_reducible refine geta_own (by wtm_at "mem") (by wtm_at "mem") (by exact own150 (by assumption) (by kernel_rfl)) (by wtm_at "look") rfl ?_
  with_reducible refine evl_nil ?_
  with_reducible refine evk_nil ?_
  wtm_at "cn"
  refine CALLC.call (callc_gen (ρ := [(Str.ofString "self", .obj x), (Str.ofString "ns_stack", .obj stk), (Str.ofString "_reversed", .cst (.type "reversed"))]) (by rw [hK]; with_unfolding_all rfl) (by rw [hK]; kernel_rfl) (bind2d (fun zz => .cst _) fun zz zz zz => by rw [hK]; with_unfolding_all rfl) (by rfl) (by kernel_rfl) (by omega) (by kernel_rfl) fun a k env lo m G hlook => ?_)
  refine ⟨a, k, _, rfl, List.mem_cons_self, ⟨fun A rA => ?_⟩⟩
  refine ⟨fun i ρ L' => (i = 1 ∧ ρ = [(Str.ofString "self", .obj x), (Str.ofString "qname", .str nm), (Str.ofString "uri", .str (Str.ofString "")), (Str.ofString "tag", .str nm), (Str.ofString "prefixes_seen", .obj S)] ∧ L' = (a, .gen k _) :: (env.locals, .raw lo) :: (S, .sset []) :: L) ∨
      (i = 0 ∧ ρ = [(Str.ofString "self", .obj x), (Str.ofString "qname", .str nm), (Str.ofString "uri", .str (Str.ofString "")), (Str.ofString "tag", .str nm), (Str.ofString "prefixes_seen", .obj S), (Str.ofString "u", .str (Str.ofString "http://www.w3.org/XML/1998/namespace")), (Str.ofString "prefix", .str (Str.ofString "xml"))] ∧
        ∃ rit li oR oL gs', L' = (a, .gen k gs') :: (rit, .raw oR) :: (li, .raw oL) :: (S, .sset [Str.ofString "xml"]) :: L ∧
          ∀ L1, (D0, .list [xmlT]) ∈ L1 → NEXTA C A (.obj a) ((a, .gen k gs') :: (rit, .raw oR) :: (li, .raw oL) :: L1) fun r L' => r = none ∧ L' = L1), 1, .inl ⟨rfl, rfl, rfl⟩, ?_⟩
  rintro i ρ L' (⟨rfl, rfl, rfl⟩ | ⟨rfl, rfl, rit, li, oR, oL, gs', rfl, hn2⟩)
  · intro g s v R hv
    refine (gen_next1 rA (show n + 1 ≤ 190 from nle hn rfl) G ⟨rfl, rfl, by kernel_rfl, by kernel_rfl, by kernel_rfl⟩ (hlook revN (.cst (.type "reversed")) (.type "reversed") (by wtm_at "look") rfl) (hlook stN (.obj stk) (.ref stk) (by wtm_at "look") rfl) (a := a) (k := k) (stk := stk) (D0 := D0) (q := q) (t := xmlT) (L0 := (S, .sset []) :: L) (List.mem_cons_of_mem _ h3) (List.mem_cons_of_mem _ h4) g s v R hv).mono fun g' r' L' hx => NXK.imp (fun r L2 hx => ?_) hx
    obtain ⟨rit, li, oR, oL, gs', rfl, GM, rfl, hn2⟩ := hx
    refine ⟨⟨k, gs', List.mem_cons_self⟩, ?_⟩
    with_reducible refine asg_pair ?_ (by wtm_at "ir")
    wtm_at "q1"
    wtm_at "q1"
    with_reducible refine ex_cons ?_
    with_reducible refine x_if ?_
    with_reducible refine et_And ?_
    with_reducible refine et_Cmp ?_ (by with_unfolding_all rfl)
    wtm_at "q0"
    wtm_at "q0"
    with_reducible refine cmp_eq_str ?_
    with_reducible refine tr_bool ?_
    rw [if_neg (by decide)]
    skip
    rw [if_neg (by decide)]
    with_reducible refine ex_nil ?_
    with_reducible refine ex_last ?_
    with_reducible refine x_expr ?_ (by wtm_at "ir")
    wtm_at "q2"
    wtm_at "q0"
    refine GETM.norm (by wtm_at "nz") ?_
    (with_reducible refine getm_set (by wtm_at "mem") (by decide) PySem.F.slot_set_add PySem.F.type_set_add ?_)
    refine And.intro (keep_cst (fun zz e => nomatch e)) ?_
    first | with_reducible refine args0 (by wtm_at "simple") (by wtm_at "nz") ?_ | with_reducible refine argsM (by wtm_at "simple") (by wtm_at "nz") (by wtm_at "nz") ?_
    with_reducible refine set_add_str (by wtm_at "mem") (by decide) (by wtm_at "lset") ?_
    exact ⟨0, by decide, .inr ⟨rfl, rfl, rit, li, oR, oL, gs', rfl, hn2⟩⟩
  · intro g s v R hv
    refine (hn2 _ (List.mem_cons_of_mem _ h4) g s v R hv).mono fun g' r' L' hx => NXK.imp (fun r L2 hx => ?_) hx
    obtain ⟨rfl, rfl⟩ := hx
    dsimp only
    with_reducible refine ex_nil ?_
    with_reducible refine ex_cons ?_
    with_reducible refine x_if ?_
    with_reducible refine et_val (by wtm_at "ir") ?_
    with_reducible refine ev_Attr ?_ (by wtm_at "ir")
    wtm_at "q0"
    with_reducible refine geta_own (by wtm_at "mem") (by wtm_at "mem") (by exact own150 (by assumption) (by kernel_rfl)) (by wtm_at "look") rfl ?_
    with_reducible refine tr_bool ?_
    rw [if_neg (by decide)]
    with_reducible refine ex_nil ?_
    with_reducible refine ex_cons ?_
    with_reducible refine x_if ?_
    with_reducible refine et_And ?_
    with_reducible refine et_Not ?_
    with_reducible refine et_val (by wtm_at "ir") ?_
    wtm_at "q0"
    with_reducible refine tr_str (by decide) ?_
    rw [if_pos (by decide)]
    with_reducible refine et_Cmp ?_ (by with_unfolding_all rfl)
    with_reducible refine ev_str ?_
    wtm_at "q0"
    with_reducible refine notin_sset (by wtm_at "mem") (by decide) ?_
    with_reducible refine tr_bool ?_
    rw [if_pos (by decide)]
    with_reducible refine ex_last ?_
    with_reducible refine x_return ?_
    with_reducible refine ev_Tuple ?_
    wtm_at "q3"
    wtm_at "q0"
    wtm_at "q3"
    wtm_at "q0"
    wtm_at "q3"
    wtm_at "q0"
    with_reducible refine evl_nil ?_
    with_reducible refine opl_newTuple (le_line (Nat.le_of_ble_eq_true rfl)) ?_
    exact ⟨L, by wtm_at "slb", hQ⟩
end
end
section
open PySem PySem.Spec PySem.Calls PySem.W PyProof.Rows
set_option maxRecDepth 100000
set_option maxHeartbeats 8000000
set_option linter.unusedVariables false
set_option pp.deepTerms false
set_option pp.deepTerms.threshold 8
section
variable {C : Cx} (hK : C.K = hd.heap_1 C.P)
include hK
theorem g_namere : nsIn C.K mainGlobals (Str.ofString "_name_disallowed_re") = some (some (.ref 181)) := by rw [hK]; kernel_rfl
theorem g_valuere : nsIn C.K mainGlobals (Str.ofString "_value_disallowed_re") = some (some (.ref 186)) := by rw [hK]; kernel_rfl
theorem b_type : BLT C (Str.ofString "type") (.type "type") := ⟨(by rw [hK]; kernel_rfl), (by kernel_rfl), (fun zz e => nomatch e), (by decide)⟩
theorem b_str : BLT C (Str.ofString "str") (.type "str") := ⟨(by rw [hK]; kernel_rfl), (by kernel_rfl), (fun zz e => nomatch e), (by decide)⟩
theorem b_list : BLT C (Str.ofString "list") (.type "list") := ⟨(by rw [hK]; kernel_rfl), (by kernel_rfl), (fun zz e => nomatch e), (by decide)⟩
theorem k_namere : ∃ fs sl od2 items n2 sl2, C.K.lookup 181 = some ⟨.type "re.Pattern", none, .fields fs, sl⟩ ∧ fs.getD 5 .none = .ref 180 ∧ Builtin.Re.reRawNat (fs.getD 6 .none) = 0 ∧ C.K.lookup 180 = some ⟨.type "tuple", od2, .seq items n2, sl2⟩ ∧
    (items.map Builtin.Re.reRawOf |>.map (·.toNat)) = nameCode := ⟨_, _, _, _, _, _, by rw [hK]; with_unfolding_all rfl, by kernel_rfl, by kernel_rfl, by rw [hK]; with_unfolding_all rfl, by kernel_rfl⟩
theorem k_valuere : ∃ fs sl od2 items n2 sl2, C.K.lookup 186 = some ⟨.type "re.Pattern", none, .fields fs, sl⟩ ∧ fs.getD 5 .none = .ref 185 ∧ Builtin.Re.reRawNat (fs.getD 6 .none) = 0 ∧ C.K.lookup 185 = some ⟨.type "tuple", od2, .seq items n2, sl2⟩ ∧
    (items.map Builtin.Re.reRawOf |>.map (·.toNat)) = valueCode := ⟨_, _, _, _, _, _, by rw [hK]; with_unfolding_all rfl, by kernel_rfl, by kernel_rfl, by rw [hK]; with_unfolding_all rfl, by kernel_rfl⟩
theorem convert_ok {n : Nat} {L : Led} {Q : AV → Led → Prop} (hn : n ≤ 180) {self : AV} {x : Str} {b : Bool} (hx : noCtl x) (hz : x.length ≤ sizeLine) (hQ : Q (.str x) L) : CALLC C n (.obj 208) [self, .str x] [(Str.ofString "name", .bool b)] L Q := by
  refine call_def (ρ := [(Str.ofString "self", self), (Str.ofString "value", .str x), (Str.ofString "name", .bool b)]) (by rw [hK]; with_unfolding_all rfl) (by rw [hK]; kernel_rfl) (bind2k fun zz zz zz => by with_unfolding_all rfl) (by rfl) (by kernel_rfl) (by omega) ?_
  with_reducible refine ex_cons ?_
  with_reducible refine x_if ?_
  with_reducible refine et_Cmp ?_ (by with_unfolding_all rfl)
  with_reducible refine ev_CallN (fun h => ev_blt (by kernel_rfl) (by first | exact b_type (by assumption) | exact b_str (by assumption) | exact b_list (by assumption)) h (by decide)) (by exact keep_cst (fun zz e => nomatch e)) (by wtm_at "simple") (by wtm_at "nz") ?_ (by wtm_at "ir") (by wtm_at "ir")
  with_reducible refine call_type_str ?_
  with_reducible refine ev_blt (by kernel_rfl) (by first | exact b_type (by assumption) | exact b_str (by assumption) | exact b_list (by assumption)) ?_ (by decide)
  with_reducible refine cmp_is_type ?_
  with_reducible refine tr_bool ?_
  rw [if_pos rfl]
  with_reducible refine ex_cons ?_
  with_reducible refine x_assign ?_ (by wtm_at "ir") (by wtm_at "ir") (by wtm_at "ir")
  with_reducible refine ev_IfExp ?_
  with_reducible refine et_val (by wtm_at "ir") ?_
  wtm_at "q0"
  with_reducible refine tr_bool ?_
  cases b with
  | true =>
    rw [if_pos rfl]
    with_reducible refine ev_gref (by kernel_rfl) (by first | exact g_namere (by assumption) | exact g_valuere (by assumption)) ?_ (by decide)
    wtm_at "q1"
    with_reducible refine ex_cons ?_
    with_reducible refine x_if ?_
    with_reducible refine et_val (by wtm_at "ir") ?_
    wtm_at "q2"
    wtm_at "q0"
    obtain ⟨fs, sl, od2, items, n2, sl2, k1, k2, k3, k4, k5⟩ := k_namere hK
    with_reducible refine getm_base k1 plainAttrs_pat slot_search type_search ?_
    refine And.intro (keep_cst (fun zz e => nomatch e)) ?_
    first | with_reducible refine args0 (by wtm_at "simple") (by wtm_at "nz") ?_ | with_reducible refine argsM (by wtm_at "simple") (by wtm_at "nz") (by wtm_at "nz") ?_
    with_reducible refine call_search k1 k2 k3 k4 (by rw [k5]; exact name_none hx) (by rw [k5]; exact name_first _ _ _) hz ?_
    with_reducible refine tr_none ?_
    rw [if_neg (by decide)]
    with_reducible refine ex_nil ?_
    with_reducible refine ex_last ?_
    with_reducible refine x_return ?_
    wtm_at "q0"
    exact ⟨L, by wtm_at "slb", hQ⟩
  | false =>
    rw [if_neg (by decide)]
    with_reducible refine ev_gref (by kernel_rfl) (by first | exact g_namere (by assumption) | exact g_valuere (by assumption)) ?_ (by decide)
    wtm_at "q1"
    with_reducible refine ex_cons ?_
    with_reducible refine x_if ?_
    with_reducible refine et_val (by wtm_at "ir") ?_
    wtm_at "q2"
    wtm_at "q0"
    obtain ⟨fs, sl, od2, items, n2, sl2, k1, k2, k3, k4, k5⟩ := k_valuere hK
    with_reducible refine getm_base k1 plainAttrs_pat slot_search type_search ?_
    refine And.intro (keep_cst (fun zz e => nomatch e)) ?_
    first | with_reducible refine args0 (by wtm_at "simple") (by wtm_at "nz") ?_ | with_reducible refine argsM (by wtm_at "simple") (by wtm_at "nz") (by wtm_at "nz") ?_
    with_reducible refine call_search k1 k2 k3 k4 (by rw [k5]; exact value_none hx) (by rw [k5]; exact value_first _ _ _) hz ?_
    with_reducible refine tr_none ?_
    rw [if_neg (by decide)]
    with_reducible refine ex_nil ?_
    with_reducible refine ex_last ?_
    with_reducible refine x_return ?_
    wtm_at "q0"
    exact ⟨L, by wtm_at "slb", hQ⟩
noncomputable abbrev pairT (p : Str × Str) : AV := .tup [.str p.1, .str p.2]
theorem own_headers : ownAttr C.K 309 (Str.ofString "_headers") = true := by rw [hK]; kernel_rfl
theorem m_convert : methAttr C.K 309 (Str.ofString "_convert_string_type") 208 = true := by rw [hK]; kernel_rfl
theorem k_208 : keepIn C.K (.ref 208) = true := by rw [hK]; kernel_rfl
theorem get_ok {n : Nat} {L : Led} {Q : AV → Led → Prop} (hn : n ≤ 170) {x d h : Addr} {ps : List (Str × Str)} {nm : Str} (h1 : (x, .inst 309 d) ∈ L) (h2 : (d, .dict [(Str.ofString "_headers", .obj h)]) ∈ L) (h3 : (h, .list (ps.map pairT)) ∈ L)
    (hc : noCtl (Txt.lower nm)) (hz : (Txt.lower nm).length ≤ sizeLine) (hps : ∀ p ∈ ps, (Txt.lower p.1).length ≤ sizeLine) (hlen : ps.length ≤ 1000)
    (hQ : Q (match ps.find? (fun p => Txt.lower p.1 == Txt.lower nm) with | some p => .str p.2 | none => .none) L) : CALLC C n (.obj 256) [.obj x, .str nm] [] L Q := by
  refine call_def (ρ := [(Str.ofString "self", .obj x), (Str.ofString "name", .str nm), (Str.ofString "default", .none)]) (by rw [hK]; with_unfolding_all rfl) (by rw [hK]; kernel_rfl) (bind2d (fun zz => .none) fun zz zz zz => by rw [hK]; with_unfolding_all rfl) (by rfl) (by kernel_rfl) (by omega) ?_
  with_reducible refine ex_cons ?_
  with_reducible refine x_assign ?_ (by wtm_at "ir") (by wtm_at "ir") (by wtm_at "ir")
  wtm_at "q2"
  wtm_at "q0"
  refine GETM.norm (by wtm_at "nz") ?_
  with_reducible refine getm_inst (by wtm_at "mem") (by wtm_at "mem") (by exact m_convert (by assumption)) (by with_unfolding_all rfl) ?_
  refine And.intro (keep_K (by first | exact k_208 (by assumption))) ?_
  wtm_at "q3"
  with_reducible refine ev_MethN (fun h => ev_name (by wtm_at "look") h (by decide) (by decide)) (fun h => getm_str PySem.F.slot_str_lower PySem.F.type_str_lower h) (by exact keep_cst (fun zz e => nomatch e)) (by wtm_at "simple") (by wtm_at "nz") (by wtm_at "nz") ?_ (by wtm_at "ir") (by with_unfolding_all rfl) (by wtm_at "ir") (by wtm_at "ir")
  with_reducible refine call_lower hz ?_
  with_reducible refine evl_nil ?_
  with_reducible refine evk_cons ?_
  with_reducible refine ev_bool ?_
  with_reducible refine evk_nil ?_
  wtm_at "cn"
  with_reducible refine (convert_ok hK (nle hn rfl) hc hz ?_).call
  wtm_at "q1"
  with_reducible refine ex_cut (fun ρ L' => ρ = [(Str.ofString "default", .none)] ∧ L' = L ∧ ps.find? (fun p => Txt.lower p.1 == Txt.lower nm) = none) ?_ ?_
  · with_reducible refine x_for ?_ (by wtm_at "ir")
    with_reducible refine ev_Attr ?_ (by wtm_at "ir")
    wtm_at "q0"
    with_reducible refine geta_own (by wtm_at "mem") (by wtm_at "mem") (by exact own_headers (by assumption)) (by wtm_at "look") rfl ?_
    with_reducible refine LOOP.inv (fun i ρ L' => ρ = [(Str.ofString "name", .str (Txt.lower nm)), (Str.ofString "default", .none)] ∧ L' = L ∧ (ps.take i).find? (fun p => Txt.lower p.1 == Txt.lower nm) = none) (iter_led (by wtm_at "mem")) ?_ ?_ ?_ ?_
    · exact ⟨_, _, by wtm_at "sub", List.Sublist.refl _, rfl, rfl, rfl⟩
    · rintro i ρ L1 L2 ⟨_, rfl, _⟩ hs
      exact hs.subset h3
    · rintro i a ρ L' hx ⟨rfl, rfl, hf⟩
      rw [List.getElem?_map] at hx
      obtain ⟨p, hp, rfl⟩ := Option.map_eq_some_iff.mp hx
      have hpm : p ∈ ps := List.mem_of_getElem? hp
      have hi : i < ps.length := (List.getElem?_eq_some_iff.mp hp).1
      with_reducible refine asg_pair ?_ (by wtm_at "ir")
      wtm_at "q1"
      wtm_at "q1"
      with_reducible refine ex_last ?_
      with_reducible refine x_if ?_
      with_reducible refine et_Cmp ?_ (by with_unfolding_all rfl)
      with_reducible refine ev_MethN (fun h => ev_name (by wtm_at "look") h (by decide) (by decide)) (fun h => getm_str PySem.F.slot_str_lower PySem.F.type_str_lower h) (by exact keep_cst (fun zz e => nomatch e)) (by wtm_at "simple") (by wtm_at "nz") (by wtm_at "nz") ?_ (by wtm_at "ir") (by with_unfolding_all rfl) (by wtm_at "ir") (by wtm_at "ir")
      with_reducible refine call_lower (hps p hpm) ?_
      wtm_at "q0"
      with_reducible refine cmp_eq_str ?_
      with_reducible refine tr_bool ?_
      with_reducible refine ite_of (fun h => ?_) (fun h => ?_)
      · with_reducible refine ex_last ?_
        with_reducible refine x_return ?_
        wtm_at "q0"
        refine ⟨_, List.Sublist.refl _, ?_⟩
        have e : ps.find? (fun p => Txt.lower p.1 == Txt.lower nm) = some p := by
          have : ps = ps.take i ++ p :: ps.drop (i + 1) := by
            have := List.getElem_cons_drop (as := ps) (h := hi)
            rw [(List.getElem?_eq_some_iff.mp hp).2] at this
            rw [this, List.take_append_drop]
          rw [this, List.find?_append, hf, Option.none_or]; simp only [List.find?_cons, h]
        rw [e] at hQ; exact hQ
      · with_reducible refine ex_nil ?_
        refine ⟨_, _, by wtm_at "sub", List.Sublist.refl _, rfl, rfl, ?_⟩
        rw [List.take_add_one, hp, List.find?_append, hf, Option.none_or]
        show [p].find? _ = none
        rw [Bool.not_eq_true] at h; simp only [List.find?_cons, h, List.find?_nil]
    · rintro ρ L' ⟨rfl, rfl, hf⟩
      rw [List.length_map, List.take_length] at hf
      with_reducible refine ex_nil ?_
      exact ⟨_, _, by wtm_at "sub", List.Sublist.refl _, rfl, rfl, hf⟩
  · rintro ρ L' ⟨rfl, rfl, hf⟩
    rw [hf] at hQ
    with_reducible refine ex_last ?_
    with_reducible refine x_return ?_
    wtm_at "q0"
    exact ⟨_, List.Sublist.refl _, hQ⟩
end
end
section
open PySem PySem.Spec PySem.Calls PySem.W PyProof.Rows
set_option maxRecDepth 100000
set_option maxHeartbeats 8000000
set_option linter.unusedVariables false
set_option pp.deepTerms false
set_option pp.deepTerms.threshold 8
section
variable {C : Cx} (hK : C.K = hd.heap_1 C.P)
include hK
theorem m_get : methAttr C.K 309 (Str.ofString "get") 256 = true := by rw [hK]; kernel_rfl
theorem k_256 : keepIn C.K (.ref 256) = true := by rw [hK]; kernel_rfl
theorem keys_ok {n : Nat} {L : Led} {Q : AV → Led → Prop} (hn : n ≤ 170) {x d h : Addr} {ps : List (Str × Str)} (h1 : (x, .inst 309 d) ∈ L) (h2 : (d, .dict [(Str.ofString "_headers", .obj h)]) ∈ L) (h3 : (h, .list (ps.map pairT)) ∈ L) (hlen : ps.length ≤ 1000)
    (hQ : Q (.lst (ps.map fun p => .str p.1)) L) : CALLC C n (.obj 261) [.obj x] [] L Q := by
  refine call_def (ρ := [(Str.ofString "self", .obj x)]) (by rw [hK]; with_unfolding_all rfl) (by rw [hK]; kernel_rfl) (bind1 fun zz => by with_unfolding_all rfl) (by rfl) (by kernel_rfl) (by omega) ?_
  with_reducible refine ex_last ?_
  with_reducible refine x_return ?_
  with_reducible refine ev_ListComp (ρ0 := []) (by kernel_rfl) (by wtm_at "sub") ?_ (by wtm_at "ir")
  with_reducible refine ev_Attr ?_ (by wtm_at "ir")
  wtm_at "q0"
  with_reducible refine geta_own (by wtm_at "mem") (by wtm_at "mem") (by exact own_headers (by assumption)) (by wtm_at "look") rfl ?_
  refine LOOPC.plain (ps.map pairT) (fun a => match a with | .tup (k :: _) => [k] | _ => []) (fun P => iter_led (by wtm_at "mem")) (by wtm_at "mem") (by rw [List.length_map]; omega) ?_ ?_ ?_
  · intro a ha
    obtain ⟨p, _, rfl⟩ := List.mem_map.mp ha
    exact Nat.le_refl _
  · intro a P ha
    obtain ⟨p, _, rfl⟩ := List.mem_map.mp ha
    with_reducible refine asg_pair ?_ (by wtm_at "ir")
    wtm_at "q1"
    wtm_at "q1"
    refine And.intro (by wtm_at "sub") ?_
    refine tests_none fun P' => ?_
    wtm_at "q0"
    exact ⟨rfl, rfl⟩
  · intro D
    refine ⟨_, _, .froz rfl, L, by wtm_at "slb", ?_⟩
    refine (congrArg (fun z => Q (.lst z) L) ?_).mp hQ
    clear h3 hQ hlen
    induction ps with
    | nil => rfl
    | cons p r ih => rw [List.map_cons, List.map_cons, List.flatMap_cons, ← ih]; rfl
theorem items_ok {n : Nat} {L : Led} {Q : AV → Led → Prop} (hn : n ≤ 170) {x d h : Addr} {ps : List (Str × Str)} (h1 : (x, .inst 309 d) ∈ L) (h2 : (d, .dict [(Str.ofString "_headers", .obj h)]) ∈ L) (h3 : (h, .list (ps.map pairT)) ∈ L) (hlen : ps.length ≤ 1000)
    (hQ : Q (.lst (ps.map pairT)) L) : CALLC C n (.obj 273) [.obj x] [] L Q := by
  refine call_def (ρ := [(Str.ofString "self", .obj x)]) (by rw [hK]; with_unfolding_all rfl) (by rw [hK]; kernel_rfl) (bind1 fun zz => by with_unfolding_all rfl) (by rfl) (by kernel_rfl) (by omega) ?_
  with_reducible refine ex_last ?_
  with_reducible refine x_return ?_
  with_reducible refine ev_Sub ?_
  with_reducible refine ev_Attr ?_ (by wtm_at "ir")
  wtm_at "q0"
  with_reducible refine geta_own (by wtm_at "mem") (by wtm_at "mem") (by exact own_headers (by assumption)) (by wtm_at "look") rfl ?_
  refine ev_Slice ?_
  show ITEM _ _ _ (.slc .none .none) _ _
  with_reducible refine item_slice (xs := ps.map pairT) (SeqV.led (by wtm_at "mem")) .none .none (fun zz e => nomatch e) (fun zz zz e => nomatch e) (by rw [List.length_map, sizeLine_eq]; omega) ?_
  exact ⟨L, by wtm_at "slb", hQ⟩
theorem setdefault_ok {n : Nat} {L L' : Led} {Q : AV → Led → Prop} (hn : n ≤ 160) {x d h : Addr} {ps : List (Str × Str)} {nm vl : Str} (h1 : (x, .inst 309 d) ∈ L) (h2 : (d, .dict [(Str.ofString "_headers", .obj h)]) ∈ L) (h3 : (h, .list (ps.map pairT)) ∈ L)
    (hc : noCtl (Txt.lower nm)) (hz : (Txt.lower nm).length ≤ sizeLine) (hcn : noCtl nm) (hzn : nm.length ≤ sizeLine) (hcv : noCtl vl) (hzv : vl.length ≤ sizeLine) (hps : ∀ p ∈ ps, (Txt.lower p.1).length ≤ sizeLine) (hlen : ps.length ≤ 1000)
    (hS : LSet h (.list ((ps ++ [(nm, vl)]).map pairT)) L L')
    (hQ : match ps.find? (fun p => Txt.lower p.1 == Txt.lower nm) with | some p => Q (.str p.2) L | none => Q (.str vl) L') : CALLC C n (.obj 299) [.obj x, .str nm, .str vl] [] L Q := by
  refine call_def (ρ := [(Str.ofString "self", .obj x), (Str.ofString "name", .str nm), (Str.ofString "value", .str vl)]) (by rw [hK]; with_unfolding_all rfl) (by rw [hK]; kernel_rfl) (bind3 fun zz zz zz => by with_unfolding_all rfl) (by rfl) (by kernel_rfl) (by omega) ?_
  with_reducible refine ex_cons ?_
  with_reducible refine x_assign ?_ (by wtm_at "ir") (by wtm_at "ir") (by wtm_at "ir")
  with_reducible refine ev_MethN (fun h => ev_name (by wtm_at "look") h (by decide) (by decide)) (fun h => getm_inst (by wtm_at "mem") (by wtm_at "mem") (by first | exact m_convert (by assumption) | exact m_get (by assumption)) (by with_unfolding_all rfl) h) (by exact keep_K (by first | exact k_208 (by assumption) | exact k_256 (by assumption))) (by wtm_at "simple") (by wtm_at "nz") (by wtm_at "nz") ?_ (by wtm_at "ir") (by with_unfolding_all rfl) (by wtm_at "ir") (by wtm_at "ir")
  refine (get_ok hK (nle hn rfl) h1 h2 h3 hc hz hps hlen ?_).call
  cases hf : ps.find? (fun p => Txt.lower p.1 == Txt.lower nm) with
  | some p =>
    rw [hf] at hQ
    dsimp only at hQ ⊢
    wtm_at "q1"
    with_reducible refine ex_last ?_
    with_reducible refine x_if ?_
    with_reducible refine et_Cmp ?_ (by with_unfolding_all rfl)
    wtm_at "q0"
    with_reducible refine ev_none ?_
    with_reducible refine cmp_is_none (fun e => nomatch e) (fun zz e => nomatch e) ?_
    with_reducible refine tr_bool ?_
    rw [if_neg (by decide)]
    with_reducible refine ex_last ?_
    with_reducible refine x_return ?_
    wtm_at "q0"
    exact ⟨L, by wtm_at "slb", hQ⟩
  | none =>
    rw [hf] at hQ
    dsimp only at hQ ⊢
    wtm_at "q1"
    with_reducible refine ex_last ?_
    with_reducible refine x_if ?_
    with_reducible refine et_Cmp ?_ (by with_unfolding_all rfl)
    wtm_at "q0"
    with_reducible refine ev_none ?_
    with_reducible refine cmp_none_is_none ?_
    with_reducible refine tr_bool ?_
    rw [if_pos rfl]
    with_reducible refine ex_cons ?_
    with_reducible refine x_expr ?_ (by wtm_at "ir")
    wtm_at "q2"
    with_reducible refine ev_Attr ?_ (by wtm_at "ir")
    wtm_at "q0"
    with_reducible refine geta_own (by wtm_at "mem") (by wtm_at "mem") (by exact own_headers (by assumption)) (by wtm_at "look") rfl ?_
    refine GETM.norm (by wtm_at "nz") ?_
    with_reducible refine getm_list (by wtm_at "mem") PySem.F.slot_list_append PySem.F.type_list_append ?_
    refine And.intro (keep_cst (fun zz e => nomatch e)) ?_
    wtm_at "q3"
    with_reducible refine ev_Tuple ?_
    wtm_at "q3"
    wtm_at "q2"
    wtm_at "q0"
    refine GETM.norm (by wtm_at "nz") ?_
    with_reducible refine getm_inst (by wtm_at "mem") (by wtm_at "mem") (by first | exact m_convert (by assumption) | exact m_get (by assumption)) (by with_unfolding_all rfl) ?_
    refine And.intro (keep_K (by first | exact k_208 (by assumption) | exact k_256 (by assumption))) ?_
    wtm_at "q3"
    wtm_at "q0"
    with_reducible refine evl_nil ?_
    with_reducible refine evk_cons ?_
    with_reducible refine ev_bool ?_
    with_reducible refine evk_nil ?_
    wtm_at "cn"
    with_reducible refine (convert_ok hK (nle hn rfl) hcn hzn ?_).call
    wtm_at "q3"
    wtm_at "q2"
    wtm_at "q0"
    refine GETM.norm (by wtm_at "nz") ?_
    with_reducible refine getm_inst (by wtm_at "mem") (by wtm_at "mem") (by first | exact m_convert (by assumption) | exact m_get (by assumption)) (by with_unfolding_all rfl) ?_
    refine And.intro (keep_K (by first | exact k_208 (by assumption) | exact k_256 (by assumption))) ?_
    wtm_at "q3"
    wtm_at "q0"
    with_reducible refine evl_nil ?_
    with_reducible refine evk_cons ?_
    with_reducible refine ev_bool ?_
    with_reducible refine evk_nil ?_
    wtm_at "cn"
    with_reducible refine (convert_ok hK (nle hn rfl) hcv hzv ?_).call
    with_reducible refine evl_nil ?_
    with_reducible refine opl_newTuple (by rw [sizeLine_eq]; exact Nat.le_of_ble_eq_true rfl) ?_
    with_reducible refine evl_nil ?_
    with_reducible refine evk_nil ?_
    wtm_at "cn"
    with_reducible refine call_append (L' := L') (xs := ps.map pairT) (by wtm_at "mem") ?_ (by rw [List.length_map, sizeLine_eq]; omega) ?_
    · rw [List.map_append] at hS; exact hS
    with_reducible refine ex_last ?_
    with_reducible refine x_return ?_
    wtm_at "q0"
    exact ⟨L', by wtm_at "slb", hQ⟩
theorem delitem_ok {n : Nat} {L L' : Led} {Q : AV → Led → Prop} (hn : n ≤ 160) {x d h : Addr} {ps : List (Str × Str)} {nm : Str} (h1 : (x, .inst 309 d) ∈ L) (h2 : (d, .dict [(Str.ofString "_headers", .obj h)]) ∈ L) (h3 : (h, .list (ps.map pairT)) ∈ L)
    (hc : noCtl (Txt.lower nm)) (hz : (Txt.lower nm).length ≤ sizeLine) (hps : ∀ p ∈ ps, (Txt.lower p.1).length ≤ sizeLine) (hlen : ps.length ≤ 1000)
    (hS : LSet h (.list ((ps.filter fun p => Txt.lower p.1 != Txt.lower nm).map pairT)) L L') (hQ : Q .none L') : CALLC C n (.obj 227) [.obj x, .str nm] [] L Q := by
  refine call_def (ρ := [(Str.ofString "self", .obj x), (Str.ofString "name", .str nm)]) (by rw [hK]; with_unfolding_all rfl) (by rw [hK]; kernel_rfl) (bind2 fun zz zz => by with_unfolding_all rfl) (by rfl) (by kernel_rfl) (by omega) ?_
  with_reducible refine ex_cons ?_
  with_reducible refine x_assign ?_ (by wtm_at "ir") (by wtm_at "ir") (by wtm_at "ir")
  wtm_at "q2"
  wtm_at "q0"
  refine GETM.norm (by wtm_at "nz") ?_
  with_reducible refine getm_inst (by wtm_at "mem") (by wtm_at "mem") (by first | exact m_convert (by assumption) | exact m_get (by assumption)) (by with_unfolding_all rfl) ?_
  refine And.intro (keep_K (by first | exact k_208 (by assumption) | exact k_256 (by assumption))) ?_
  wtm_at "q3"
  with_reducible refine ev_MethN (fun h => ev_name (by wtm_at "look") h (by decide) (by decide)) (fun h => getm_str PySem.F.slot_str_lower PySem.F.type_str_lower h) (by exact keep_cst (fun zz e => nomatch e)) (by wtm_at "simple") (by wtm_at "nz") (by wtm_at "nz") ?_ (by wtm_at "ir") (by with_unfolding_all rfl) (by wtm_at "ir") (by wtm_at "ir")
  with_reducible refine call_lower hz ?_
  with_reducible refine evl_nil ?_
  with_reducible refine evk_cons ?_
  with_reducible refine ev_bool ?_
  with_reducible refine evk_nil ?_
  wtm_at "cn"
  with_reducible refine (convert_ok hK (nle hn rfl) hc hz ?_).call
  wtm_at "q1"
  with_reducible refine ex_last ?_
  with_reducible refine x_assign ?_ (by wtm_at "ir") (by wtm_at "ir") (by wtm_at "ir")
  with_reducible refine ev_ListComp (ρ0 := [(Str.ofString "name", .str (Txt.lower nm))]) (by kernel_rfl) (by wtm_at "sub") ?_ (by wtm_at "ir")
  with_reducible refine ev_Attr ?_ (by wtm_at "ir")
  wtm_at "q0"
  with_reducible refine geta_own (by wtm_at "mem") (by wtm_at "mem") (by exact own_headers (by assumption)) (by wtm_at "look") rfl ?_
  refine LOOPC.plain (ps.map pairT) (fun a => match a with | .tup [.str k, .str v] => if Txt.lower k != Txt.lower nm then [pairT (k, v)] else [] | _ => []) (fun P => iter_led (by wtm_at "mem")) (by wtm_at "mem") (by rw [List.length_map]; omega) ?_ ?_ ?_
  · intro a ha
    obtain ⟨p, _, rfl⟩ := List.mem_map.mp ha
    show (if (Txt.lower p.1 != Txt.lower nm) = true then _ else _ : List AV).length ≤ 1
    split <;> simp
  · intro a P ha
    obtain ⟨p, hp, rfl⟩ := List.mem_map.mp ha
    wtm_at "q1"
    refine And.intro (by wtm_at "sub") ?_
    refine tests_if ?_
    with_reducible refine et_Cmp ?_ (by with_unfolding_all rfl)
    wtm_at "q2"
    with_reducible refine ev_Sub ?_
    wtm_at "q0"
    with_reducible refine ev_int ?_
    with_reducible refine item_tup (x := .str p.1) (by decide) (by decide) (by with_unfolding_all rfl) ?_
    refine GETM.norm (by wtm_at "nz") ?_
    with_reducible refine getm_str PySem.F.slot_str_lower PySem.F.type_str_lower ?_
    refine And.intro (keep_cst (fun zz e => nomatch e)) ?_
    first | with_reducible refine args0 (by wtm_at "simple") (by wtm_at "nz") ?_ | with_reducible refine argsM (by wtm_at "simple") (by wtm_at "nz") (by wtm_at "nz") ?_
    with_reducible refine call_lower (hps p hp) ?_
    wtm_at "q0"
    with_reducible refine cmp_ne_str ?_
    with_reducible refine tr_bool ?_
    by_cases hb : (Txt.lower p.1 != Txt.lower nm) = true
    · rw [if_pos hb]
      intro P'
      wtm_at "q0"
      exact ⟨if_pos hb, rfl⟩
    · rw [if_neg hb]
      exact ⟨if_neg hb, rfl⟩
  · intro D
    refine ⟨_, _, .froz rfl, ?_⟩
    have e : (ps.map pairT).flatMap (fun a => match a with | .tup [.str k, .str v] => if Txt.lower k != Txt.lower nm then [pairT (k, v)] else [] | _ => []) = (ps.filter fun p => Txt.lower p.1 != Txt.lower nm).map pairT := by
      clear h3 hS hps hlen
      induction ps with
      | nil => rfl
      | cons p r ih =>
        rw [List.map_cons, List.flatMap_cons, ih, List.filter_cons]
        show (if (Txt.lower p.1 != Txt.lower nm) = true then _ else _) ++ _ = _
        split <;> rfl
    rw [e]
    with_reducible refine asg_sub ?_
    with_reducible refine ev_Attr ?_ (by wtm_at "ir")
    wtm_at "q0"
    with_reducible refine geta_own (by wtm_at "mem") (by wtm_at "mem") (by exact own_headers (by assumption)) (by wtm_at "look") rfl ?_
    refine ev_Slice ?_
    show OP3U _ _ _ _ (.slc .none .none) _ _ _
    with_reducible refine set_list_all (xs := ps.map pairT) (by wtm_at "mem") hS ?_ ?_
    · rw [List.length_map, List.length_map, sizeLine_eq]
      have := List.length_filter_le (fun p : Str × Str => Txt.lower p.1 != Txt.lower nm) ps
      omega
    · exact ⟨L', by wtm_at "slb", hQ⟩
end
end
section
open PySem PySem.Spec PySem.Calls PySem.W PyProof.Rows
set_option maxRecDepth 100000
set_option maxHeartbeats 8000000
set_option linter.unusedVariables false
set_option pp.deepTerms false
set_option pp.deepTerms.threshold 8
section
variable {C : Cx} (hK : C.K = hd.heap_1 C.P)
include hK
theorem sets_headers : setsPlain C.K 309 (Str.ofString "_headers") = true := by rw [hK]; kernel_rfl
theorem makes_309 : makesIn C.K 309 = true := by rw [hK]; kernel_rfl
theorem init_309 : findIn C.K (.ref 309) "__init__" = some (some (.ref 201)) := by rw [hK]; kernel_rfl
theorem type_201 : typeIn C.K (.ref 201) = some (.type "function") := by rw [hK]; kernel_rfl
theorem headers_init1 {n : Nat} {L L' : Led} {Q : AV → Led → Prop} (hn : n ≤ 160) {x d h : Addr} {ps : List (Str × Str)} (h1 : (x, .inst 309 d) ∈ L) (h2 : (d, .dict []) ∈ L) (h3 : (h, .list (ps.map pairT)) ∈ L) (hlen : ps.length ≤ 1000)
    (hps : ∀ p ∈ ps, noCtl p.1 ∧ noCtl p.2 ∧ p.1.length ≤ sizeLine ∧ p.2.length ≤ sizeLine) (hS : LSet d (.dict [(Str.ofString "_headers", .obj h)]) L L') (g1 : (x, .inst 309 d) ∈ L') (g2 : (d, .dict [(Str.ofString "_headers", .obj h)]) ∈ L') (g3 : (h, .list (ps.map pairT)) ∈ L')
    (hQ : Q .none L') : CALLC C n (.obj 201) [.obj x, .obj h] [] L Q := by
  refine call_def (ρ := [(Str.ofString "self", .obj x), (Str.ofString "headers", .obj h)]) (by rw [hK]; with_unfolding_all rfl) (by rw [hK]; kernel_rfl) (bind2p fun zz zz zz => by rw [hK]; with_unfolding_all rfl) (by rfl) (by kernel_rfl) (by omega) ?_
  with_reducible refine ex_cons ?_
  with_reducible refine x_assign ?_ (by wtm_at "ir") (by wtm_at "ir") (by wtm_at "ir")
  with_reducible refine ev_IfExp ?_
  with_reducible refine et_Cmp ?_ (by with_unfolding_all rfl)
  wtm_at "q0"
  with_reducible refine ev_none ?_
  with_reducible refine cmp_isnot_none (fun e => nomatch e) (fun zz e => nomatch e) ?_
  with_reducible refine tr_bool ?_
  rw [if_pos rfl]
  wtm_at "q0"
  wtm_at "q1"
  with_reducible refine ex_cons ?_
  with_reducible refine x_if ?_
  with_reducible refine et_Cmp ?_ (by with_unfolding_all rfl)
  with_reducible refine ev_CallN (fun h => ev_blt (by kernel_rfl) (by first | exact b_type (by assumption) | exact b_str (by assumption) | exact b_list (by assumption)) h (by decide)) (by exact keep_cst (fun zz e => nomatch e)) (by wtm_at "simple") (by wtm_at "nz") ?_ (by wtm_at "ir") (by wtm_at "ir")
  with_reducible refine call_type_list (SeqV.led h3) ?_
  with_reducible refine ev_blt (by kernel_rfl) (by first | exact b_type (by assumption) | exact b_str (by assumption) | exact b_list (by assumption)) ?_ (by decide)
  with_reducible refine cmp_isnot_type ?_
  with_reducible refine tr_bool ?_
  rw [if_neg (by decide)]
  with_reducible refine ex_nil ?_
  with_reducible refine ex_cons ?_
  with_reducible refine x_assign ?_ (by wtm_at "ir") (by wtm_at "ir") (by wtm_at "ir")
  wtm_at "q0"
  with_reducible refine asg_attr ?_
  wtm_at "q0"
  refine seta_own (L' := L') h1 h2 (sets_headers hK) hS (by decide) ?_
  with_reducible refine ex_last ?_
  with_reducible refine x_if ?_
  with_reducible refine et_val (by wtm_at "ir") ?_
  with_reducible refine ev_bool ?_
  with_reducible refine tr_bool ?_
  rw [if_pos rfl]
  with_reducible refine ex_last ?_
  with_reducible refine x_for ?_ (by wtm_at "ir")
  wtm_at "q0"
  with_reducible refine LOOP.inv (fun i ρ L1 => ρ = [(Str.ofString "self", .obj x)] ∧ L1 = L') (iter_led g3) ?_ ?_ ?_ ?_
  · exact ⟨_, _, by wtm_at "sub", List.Sublist.refl _, rfl, rfl⟩
  · rintro i ρ L1 L2 ⟨_, rfl⟩ hs
    exact hs.subset g3
  · rintro i a ρ L1 hx ⟨rfl, rfl⟩
    rw [List.getElem?_map] at hx
    obtain ⟨p, hp, rfl⟩ := Option.map_eq_some_iff.mp hx
    obtain ⟨p1, p2, p3, p4⟩ := hps p (List.mem_of_getElem? hp)
    with_reducible refine asg_pair ?_ (by wtm_at "ir")
    wtm_at "q1"
    wtm_at "q1"
    with_reducible refine ex_cons ?_
    with_reducible refine x_expr ?_ (by wtm_at "ir")
    wtm_at "q2"
    wtm_at "q0"
    refine GETM.norm (by wtm_at "nz") ?_
    with_reducible refine getm_inst (by wtm_at "mem") (by wtm_at "mem") (by first | exact m_convert (by assumption) | exact m_get (by assumption)) (by with_unfolding_all rfl) ?_
    refine And.intro (keep_K (by first | exact k_208 (by assumption) | exact k_256 (by assumption))) ?_
    wtm_at "q3"
    wtm_at "q0"
    with_reducible refine evl_nil ?_
    with_reducible refine evk_cons ?_
    with_reducible refine ev_bool ?_
    with_reducible refine evk_nil ?_
    wtm_at "cn"
    with_reducible refine (convert_ok hK (nle hn rfl) p1 p3 ?_).call
    with_reducible refine ex_last ?_
    with_reducible refine x_expr ?_ (by wtm_at "ir")
    wtm_at "q2"
    wtm_at "q0"
    refine GETM.norm (by wtm_at "nz") ?_
    with_reducible refine getm_inst (by wtm_at "mem") (by wtm_at "mem") (by first | exact m_convert (by assumption) | exact m_get (by assumption)) (by with_unfolding_all rfl) ?_
    refine And.intro (keep_K (by first | exact k_208 (by assumption) | exact k_256 (by assumption))) ?_
    wtm_at "q3"
    wtm_at "q0"
    with_reducible refine evl_nil ?_
    with_reducible refine evk_cons ?_
    with_reducible refine ev_bool ?_
    with_reducible refine evk_nil ?_
    wtm_at "cn"
    with_reducible refine (convert_ok hK (nle hn rfl) p2 p4 ?_).call
    exact ⟨_, _, by wtm_at "sub", List.Sublist.refl _, rfl, rfl⟩
  · rintro ρ L1 ⟨rfl, rfl⟩
    with_reducible refine ex_nil ?_
    exact ⟨L1, by wtm_at "slb", hQ⟩
theorem headers_init0 {n : Nat} {L : Led} {Q : AV → Led → Prop} (hn : n ≤ 160) {x d : Addr} (h1 : (x, .inst 309 d) ∈ L) (h2 : (d, .dict []) ∈ L)
    (hQ : ∀ h, ∃ L', LSet d (.dict [(Str.ofString "_headers", .obj h)]) L L' ∧ Q .none ((h, .list []) :: L')) : CALLC C n (.obj 201) [.obj x] [] L Q := by
  refine call_def (ρ := [(Str.ofString "self", .obj x), (Str.ofString "headers", .none)]) (by rw [hK]; with_unfolding_all rfl) (by rw [hK]; kernel_rfl) (bind1d (fun zz => .none) fun zz zz => by rw [hK]; with_unfolding_all rfl) (by rfl) (by kernel_rfl) (by omega) ?_
  with_reducible refine ex_cons ?_
  with_reducible refine x_assign ?_ (by wtm_at "ir") (by wtm_at "ir") (by wtm_at "ir")
  with_reducible refine ev_IfExp ?_
  with_reducible refine et_Cmp ?_ (by with_unfolding_all rfl)
  wtm_at "q0"
  with_reducible refine ev_none ?_
  with_reducible refine cmp_none_isnot_none ?_
  with_reducible refine tr_bool ?_
  rw [if_neg (by decide)]
  with_reducible refine ev_List ?_
  with_reducible refine evl_nil ?_
  with_reducible refine opl_newList (by decide) fun h => ?_
  obtain ⟨L', hS, hQ'⟩ := hQ h
  wtm_at "q1"
  with_reducible refine ex_cons ?_
  with_reducible refine x_if ?_
  with_reducible refine et_Cmp ?_ (by with_unfolding_all rfl)
  with_reducible refine ev_CallN (fun h => ev_blt (by kernel_rfl) (by first | exact b_type (by assumption) | exact b_str (by assumption) | exact b_list (by assumption)) h (by decide)) (by exact keep_cst (fun zz e => nomatch e)) (by wtm_at "simple") (by wtm_at "nz") ?_ (by wtm_at "ir") (by wtm_at "ir")
  with_reducible refine call_type_list (xs := []) (SeqV.led (by wtm_at "mem")) ?_
  with_reducible refine ev_blt (by kernel_rfl) (by first | exact b_type (by assumption) | exact b_str (by assumption) | exact b_list (by assumption)) ?_ (by decide)
  with_reducible refine cmp_isnot_type ?_
  with_reducible refine tr_bool ?_
  rw [if_neg (by decide)]
  with_reducible refine ex_nil ?_
  with_reducible refine ex_cons ?_
  with_reducible refine x_assign ?_ (by wtm_at "ir") (by wtm_at "ir") (by wtm_at "ir")
  wtm_at "q0"
  with_reducible refine asg_attr ?_
  wtm_at "q0"
  refine seta_own (L' := (h, .list []) :: L') (List.mem_cons_of_mem _ h1) (List.mem_cons_of_mem _ h2) (sets_headers hK) (LSet.there hS) (by decide) ?_
  with_reducible refine ex_last ?_
  with_reducible refine x_if ?_
  with_reducible refine et_val (by wtm_at "ir") ?_
  with_reducible refine ev_bool ?_
  with_reducible refine tr_bool ?_
  rw [if_pos rfl]
  with_reducible refine ex_last ?_
  with_reducible refine x_for ?_ (by wtm_at "ir")
  wtm_at "q0"
  with_reducible refine LOOP.inv (fun i ρ L1 => ρ = [(Str.ofString "self", .obj x)] ∧ L1 = (h, .list []) :: L') (iter_led (xs := []) (by wtm_at "mem")) ?_ ?_ ?_ ?_
  · exact ⟨_, _, by wtm_at "sub", List.Sublist.refl _, rfl, rfl⟩
  · rintro i ρ L1 L2 ⟨_, rfl⟩ hs
    exact hs.subset (by wtm_at "mem")
  · rintro i a ρ L1 hx ⟨rfl, rfl⟩
    simp at hx
  · rintro ρ L1 ⟨rfl, rfl⟩
    with_reducible refine ex_nil ?_
    exact ⟨_, by wtm_at "slb", hQ'⟩
theorem headers_new {n : Nat} {L : Led} {Q : AV → Led → Prop} (hn : n ≤ 150) {h : Addr} {ps : List (Str × Str)} (h3 : (h, .list (ps.map pairT)) ∈ L) (hlen : ps.length ≤ 1000)
    (hps : ∀ p ∈ ps, noCtl p.1 ∧ noCtl p.2 ∧ p.1.length ≤ sizeLine ∧ p.2.length ≤ sizeLine) (hQ : ∀ x d, Q (.obj x) ((x, .inst 309 d) :: (d, .dict [(Str.ofString "_headers", .obj h)]) :: L)) : CALLC C n (.obj 309) [.obj h] [] L Q := by
  refine call_class (makes_309 hK) (init_309 hK) (type_201 hK) fun x d => ?_
  exact headers_init1 hK (nle hn rfl) (by wtm_at "mem") (by wtm_at "mem") (by wtm_at "mem") hlen hps (LSet.there LSet.here) (by wtm_at "mem") (by wtm_at "mem") (by wtm_at "mem") ⟨rfl, hQ x d⟩
theorem headers_new0 {n : Nat} {L : Led} {Q : AV → Led → Prop} (hn : n ≤ 150) (hQ : ∀ x d h, Q (.obj x) ((h, .list []) :: (x, .inst 309 d) :: (d, .dict [(Str.ofString "_headers", .obj h)]) :: L)) : CALLC C n (.obj 309) [] [] L Q := by
  refine call_class (makes_309 hK) (init_309 hK) (type_201 hK) fun x d => ?_
  exact headers_init0 hK (nle hn rfl) (by wtm_at "mem") (by wtm_at "mem") fun h => ⟨_, LSet.there LSet.here, rfl, hQ x d h⟩
end
end
section
open PySem PySem.Spec PySem.Calls PySem.W PyProof.Rows
set_option maxRecDepth 100000
set_option maxHeartbeats 8000000
set_option linter.unusedVariables false
set_option pp.deepTerms false
set_option pp.deepTerms.threshold 8
noncomputable def uAdd (acc : List Str) (t : Str) : List Str := if acc.any (fun a => Txt.lower a == Txt.lower t) then acc else acc ++ [t]
noncomputable def uniqL (ts : List Str) : List Str := ts.foldl uAdd []
theorem uniqL_snoc (ts : List Str) (t : Str) : uniqL (ts ++ [t]) = uAdd (uniqL ts) t := by unfold uniqL; rw [List.foldl_append]; rfl
theorem uniqL_mem (ts : List Str) : ∀ t ∈ uniqL ts, t ∈ ts := by
  have : ∀ (ts acc : List Str), ∀ t ∈ ts.foldl uAdd acc, t ∈ acc ∨ t ∈ ts := by
    intro ts
    induction ts with
    | nil => intro acc t h; exact .inl h
    | cons a r ih =>
      intro acc t h
      rcases ih _ t h with h | h
      · unfold uAdd at h
        split at h
        · exact .inl h
        · rcases List.mem_append.mp h with h | h
          · exact .inl h
          · exact .inr (by simp at h; simp [h])
      · exact .inr (List.mem_cons_of_mem _ h)
  intro t h
  rcases this ts [] t h with h | h
  · cases h
  · exact h
theorem uniqL_len (ts : List Str) : (uniqL ts).length ≤ ts.length := by
  have : ∀ (ts acc : List Str), (ts.foldl uAdd acc).length ≤ acc.length + ts.length := by
    intro ts
    induction ts with
    | nil => intro acc; simp
    | cons a r ih =>
      intro acc
      have h1 := ih (uAdd acc a)
      have h2 : (uAdd acc a).length ≤ acc.length + 1 := by unfold uAdd; split <;> simp
      simp only [List.foldl_cons, List.length_cons]; omega
  have := this ts []
  simpa [uniqL] using this
noncomputable abbrev eS : Str := Str.ofString ""
theorem find_pair (acc : List Str) (t : Str) : (acc.map fun a => (a, eS)).find? (fun p => Txt.lower p.1 == Txt.lower t) = none ↔ acc.any (fun a => Txt.lower a == Txt.lower t) = false := by
  rw [List.find?_eq_none, List.any_eq_false]
  constructor
  · intro h a ha; exact h (a, eS) (List.mem_map_of_mem ha)
  · intro h p hp
    obtain ⟨a, ha, rfl⟩ := List.mem_map.mp hp
    exact h a ha
section
variable {C : Cx} (hK : C.K = hd.heap_1 C.P)
include hK
theorem g_Headers : nsIn C.K mainGlobals (Str.ofString "Headers") = some (some (.ref 309)) := by rw [hK]; kernel_rfl
theorem k_309 : keepIn C.K (.ref 309) = true := by rw [hK]; kernel_rfl
theorem m_setdefault : methAttr C.K 309 (Str.ofString "setdefault") 299 = true := by rw [hK]; kernel_rfl
theorem k_299 : keepIn C.K (.ref 299) = true := by rw [hK]; kernel_rfl
theorem m_keys : methAttr C.K 309 (Str.ofString "keys") 261 = true := by rw [hK]; kernel_rfl
theorem k_261 : keepIn C.K (.ref 261) = true := by rw [hK]; kernel_rfl
theorem m_items : methAttr C.K 309 (Str.ofString "items") 273 = true := by rw [hK]; kernel_rfl
theorem k_273 : keepIn C.K (.ref 273) = true := by rw [hK]; kernel_rfl
structure TextOk (t : Str) : Prop where
  c : noCtl t
  l : noCtl (Txt.lower t)
  z : t.length ≤ sizeLine
  zl : (Txt.lower t).length ≤ sizeLine
theorem law_unlike_ok {n : Nat} {L : Led} {Q : AV → Led → Prop} (hn : n ≤ 100) {ts : List Str} (hts : ∀ t ∈ ts, TextOk t) (hlen : ts.length ≤ 1000) (hQ : Q (.lst ((uniqL ts).map .str)) L) : CALLC C n (.obj 352) [.lst (ts.map .str)] [] L Q := by
  refine call_def (ρ := [(Str.ofString "texts", .lst (ts.map .str))]) (by rw [hK]; with_unfolding_all rfl) (by rw [hK]; kernel_rfl) (bind1 fun zz => by with_unfolding_all rfl) (by rfl) (by kernel_rfl) (by omega) ?_
  with_reducible refine ex_cons ?_
  with_reducible refine x_assign ?_ (by wtm_at "ir") (by wtm_at "ir") (by wtm_at "ir")
  with_reducible refine ev_CallN (fun h => ev_gref (by kernel_rfl) (by first | exact g_Headers (by assumption)) h (by decide)) (by exact keep_K (by first | exact k_309 (by assumption) | exact k_299 (by assumption) | exact k_261 (by assumption) | exact k_273 (by assumption))) (by wtm_at "simple") (by wtm_at "nz") ?_ (by wtm_at "ir") (by wtm_at "ir")
  with_reducible refine (headers_new0 hK (nle hn rfl) fun x d h => ?_).call
  wtm_at "q1"
  with_reducible refine ex_cut (fun ρ L' => ρ = [(Str.ofString "seen", .obj x)] ∧ L' = (h, .list (((uniqL ts).map fun t => (t, eS)).map pairT)) :: (x, .inst 309 d) :: (d, .dict [(Str.ofString "_headers", .obj h)]) :: L) ?_ ?_
  · with_reducible refine x_for ?_ (by wtm_at "ir")
    wtm_at "q0"
    with_reducible refine LOOP.inv (fun i ρ L' => ρ = [(Str.ofString "seen", .obj x)] ∧ L' = (h, .list (((uniqL (ts.take i)).map fun t => (t, eS)).map pairT)) :: (x, .inst 309 d) :: (d, .dict [(Str.ofString "_headers", .obj h)]) :: L) iter_lst ?_ ?_ ?_ ?_
    · exact ⟨_, _, by wtm_at "sub", List.Sublist.refl _, rfl, rfl⟩
    · intros; trivial
    · rintro i a ρ L' hx ⟨rfl, rfl⟩
      rw [List.getElem?_map] at hx
      obtain ⟨t, ht, rfl⟩ := Option.map_eq_some_iff.mp hx
      have htm : t ∈ ts := List.mem_of_getElem? ht
      have tok := hts t htm
      have hall : ∀ u ∈ uniqL (ts.take i), TextOk u := fun u hu => hts u (List.mem_of_mem_take (uniqL_mem _ u hu))
      have hcnt : (uniqL (ts.take i)).length ≤ 1000 := Nat.le_trans (uniqL_len _) (by rw [List.length_take]; omega)
      have e1 : uniqL (ts.take (i + 1)) = uAdd (uniqL (ts.take i)) t := by rw [List.take_add_one, ht]; exact uniqL_snoc _ _
      wtm_at "q1"
      with_reducible refine ex_last ?_
      with_reducible refine x_expr ?_ (by wtm_at "ir")
      with_reducible refine ev_MethN (fun h => ev_name (by wtm_at "look") h (by decide) (by decide)) (fun h => getm_inst (by wtm_at "mem") (by wtm_at "mem") (by first | exact m_setdefault (by assumption) | exact m_keys (by assumption) | exact m_items (by assumption)) (by with_unfolding_all rfl) h) (by exact keep_K (by first | exact k_309 (by assumption) | exact k_299 (by assumption) | exact k_261 (by assumption) | exact k_273 (by assumption))) (by wtm_at "simple") (by wtm_at "nz") (by wtm_at "nz") ?_ (by wtm_at "ir") (by with_unfolding_all rfl) (by wtm_at "ir") (by wtm_at "ir")
      refine (setdefault_ok (L' := (h, .list ((((uniqL (ts.take i)).map fun t => (t, eS)) ++ [(t, eS)]).map pairT)) :: (x, .inst 309 d) :: (d, .dict [(Str.ofString "_headers", .obj h)]) :: L) hK (nle hn rfl) (by wtm_at "mem") (by wtm_at "mem") (by wtm_at "mem") tok.l tok.zl tok.c tok.z (by decide) (by decide) ?_ ?_ LSet.here ?_).call
      · intro p hp
        obtain ⟨u, hu, rfl⟩ := List.mem_map.mp hp
        exact (hall u hu).zl
      · rw [List.length_map]; exact hcnt
      · cases hf : ((uniqL (ts.take i)).map fun t => (t, eS)).find? (fun p => Txt.lower p.1 == Txt.lower t) with
        | some p =>
          dsimp only
          refine ⟨_, _, by wtm_at "sub", List.Sublist.refl _, rfl, ?_⟩
          have : (uniqL (ts.take i)).any (fun a => Txt.lower a == Txt.lower t) = true := by
            cases hq : (uniqL (ts.take i)).any (fun a => Txt.lower a == Txt.lower t) with
            | true => rfl
            | false => rw [(find_pair _ _).mpr hq] at hf; cases hf
          rw [e1]; unfold uAdd; rw [if_pos this]
        | none =>
          dsimp only
          refine ⟨_, _, by wtm_at "sub", List.Sublist.refl _, rfl, ?_⟩
          have := (find_pair _ _).mp hf
          rw [e1]; unfold uAdd; rw [if_neg (by rw [this]; decide)]; simp only [List.map_append]; rfl
    · rintro ρ L' ⟨rfl, rfl⟩
      rw [List.length_map, List.take_length]
      with_reducible refine ex_nil ?_
      exact ⟨_, _, by wtm_at "sub", List.Sublist.refl _, rfl, rfl⟩
  · rintro ρ L' ⟨rfl, rfl⟩
    with_reducible refine ex_last ?_
    with_reducible refine x_return ?_
    with_reducible refine ev_MethN (fun h => ev_name (by wtm_at "look") h (by decide) (by decide)) (fun h => getm_inst (by wtm_at "mem") (by wtm_at "mem") (by first | exact m_setdefault (by assumption) | exact m_keys (by assumption) | exact m_items (by assumption)) (by with_unfolding_all rfl) h) (by exact keep_K (by first | exact k_309 (by assumption) | exact k_299 (by assumption) | exact k_261 (by assumption) | exact k_273 (by assumption))) (by wtm_at "simple") (by wtm_at "nz") (by wtm_at "nz") ?_ (by wtm_at "ir") (by with_unfolding_all rfl) (by wtm_at "ir") (by wtm_at "ir")
    refine (keys_ok hK (nle hn rfl) (ps := (uniqL ts).map fun t => (t, eS)) (by wtm_at "mem") (by wtm_at "mem") (by wtm_at "mem") ?_ ?_).call
    · rw [List.length_map]; exact Nat.le_trans (uniqL_len ts) hlen
    · refine ⟨L, by wtm_at "slb", ?_⟩
      rw [List.map_map]
      exact hQ
end
end
section
open PySem PySem.Spec PySem.Calls PySem.W PyProof.Rows
set_option maxRecDepth 100000
set_option maxHeartbeats 8000000
set_option linter.unusedVariables false
set_option pp.deepTerms false
set_option pp.deepTerms.threshold 8
section
variable {C : Cx} (hK : C.K = hd.heap_1 C.P)
include hK
theorem g_law_names : nsIn C.K mainGlobals (Str.ofString "_law_names") = some (some (.ref 325)) := by rw [hK]; kernel_rfl
theorem b_range : BLT C (Str.ofString "range") (.type "range") := ⟨(by rw [hK]; kernel_rfl), (by kernel_rfl), (fun zz e => nomatch e), (by decide)⟩
theorem k_fn325 : keepIn C.K (.ref 325) = true := by rw [hK]; kernel_rfl
theorem law_names_ok {n : Nat} {L : Led} {Q : AV → Led → Prop} (hn : n ≤ 180) (hQ : Q (.lst ((List.range 12).map fun i => .str (fname i))) L) : CALLC C n (.obj 325) [] [] L Q := by
  refine call_def (ρ := []) (by rw [hK]; with_unfolding_all rfl) (by rw [hK]; kernel_rfl) (bind0 (by with_unfolding_all rfl)) (by rfl) (by kernel_rfl) (by omega) ?_
  with_reducible refine ex_last ?_
  with_reducible refine x_return ?_
  with_reducible refine ev_List ?_
  wtm_at "q3"
  with_reducible refine ev_str ?_
  wtm_at "q3"
  with_reducible refine ev_str ?_
  wtm_at "q3"
  with_reducible refine ev_str ?_
  wtm_at "q3"
  with_reducible refine ev_str ?_
  wtm_at "q3"
  with_reducible refine ev_str ?_
  wtm_at "q3"
  with_reducible refine ev_str ?_
  wtm_at "q3"
  with_reducible refine ev_str ?_
  wtm_at "q3"
  with_reducible refine ev_str ?_
  wtm_at "q3"
  with_reducible refine ev_str ?_
  wtm_at "q3"
  with_reducible refine ev_str ?_
  wtm_at "q3"
  with_reducible refine ev_str ?_
  wtm_at "q3"
  with_reducible refine ev_str ?_
  with_reducible refine evl_nil ?_
  with_reducible refine opl_newListF (by simp; rw [sizeLine_eq]; omega) ?_
  exact ⟨L, List.Sublist.refl _, hQ⟩
theorem law_words_ok {n : Nat} {L : Led} {Q : AV → Led → Prop} (hn : n ≤ 170) {m : Nat} (hm : m < 4096) (hQ : Q (.lst ((fnames m 12).map .str)) L) : CALLC C n (.obj 330) [.int (m : Int)] [] L Q := by
  refine call_def (ρ := [(Str.ofString "number", .int m)]) (by rw [hK]; with_unfolding_all rfl) (by rw [hK]; kernel_rfl) (bind1 fun zz => by with_unfolding_all rfl) (by rfl) (by kernel_rfl) (by omega) ?_
  with_reducible refine ex_cons ?_
  with_reducible refine x_assign ?_ (by wtm_at "ir") (by wtm_at "ir") (by wtm_at "ir")
  with_reducible refine ev_CallN (fun h => ev_gref (by kernel_rfl) (by exact g_law_names (by assumption)) h (by decide)) (by exact keep_K (by first | exact k_fn325 (by assumption))) (by wtm_at "simple") (by wtm_at "nz") ?_ (by wtm_at "ir") (by wtm_at "ir")
  with_reducible refine (law_names_ok hK (nle hn rfl) ?_).call
  wtm_at "q1"
  with_reducible refine ex_last ?_
  with_reducible refine x_return ?_
  with_reducible refine ev_ListComp (ρ0 := [(Str.ofString "number", .int m), (Str.ofString "names", .lst ((List.range 12).map fun i => .str (fname i)))]) (by kernel_rfl) (by wtm_at "sub") ?_ (by wtm_at "ir")
  with_reducible refine ev_CallN (fun h => ev_blt (by kernel_rfl) (by first | exact b_range (by assumption)) h (by decide)) (by exact keep_cst (fun zz e => nomatch e)) (by wtm_at "simple") (by wtm_at "nz") ?_ (by wtm_at "ir") (by wtm_at "ir")
  with_reducible refine call_range ?_
  refine LOOPC.plain (nums 12) (bitName m) (fun P => iter_range (by decide) (by decide)) trivial (by rw [nums_length]; decide) ?_ ?_ ?_
  · intro x _; exact bitName_le m x
  · intro x P hx
    obtain ⟨i, hi, rfl⟩ : ∃ i : Nat, i < 12 ∧ x = .int i := by
      obtain ⟨i, e⟩ := List.getElem?_of_mem hx
      obtain ⟨q1, q2⟩ := nums_get e
      exact ⟨i, q1, q2⟩
    wtm_at "q1"
    refine And.intro (by wtm_at "sub") ?_
    refine (show ET _ _ _ _ _ _ from ?_)
    with_reducible refine et_val (by wtm_at "ir") ?_
    with_reducible refine ev_BinOp ?_
    with_reducible refine ev_BinOp ?_
    wtm_at "q0"
    wtm_at "q0"
    with_reducible refine op_shr_int (by omega) ?_
    with_reducible refine ev_int ?_
    with_reducible refine op_and_int ?_
    with_reducible refine tr_int ?_
    rw [shr_bit]
    by_cases hb : m.testBit i = true
    · rw [if_pos hb]
      intro P
      with_reducible refine ev_Sub ?_
      wtm_at "q0"
      wtm_at "q0"
      with_reducible refine item_seq (x := .str (fname i)) SeqV.lst (by omega) (by omega) (by simp [hi]) ?_
      exact ⟨by simp [bitName, hb], rfl⟩
    · rw [if_neg hb]
      exact ⟨by simp [bitName, hb], rfl⟩
  · intro D
    refine ⟨_, _, .froz rfl, L, List.Sublist.refl _, ?_⟩
    rw [fnames_flat]; exact hQ
end
end
section
open PySem PySem.Spec PySem.Calls PySem.W PyProof.Rows
set_option maxRecDepth 100000
set_option maxHeartbeats 8000000
set_option linter.unusedVariables false
set_option pp.deepTerms false
set_option pp.deepTerms.threshold 8
section
variable {C : Cx} (hK : C.K = hd.heap_1 C.P)
include hK
theorem b_len : BLT C (Str.ofString "len") (.builtin "len") := ⟨(by rw [hK]; kernel_rfl), (by kernel_rfl), (fun zz e => nomatch e), (by decide)⟩
theorem b_min : BLT C (Str.ofString "min") (.builtin "min") := ⟨(by rw [hK]; kernel_rfl), (by kernel_rfl), (fun zz e => nomatch e), (by decide)⟩
theorem law_numbers_ok {n : Nat} {L : Led} {Q : AV → Led → Prop} (hn : n ≤ 180) {sc : List Int} (hsc : sc.length ≤ 63) (hQ : ∀ ms : List Nat, ms.length = 8 → (∀ m ∈ ms, m < 4096) → Q (.lst (ms.map fun m => .int (m : Nat))) L) : CALLC C n (.obj 318) [.lst (sc.map .int)] [] L Q := by
  refine call_def (ρ := [(Str.ofString "script", .lst (sc.map .int))]) (by rw [hK]; with_unfolding_all rfl) (by rw [hK]; kernel_rfl) (bind1 fun zz => by with_unfolding_all rfl) (by rfl) (by kernel_rfl) (by omega) ?_
  with_reducible refine ex_cons ?_
  with_reducible refine x_assign ?_ (by wtm_at "ir") (by wtm_at "ir") (by wtm_at "ir")
  with_reducible refine ev_List ?_
  wtm_at "q3"
  with_reducible refine ev_int ?_
  wtm_at "q3"
  with_reducible refine ev_int ?_
  wtm_at "q3"
  with_reducible refine ev_int ?_
  wtm_at "q3"
  with_reducible refine ev_int ?_
  wtm_at "q3"
  with_reducible refine ev_int ?_
  wtm_at "q3"
  with_reducible refine ev_int ?_
  wtm_at "q3"
  with_reducible refine ev_int ?_
  wtm_at "q3"
  with_reducible refine ev_int ?_
  with_reducible refine evl_nil ?_
  with_reducible refine opl_newList ?_ fun a => ?_
  · decide
  wtm_at "q1"
  with_reducible refine ex_cut (fun ρ L' => ∃ l : List Int, l.length = 8 ∧ ρ = [(Str.ofString "numbers", .obj a)] ∧ L' = (a, .list (l.map .int)) :: L) ?_ ?_
  · with_reducible refine x_for ?_ (by wtm_at "ir")
    with_reducible refine ev_Call ?_ (by wtm_at "ir") (by wtm_at "ir") (by wtm_at "ir") (by wtm_at "ir")
    with_reducible refine ev_blt (by kernel_rfl) (by first | exact b_range (by assumption) | exact b_len (by assumption) | exact b_min (by assumption)) ?_ (by decide)
    refine And.intro (keep_cst (fun zz e => nomatch e)) ?_
    wtm_at "q3"
    with_reducible refine ev_Call ?_ (by wtm_at "ir") (by wtm_at "ir") (by wtm_at "ir") (by wtm_at "ir")
    with_reducible refine ev_blt (by kernel_rfl) (by first | exact b_range (by assumption) | exact b_len (by assumption) | exact b_min (by assumption)) ?_ (by decide)
    refine And.intro (keep_cst (fun zz e => nomatch e)) ?_
    wtm_at "q3"
    with_reducible refine ev_CallN (fun h => ev_blt (by kernel_rfl) (by first | exact b_range (by assumption) | exact b_len (by assumption) | exact b_min (by assumption)) h (by decide)) (by exact keep_cst (fun zz e => nomatch e)) (by wtm_at "simple") (by wtm_at "nz") ?_ (by wtm_at "ir") (by wtm_at "ir")
    with_reducible refine call_len (xs := sc.map .int) SeqV.lst (by rw [List.length_map, sizeLine_eq]; omega) ?_
    wtm_at "q3"
    with_reducible refine ev_int ?_
    with_reducible refine evl_nil ?_
    with_reducible refine evk_nil ?_
    wtm_at "cn"
    with_reducible refine call_min_int ?_
    with_reducible refine evl_nil ?_
    with_reducible refine evk_nil ?_
    wtm_at "cn"
    obtain ⟨N, hN, eN⟩ : ∃ N : Nat, N ≤ sc.length ∧ (if (60 : Int) < ((sc.map AV.int).length : Int) then (60 : Int) else ((sc.map AV.int).length : Int)) = N := by
      rw [List.length_map]
      by_cases h : (60 : Int) < sc.length
      · exact ⟨60, by omega, by rw [if_pos h]; rfl⟩
      · exact ⟨sc.length, Nat.le_refl _, by rw [if_neg h]⟩
    rw [eN]
    with_reducible refine call_range ?_
    with_reducible refine LOOP.inv (fun i ρ L' => ∃ l : List Int, l.length = 8 ∧ ρ = [(Str.ofString "script", .lst (sc.map .int)), (Str.ofString "numbers", .obj a)] ∧ L' = (a, .list (l.map .int)) :: L) (iter_range (by omega) (by omega)) ?_ ?_ ?_ ?_
    · exact ⟨_, _, by wtm_at "sub", List.Sublist.refl _, [3, 6, 12, 1025, 5, 10, 2, 8], rfl, rfl, rfl⟩
    · intros; trivial
    · rintro i x ρ L' hx ⟨l, hl, rfl, rfl⟩
      obtain ⟨hi, rfl⟩ := nums_get hx
      replace hi : i < N := by simpa using hi
      wtm_at "q1"
      with_reducible refine ex_last ?_
      have hidx : ((i : Int).fmod 8) = ((i % 8 : Nat) : Int) := by
        rw [Int.fmod_eq_emod_of_nonneg _ (by decide)]; omega
      have hb : i % 8 < 8 := Nat.mod_lt _ (by decide)
      with_reducible refine x_aug_sub ?_ (by intros; with_unfolding_all rfl)
      wtm_at "q0"
      with_reducible refine ev_BinOp ?_
      wtm_at "q0"
      with_reducible refine ev_int ?_
      with_reducible refine op_mod_int (by decide) ?_
      rw [hidx]
      with_reducible refine item_seq (xs := l.map .int) (x := .int (l[i % 8]'(by omega))) (SeqV.led (by wtm_at "mem")) (by omega) (by omega) (by rw [Int.toNat_natCast, List.getElem?_map, List.getElem?_eq_getElem (by omega), Option.map_some]) ?_
      with_reducible refine ev_Sub ?_
      wtm_at "q0"
      wtm_at "q0"
      with_reducible refine item_seq (xs := sc.map .int) (x := .int (sc[i]'(by omega))) SeqV.lst (by omega) (by omega) (by rw [Int.toNat_natCast, List.getElem?_map, List.getElem?_eq_getElem (by omega), Option.map_some]) ?_
      with_reducible refine op_iadd_int ?_
      with_reducible refine set_list (xs := l.map .int) (L' := (a, .list ((l.set (i % 8) (l[i % 8]'(by omega) + sc[i]'(by omega))).map .int)) :: L) (by wtm_at "mem") (by omega) (by omega) (by simp; omega) ?_ ?_
      · rw [List.map_set]; exact LSet.here
      · exact ⟨_, _, by wtm_at "sub", List.Sublist.refl _, _, by rw [List.length_set]; exact hl, rfl, rfl⟩
    · rintro ρ L' ⟨l, hl, rfl, rfl⟩
      with_reducible refine ex_nil ?_
      exact ⟨_, _, by wtm_at "sub", List.Sublist.refl _, l, hl, rfl, rfl⟩
  · rintro ρ L' ⟨l, hl, rfl, rfl⟩
    with_reducible refine ex_last ?_
    with_reducible refine x_return ?_
    with_reducible refine ev_ListComp (ρ0 := []) (by kernel_rfl) (by wtm_at "sub") ?_ (by wtm_at "ir")
    wtm_at "q0"
    refine LOOPC.plain (l.map .int) (fun x => match x with | .int i => [.int (i.fmod 4096)] | _ => []) (fun P => iter_led (by wtm_at "mem")) (by wtm_at "mem") (by rw [List.length_map, hl]; decide) ?_ ?_ ?_
    · intro x _; cases x <;> simp
    · intro x P hx
      obtain ⟨i, hi, rfl⟩ := List.mem_map.mp hx
      wtm_at "q1"
      refine And.intro (by wtm_at "sub") ?_
      refine tests_none fun P' => ?_
      with_reducible refine ev_BinOp ?_
      wtm_at "q0"
      with_reducible refine ev_int ?_
      with_reducible refine op_mod_int (by decide) ?_
      exact ⟨rfl, rfl⟩
    · intro D
      refine ⟨_, _, .froz rfl, L, by wtm_at "slb", ?_⟩
      have h8 := hQ (l.map fun i => (i.fmod 4096).toNat) (by rw [List.length_map]; exact hl) ?_
      · refine (congrArg (fun z => Q (.lst z) L) ?_).mp h8
        rw [List.map_map]
        clear hl h8
        induction l with
        | nil => rfl
        | cons i l ih =>
          rw [List.map_cons, List.map_cons, List.flatMap_cons, ← ih]
          have := Int.fmod_nonneg_of_pos i (b := 4096) (by decide)
          simp only [Function.comp_apply, List.cons_append, List.nil_append, Int.toNat_of_nonneg this]
      · intro m hm
        obtain ⟨i, _, rfl⟩ := List.mem_map.mp hm
        have h1 := Int.fmod_nonneg_of_pos i (b := 4096) (by decide)
        have h2 := Int.fmod_lt_of_pos i (b := 4096) (by decide)
        omega
theorem law_element_ok {n : Nat} {L : Led} {Q : AV → Led → Prop} (hn : n ≤ 170) {m : Nat} (hQ : Q (.str (elemS m)) L) : CALLC C n (.obj 335) [.int (m : Int)] [] L Q := by
  refine call_def (ρ := [(Str.ofString "number", .int m)]) (by rw [hK]; with_unfolding_all rfl) (by rw [hK]; kernel_rfl) (bind1 fun zz => by with_unfolding_all rfl) (by rfl) (by kernel_rfl) (by omega) ?_
  with_reducible refine ex_cons ?_
  with_reducible refine x_assign ?_ (by wtm_at "ir") (by wtm_at "ir") (by wtm_at "ir")
  with_reducible refine ev_CallN (fun h => ev_gref (by kernel_rfl) (by exact g_law_names (by assumption)) h (by decide)) (by exact keep_K (by first | exact k_fn325 (by assumption))) (by wtm_at "simple") (by wtm_at "nz") ?_ (by wtm_at "ir") (by wtm_at "ir")
  with_reducible refine (law_names_ok hK (nle hn rfl) ?_).call
  wtm_at "q1"
  with_reducible refine ex_cons ?_
  with_reducible refine x_assign ?_ (by wtm_at "ir") (by wtm_at "ir") (by wtm_at "ir")
  with_reducible refine ev_List ?_
  wtm_at "q3"
  with_reducible refine ev_int ?_
  wtm_at "q3"
  with_reducible refine ev_int ?_
  wtm_at "q3"
  with_reducible refine ev_int ?_
  wtm_at "q3"
  with_reducible refine ev_int ?_
  wtm_at "q3"
  with_reducible refine ev_int ?_
  wtm_at "q3"
  with_reducible refine ev_int ?_
  wtm_at "q3"
  with_reducible refine ev_int ?_
  wtm_at "q3"
  with_reducible refine ev_int ?_
  wtm_at "q3"
  with_reducible refine ev_int ?_
  wtm_at "q3"
  with_reducible refine ev_int ?_
  wtm_at "q3"
  with_reducible refine ev_int ?_
  wtm_at "q3"
  with_reducible refine ev_int ?_
  with_reducible refine evl_nil ?_
  with_reducible refine opl_newListF (by decide) ?_
  wtm_at "q1"
  with_reducible refine ex_last ?_
  with_reducible refine x_return ?_
  with_reducible refine ev_BinOp ?_
  with_reducible refine ev_BinOp ?_
  with_reducible refine ev_str ?_
  wtm_at "q2"
  with_reducible refine ev_str ?_
  refine GETM.norm (by wtm_at "nz") ?_
  with_reducible refine getm_str PySem.F.slot_str_join PySem.F.type_str_join ?_
  refine And.intro (keep_cst (fun zz e => nomatch e)) ?_
  wtm_at "q3"
  with_reducible refine ev_ListComp (ρ0 := [(Str.ofString "number", .int m), (Str.ofString "names", .lst ((List.range 12).map fun i => .str (fname i)))]) (by kernel_rfl) (by wtm_at "sub") ?_ (by wtm_at "ir")
  wtm_at "q0"
  refine LOOPC.plain (elemPlaces.map fun k => AV.int (k : Nat)) (bitAttr m) (fun P => iter_lst) trivial (by decide) ?_ ?_ ?_
  · intro x _; exact bitAttr_le m x
  · intro x P hx
    obtain ⟨i, hi', rfl⟩ := List.mem_map.mp hx
    have hi : i < 12 := by
      have : ∀ i ∈ elemPlaces, i < 12 := by decide
      exact this i hi'
    wtm_at "q1"
    refine And.intro (by wtm_at "sub") ?_
    refine tests_if ?_
    with_reducible refine et_val (by wtm_at "ir") ?_
    with_reducible refine ev_BinOp ?_
    with_reducible refine ev_BinOp ?_
    wtm_at "q0"
    wtm_at "q0"
    with_reducible refine op_shr_int (by omega) ?_
    with_reducible refine ev_int ?_
    with_reducible refine op_and_int ?_
    with_reducible refine tr_int ?_
    rw [shr_bit]
    by_cases hb : m.testBit i = true
    · rw [if_pos hb]
      intro P
      with_reducible refine ev_BinOp ?_
      with_reducible refine ev_BinOp ?_
      with_reducible refine ev_str ?_
      with_reducible refine ev_Sub ?_
      wtm_at "q0"
      wtm_at "q0"
      with_reducible refine item_seq (x := .str (fname i)) SeqV.lst (by omega) (by omega) (by simp [hi]) ?_
      have hl := fname_length i
      have h1 : (Str.ofString " ").length = 1 := by decide
      have h2 : (Str.ofString "=\"\"").length = 3 := by decide
      with_reducible refine op_add_str (by rw [sizeLine_eq]; omega) ?_
      with_reducible refine ev_str ?_
      with_reducible refine op_add_str (by rw [str_len_append, sizeLine_eq]; omega) ?_
      exact ⟨by simp [bitAttr, hb, attrS], rfl⟩
    · rw [if_neg hb]
      exact ⟨by simp [bitAttr, hb], rfl⟩
  · intro D
    refine ⟨_, _, .led, ?_⟩
    rw [elemAttrs_flat]
    have hs := elemAttrs_sum m
    have hl := elemAttrs_length m
    have hj := join_length (Str.ofString "") (elemAttrs m)
    have h3 : (Str.ofString "").length = 0 := by decide
    have h4 : (Str.ofString "<s").length = 2 := by decide
    have h5 : (Str.ofString "></s>").length = 5 := by decide
    with_reducible refine evl_nil ?_
    with_reducible refine evk_nil ?_
    wtm_at "cn"
    with_reducible refine call_join (by wtm_at "mem") (joinOk_of (by rw [h3]; omega)) ?_
    rw [h3] at hj
    with_reducible refine op_add_str (by rw [sizeLine_eq]; omega) ?_
    with_reducible refine ev_str ?_
    with_reducible refine op_add_str (by rw [str_len_append, sizeLine_eq]; omega) ?_
    exact ⟨L, by wtm_at "slb", hQ⟩
end
end
section
open PySem PySem.Spec PySem.Calls PySem.W PyProof.Rows
set_option maxRecDepth 100000
set_option maxHeartbeats 8000000
set_option linter.unusedVariables false
set_option pp.deepTerms false
set_option pp.deepTerms.threshold 8
noncomputable def jS (j : Nat) : Str := Str.ofString (toString (j : Int))
noncomputable def rowOf (j : Nat) (ws : List Str) : List (Str × Str) := ws.map fun w => (Txt.lower w, jS j)
noncomputable def rowsOf (lasts : List (List Str)) : List (Str × Str) := (List.range 4).flatMap fun j => rowOf j (lasts.getD j [])
noncomputable def dels (ps : List (Str × Str)) (ws : List Str) : List (Str × Str) := ws.foldl (fun ps w => ps.filter fun p => Txt.lower p.1 != Txt.lower w) ps
theorem dels_sub : ∀ (ws : List Str) (ps : List (Str × Str)), ∀ p ∈ dels ps ws, p ∈ ps
  | [], _, p, h => h
  | w :: r, ps, p, h => by
    have := dels_sub r (ps.filter fun p => Txt.lower p.1 != Txt.lower w) p h
    exact (List.mem_filter.mp this).1
theorem dels_len : ∀ (ws : List Str) (ps : List (Str × Str)), (dels ps ws).length ≤ ps.length
  | [], _ => Nat.le_refl _
  | w :: r, ps => Nat.le_trans (dels_len r (ps.filter fun p => Txt.lower p.1 != Txt.lower w)) (List.length_filter_le _ _)
theorem dels_snoc (ws : List Str) (w : Str) (ps : List (Str × Str)) : dels ps (ws ++ [w]) = (dels ps ws).filter fun p => Txt.lower p.1 != Txt.lower w := by unfold dels; rw [List.foldl_append]; rfl
noncomputable abbrev strsL (ws : List Str) : AV := .lst (ws.map .str)
section
variable {C : Cx} (hK : C.K = hd.heap_1 C.P)
include hK
theorem noseq_309 : noSeq C.K 309 = true := by rw [hK]; kernel_rfl
theorem del_309 : findIn C.K (.ref 309) "__delitem__" = some (some (.ref 227)) := by rw [hK]; kernel_rfl
theorem isfn_227 : isFn C.K (.ref 227) = true := by rw [hK]; kernel_rfl
structure WordOk (w : Str) : Prop where
  c : noCtl w
  l : noCtl (Txt.lower w)
  z : w.length ≤ 100
  zl : (Txt.lower w).length ≤ 100
  zll : (Txt.lower (Txt.lower w)).length ≤ 100
omit hK in
theorem jS_ok : ∀ j, j < 4 → noCtl (jS j) ∧ (jS j).length ≤ 10 := by decide +kernel
theorem law_left_ok {n : Nat} {L : Led} {Q : AV → Led → Prop} (hn : n ≤ 100) {fs ls : List (List Str)} (hfs : ∀ ws ∈ fs, ∀ w ∈ ws, WordOk w) (hls : ∀ ws ∈ ls, ∀ w ∈ ws, WordOk w) (hl4 : ls.length = 4) (hz : ∀ ws ∈ ls, ws.length ≤ 12) (hf4 : fs.length ≤ 4)
    (hQ : ∀ T, Q (.obj T) ((T, .list (fs.map fun ws => .lst ((dels (rowsOf ls) ws).map pairT))) :: L)) : CALLC C n (.obj 345) [.lst (fs.map strsL), .lst (ls.map strsL)] [] L Q := by
  refine call_def (ρ := [(Str.ofString "firsts", .lst (fs.map strsL)), (Str.ofString "lasts", .lst (ls.map strsL))]) (by rw [hK]; with_unfolding_all rfl) (by rw [hK]; kernel_rfl) (bind2 fun zz zz => by with_unfolding_all rfl) (by rfl) (by kernel_rfl) (by omega) ?_
  have hrowOk : ∀ p ∈ rowsOf ls, noCtl p.1 ∧ noCtl p.2 ∧ p.1.length ≤ 100 ∧ p.2.length ≤ 100 ∧ (Txt.lower p.1).length ≤ 100 := by
    intro p hp
    unfold rowsOf at hp
    obtain ⟨j, hj, hp⟩ := List.mem_flatMap.mp hp
    have hj4 : j < 4 := List.mem_range.mp hj
    unfold rowOf at hp
    obtain ⟨w, hw, rfl⟩ := List.mem_map.mp hp
    rw [List.getD_eq_getElem?_getD, List.getElem?_eq_getElem (by omega)] at hw
    have wok := hls _ (List.getElem_mem _) w hw
    have j1 := jS_ok j hj4
    exact ⟨wok.l, j1.1, wok.zl, Nat.le_trans j1.2 (by decide), wok.zll⟩
  have hrl : (rowsOf ls).length ≤ 48 := by
    have h1 : ∀ j, j < 4 → (rowOf j (ls.getD j [])).length ≤ 12 := by
      intro j hj
      unfold rowOf
      rw [List.length_map, List.getD_eq_getElem?_getD, List.getElem?_eq_getElem (by omega)]
      exact hz _ (List.getElem_mem _)
    have a0 := h1 0 (by decide)
    have a1 := h1 1 (by decide)
    have a2 := h1 2 (by decide)
    have a3 := h1 3 (by decide)
    have e : rowsOf ls = rowOf 0 (ls.getD 0 []) ++ (rowOf 1 (ls.getD 1 []) ++ (rowOf 2 (ls.getD 2 []) ++ (rowOf 3 (ls.getD 3 []) ++ []))) := rfl
    rw [e]
    simp only [List.length_append, List.length_nil]
    omega
  with_reducible refine ex_cons ?_
  with_reducible refine x_assign ?_ (by wtm_at "ir") (by wtm_at "ir") (by wtm_at "ir")
  with_reducible refine ev_List ?_
  with_reducible refine evl_nil ?_
  with_reducible refine opl_newList (by decide) fun T => ?_
  wtm_at "q1"
  with_reducible refine ex_cut (fun ρ L' => ρ = [(Str.ofString "tables", .obj T)] ∧ L' = (T, .list (fs.map fun ws => .lst ((dels (rowsOf ls) ws).map pairT))) :: L) ?_ ?_
  · with_reducible refine x_for ?_ (by wtm_at "ir")
    wtm_at "q0"
    with_reducible refine LOOP.inv (fun i ρ L' => ρ = [(Str.ofString "lasts", .lst (ls.map strsL)), (Str.ofString "tables", .obj T)] ∧ L' = (T, .list ((fs.take i).map fun ws => .lst ((dels (rowsOf ls) ws).map pairT))) :: L) iter_lst ?_ ?_ ?_ ?_
    · exact ⟨_, _, by wtm_at "sub", List.Sublist.refl _, rfl, rfl⟩
    · intros; trivial
    · rintro i a ρ L' hx ⟨rfl, rfl⟩
      rw [List.getElem?_map] at hx
      obtain ⟨ws, hws, rfl⟩ := Option.map_eq_some_iff.mp hx
      have hwm : ws ∈ fs := List.mem_of_getElem? hws
      have hi : i < fs.length := (List.getElem?_eq_some_iff.mp hws).1
      wtm_at "q1"
      with_reducible refine ex_cons ?_
      with_reducible refine x_assign ?_ (by wtm_at "ir") (by wtm_at "ir") (by wtm_at "ir")
      with_reducible refine ev_Call ?_ (by wtm_at "ir") (by wtm_at "ir") (by wtm_at "ir") (by wtm_at "ir")
      with_reducible refine ev_gref (by kernel_rfl) (by first | exact g_Headers (by assumption)) ?_ (by decide)
      refine And.intro (keep_K (by first | exact k_309 (by assumption) | exact k_299 (by assumption) | exact k_261 (by assumption) | exact k_273 (by assumption))) ?_
      wtm_at "q3"
      with_reducible refine ev_ListComp2 (ρ0 := [(Str.ofString "lasts", .lst (ls.map strsL))]) (by kernel_rfl) (by wtm_at "sub") ?_ (by wtm_at "ir")
      with_reducible refine ev_CallN (fun h => ev_blt (by kernel_rfl) (by first | exact b_str (by assumption) | exact b_range (by assumption)) h (by decide)) (by exact keep_cst (fun zz e => nomatch e)) (by wtm_at "simple") (by wtm_at "nz") ?_ (by wtm_at "ir") (by wtm_at "ir")
      with_reducible refine call_range ?_
      have hrows : ((nums 4).flatMap fun x => match x with | .int j => (rowOf j.toNat (ls.getD j.toNat [])).map pairT | _ => []) = (rowsOf ls).map pairT := by
        unfold rowsOf nums
        rw [List.flatMap_map, List.map_flatMap]
        rfl
      refine LOOPC.nest (nums 4) (fun x => match x with | .int j => (rowOf j.toNat (ls.getD j.toNat [])).map pairT | _ => []) (fun P => iter_range (by decide) (by decide)) trivial (by wtm_at "ir") ?_ ?_ ?_
      · rw [hrows, List.length_map]; omega
      · intro x P hx
        obtain ⟨j, hj, rfl⟩ : ∃ j : Nat, j < 4 ∧ x = .int j := by
          obtain ⟨i, e⟩ := List.getElem?_of_mem hx
          obtain ⟨q1, q2⟩ := nums_get e
          exact ⟨i, q1, q2⟩
        wtm_at "q1"
        refine And.intro (by wtm_at "sub") ?_
        intro ys P' hys
        with_reducible refine ev_Sub ?_
        wtm_at "q0"
        wtm_at "q0"
        with_reducible refine item_seq (x := strsL (ls.getD j [])) SeqV.lst (by omega) (by omega) ?_ ?_
        · rw [Int.toNat_natCast, List.getElem?_map, List.getElem?_eq_getElem (by omega), Option.map_some, List.getD_eq_getElem?_getD, List.getElem?_eq_getElem (by omega)]; rfl
        have hws4 : ∀ w ∈ ls.getD j [], WordOk w := by
          intro w hw
          rw [List.getD_eq_getElem?_getD, List.getElem?_eq_getElem (by omega)] at hw
          exact hls _ (List.getElem_mem _) w hw
        refine LOOPC.plainFrom ys ((ls.getD j []).map .str) (fun x => match x with | .str w => [pairT (Txt.lower w, jS j)] | _ => []) (fun P => iter_lst) trivial ?_ ?_ ?_
        · rw [List.flatMap_map]
          have : ∀ l : List Str, (l.flatMap fun w => [pairT (Txt.lower w, jS j)]).length = l.length := by
            intro l; induction l with
            | nil => rfl
            | cons a r ih => rw [List.flatMap_cons, List.length_append, ih]; simp; omega
          have h2 : (rowOf j (ls.getD j [])).length = (ls.getD j []).length := List.length_map ..
          have hys' : ys.length + ((rowOf j (ls.getD j [])).map pairT).length ≤ 100000 := hys
          rw [List.length_map, h2] at hys'
          refine Nat.le_trans (Nat.add_le_add_left (Nat.le_of_eq (this (ls.getD j []))) _) (by omega)
        · intro x P2 hx
          obtain ⟨w, hw, rfl⟩ := List.mem_map.mp hx
          have wok := hws4 w hw
          wtm_at "q1"
          refine And.intro (by wtm_at "sub") ?_
          refine tests_none fun P3 => ?_
          with_reducible refine ev_Tuple ?_
          wtm_at "q3"
          with_reducible refine ev_MethN (fun h => ev_name (by wtm_at "look") h (by decide) (by decide)) (fun h => getm_str PySem.F.slot_str_lower PySem.F.type_str_lower h) (by exact keep_cst (fun zz e => nomatch e)) (by wtm_at "simple") (by wtm_at "nz") (by wtm_at "nz") ?_ (by wtm_at "ir") (by with_unfolding_all rfl) (by wtm_at "ir") (by wtm_at "ir")
          with_reducible refine call_lower (by have := wok.zl; rw [sizeLine_eq]; omega) ?_
          wtm_at "q3"
          with_reducible refine ev_CallN (fun h => ev_blt (by kernel_rfl) (by first | exact b_str (by assumption) | exact b_range (by assumption)) h (by decide)) (by exact keep_cst (fun zz e => nomatch e)) (by wtm_at "simple") (by wtm_at "nz") ?_ (by wtm_at "ir") (by wtm_at "ir")
          with_reducible refine call_str_int (by have : ∀ j, j < 4 → ((j : Nat) : Int).natAbs.log2 < 1920 := (by decide +kernel); exact this j hj) ?_
          with_reducible refine evl_nil ?_
          with_reducible refine opl_newTuple (by rw [sizeLine_eq]; exact Nat.le_of_ble_eq_true rfl) ?_
          exact ⟨rfl, rfl⟩
        · refine ⟨?_, rfl⟩
          rw [List.flatMap_map]
          show AO.list (ys ++ (ls.getD j []).flatMap fun w => [pairT (Txt.lower w, jS j)]) = .list (ys ++ (rowOf j (ls.getD j [])).map pairT)
          congr 2
          unfold rowOf
          generalize ls.getD j [] = l
          induction l with
          | nil => rfl
          | cons a r ih => rw [List.flatMap_cons, ih]; rfl
      · intro D
        rw [hrows]
        refine ⟨_, _, .led, ?_⟩
        with_reducible refine evl_nil ?_
        with_reducible refine evk_nil ?_
        wtm_at "cn"
        refine (headers_new hK (nle hn rfl) (ps := rowsOf ls) (by wtm_at "mem") (by omega) (fun p hp => ?_) fun x d => ?_).call
        · have r := hrowOk p hp
          exact ⟨r.1, r.2.1, by have := r.2.2.1; rw [sizeLine_eq]; omega, by have := r.2.2.2.1; rw [sizeLine_eq]; omega⟩
        wtm_at "q1"
        with_reducible refine ex_cut (fun ρ L' => ρ = [(Str.ofString "lasts", .lst (ls.map strsL)), (Str.ofString "tables", .obj T), (Str.ofString "table", .obj x)] ∧
          L' = (x, .inst 309 d) :: (d, .dict [(Str.ofString "_headers", .obj D)]) :: (D, .list ((dels (rowsOf ls) ws).map pairT)) :: (T, .list ((fs.take i).map fun ws => .lst ((dels (rowsOf ls) ws).map pairT))) :: L) ?_ ?_
        · with_reducible refine x_for ?_ (by wtm_at "ir")
          wtm_at "q0"
          with_reducible refine LOOP.inv (fun k ρ L' => ρ = [(Str.ofString "lasts", .lst (ls.map strsL)), (Str.ofString "tables", .obj T), (Str.ofString "table", .obj x)] ∧
            L' = (x, .inst 309 d) :: (d, .dict [(Str.ofString "_headers", .obj D)]) :: (D, .list ((dels (rowsOf ls) (ws.take k)).map pairT)) :: (T, .list ((fs.take i).map fun ws => .lst ((dels (rowsOf ls) ws).map pairT))) :: L) iter_lst ?_ ?_ ?_ ?_
          · exact ⟨_, _, by wtm_at "sub", List.Sublist.refl _, rfl, rfl⟩
          · intros; trivial
          · rintro k a ρ L' hx ⟨rfl, rfl⟩
            rw [List.getElem?_map] at hx
            obtain ⟨wd, hwd, rfl⟩ := Option.map_eq_some_iff.mp hx
            have wok := hfs ws hwm wd (List.mem_of_getElem? hwd)
            have e1 : dels (rowsOf ls) (ws.take (k + 1)) = (dels (rowsOf ls) (ws.take k)).filter fun p => Txt.lower p.1 != Txt.lower wd := by rw [List.take_add_one, hwd]; exact dels_snoc _ _ _
            wtm_at "q1"
            with_reducible refine ex_last ?_
            with_reducible refine x_del_own ?_
            wtm_at "q0"
            wtm_at "q0"
            refine ⟨x, d, 309, 227, _, rfl, by wtm_at "mem", by wtm_at "mem", noseq_309 hK, del_309 hK, isfn_227 hK, ?_⟩
            refine (delitem_ok hK (Nat.le_trans (Nat.add_le_add_right hn 1) (by decide)) (x := x) (d := d) (h := D) (ps := dels (rowsOf ls) (ws.take k)) (nm := wd) (L' := (x, .inst 309 d) :: (d, .dict [(Str.ofString "_headers", .obj D)]) :: (D, .list (((dels (rowsOf ls) (ws.take k)).filter fun p => Txt.lower p.1 != Txt.lower wd).map pairT)) :: (T, .list ((fs.take i).map fun ws => .lst ((dels (rowsOf ls) ws).map pairT))) :: L) (by wtm_at "mem") (by wtm_at "mem") (by wtm_at "mem") wok.l (by have := wok.zl; rw [sizeLine_eq]; omega) (fun p hp => ?_) ?_ (LSet.there (LSet.there LSet.here)) ?_).call
            · have r := (hrowOk p (dels_sub _ _ p hp)).2.2.2.2
              rw [sizeLine_eq]; omega
            · have := dels_len (ws.take k) (rowsOf ls); omega
            · refine ⟨_, _, by wtm_at "sub", List.Sublist.refl _, rfl, ?_⟩
              rw [e1]
          · rintro ρ L' ⟨rfl, rfl⟩
            rw [List.length_map, List.take_length]
            with_reducible refine ex_nil ?_
            exact ⟨_, _, by wtm_at "sub", List.Sublist.refl _, rfl, rfl⟩
        · rintro ρ L' ⟨rfl, rfl⟩
          with_reducible refine ex_last ?_
          with_reducible refine x_expr ?_ (by wtm_at "ir")
          wtm_at "q2"
          wtm_at "q0"
          refine GETM.norm (by wtm_at "nz") ?_
          with_reducible refine getm_list (by wtm_at "mem") PySem.F.slot_list_append PySem.F.type_list_append ?_
          refine And.intro (keep_cst (fun zz e => nomatch e)) ?_
          wtm_at "q3"
          with_reducible refine ev_MethN (fun h => ev_name (by wtm_at "look") h (by decide) (by decide)) (fun h => getm_inst (by wtm_at "mem") (by wtm_at "mem") (by first | exact m_setdefault (by assumption) | exact m_keys (by assumption) | exact m_items (by assumption)) (by with_unfolding_all rfl) h) (by exact keep_K (by first | exact k_309 (by assumption) | exact k_299 (by assumption) | exact k_261 (by assumption) | exact k_273 (by assumption))) (by wtm_at "simple") (by wtm_at "nz") (by wtm_at "nz") ?_ (by wtm_at "ir") (by with_unfolding_all rfl) (by wtm_at "ir") (by wtm_at "ir")
          refine (items_ok hK (nle hn rfl) (ps := dels (rowsOf ls) ws) (by wtm_at "mem") (by wtm_at "mem") (by wtm_at "mem") ?_ ?_).call
          · have := dels_len ws (rowsOf ls); omega
          with_reducible refine evl_nil ?_
          with_reducible refine evk_nil ?_
          wtm_at "cn"
          have e2 : (fs.take (i + 1)).map (fun ws => AV.lst ((dels (rowsOf ls) ws).map pairT)) = (fs.take i).map (fun ws => AV.lst ((dels (rowsOf ls) ws).map pairT)) ++ [.lst ((dels (rowsOf ls) ws).map pairT)] := by rw [List.take_add_one, hws, List.map_append]; rfl
          refine call_append (L' := (x, .inst 309 d) :: (d, .dict [(Str.ofString "_headers", .obj D)]) :: (D, .list ((dels (rowsOf ls) ws).map pairT)) :: (T, .list ((fs.take i).map (fun ws => AV.lst ((dels (rowsOf ls) ws).map pairT)) ++ [.lst ((dels (rowsOf ls) ws).map pairT)])) :: L) (by wtm_at "mem") (LSet.there (LSet.there (LSet.there LSet.here))) ?_ ?_
          · rw [List.length_map, List.length_take, sizeLine_eq]; omega
          · refine ⟨_, _, by wtm_at "sub", ?_, rfl, rfl⟩
            rw [e2]
            wtm_at "slb"
    · rintro ρ L' ⟨rfl, rfl⟩
      rw [List.length_map, List.take_length]
      with_reducible refine ex_nil ?_
      exact ⟨_, _, by wtm_at "sub", List.Sublist.refl _, rfl, rfl⟩
  · rintro ρ L' ⟨rfl, rfl⟩
    with_reducible refine ex_last ?_
    with_reducible refine x_return ?_
    wtm_at "q0"
    exact ⟨_, List.Sublist.refl _, hQ T⟩
end
end
section
open PySem PySem.Spec PySem.Calls PySem.W PyProof.Rows
set_option maxRecDepth 100000
set_option maxHeartbeats 8000000
set_option linter.unusedVariables false
set_option pp.deepTerms false
set_option pp.deepTerms.threshold 8
section
variable {C : Cx} (hK : C.K = hd.heap_1 C.P)
include hK
theorem escape_ok {n : Nat} {L : Led} {Q : AV → Led → Prop} (hn : n ≤ 180) (hQ : Q (.str eS) L) : CALLC C n (.obj 168) [.str eS] [] L Q := by
  refine call_def (ρ := [(Str.ofString "text", .str eS)]) (by rw [hK]; with_unfolding_all rfl) (by rw [hK]; kernel_rfl) (bind1 fun zz => by with_unfolding_all rfl) (by rfl) (by kernel_rfl) (by omega) ?_
  with_reducible refine ex_last ?_
  with_reducible refine x_try ?_
  with_reducible refine ex_cons ?_
  with_reducible refine x_if ?_
  with_reducible refine et_Cmp ?_ (by with_unfolding_all rfl)
  with_reducible refine ev_str ?_
  wtm_at "q0"
  with_reducible refine in_strV ?_
  with_reducible refine tr_bool ?_
  rw [if_neg (by decide +kernel)]
  with_reducible refine ex_nil ?_
  with_reducible refine ex_cons ?_
  with_reducible refine x_if ?_
  with_reducible refine et_Cmp ?_ (by with_unfolding_all rfl)
  with_reducible refine ev_str ?_
  wtm_at "q0"
  with_reducible refine in_strV ?_
  with_reducible refine tr_bool ?_
  rw [if_neg (by decide +kernel)]
  with_reducible refine ex_nil ?_
  with_reducible refine ex_cons ?_
  with_reducible refine x_if ?_
  with_reducible refine et_Cmp ?_ (by with_unfolding_all rfl)
  with_reducible refine ev_str ?_
  wtm_at "q0"
  with_reducible refine in_strV ?_
  with_reducible refine tr_bool ?_
  rw [if_neg (by decide +kernel)]
  with_reducible refine ex_nil ?_
  with_reducible refine ex_cons ?_
  with_reducible refine x_if ?_
  with_reducible refine et_Cmp ?_ (by with_unfolding_all rfl)
  with_reducible refine ev_str ?_
  wtm_at "q0"
  with_reducible refine in_strV ?_
  with_reducible refine tr_bool ?_
  rw [if_neg (by decide +kernel)]
  with_reducible refine ex_nil ?_
  with_reducible refine ex_cons ?_
  with_reducible refine x_if ?_
  with_reducible refine et_Cmp ?_ (by with_unfolding_all rfl)
  with_reducible refine ev_str ?_
  wtm_at "q0"
  with_reducible refine in_strV ?_
  with_reducible refine tr_bool ?_
  rw [if_neg (by decide +kernel)]
  with_reducible refine ex_nil ?_
  with_reducible refine ex_cons ?_
  with_reducible refine x_if ?_
  with_reducible refine et_Cmp ?_ (by with_unfolding_all rfl)
  with_reducible refine ev_str ?_
  wtm_at "q0"
  with_reducible refine in_strV ?_
  with_reducible refine tr_bool ?_
  rw [if_neg (by decide +kernel)]
  with_reducible refine ex_nil ?_
  with_reducible refine ex_last ?_
  with_reducible refine x_return ?_
  wtm_at "q0"
  exact ⟨L, by wtm_at "slb", hQ⟩
end
end
section
open PySem PySem.Spec PySem.Calls PySem.W PyProof.Rows
set_option maxRecDepth 100000
set_option maxHeartbeats 8000000
set_option linter.unusedVariables false
set_option pp.deepTerms false
set_option pp.deepTerms.threshold 8
noncomputable abbrev asD (es : List Str) : List (Str × AV) := es.map fun w => (w, AV.str eS)
noncomputable abbrev t3 (w : Str) : AV := .tup [.str w, .str w, .str (Str.ofString "")]
noncomputable def wAt (w : Str) : Str := ((((Str.empty ++ Str.ofString " ") ++ w) ++ Str.ofString "=\"") ++ eS) ++ Str.ofString "\""
noncomputable def startTxt (tag : Str) (ys : List Str) : List Str := (Str.ofString "<" ++ tag) :: ((if ys = [] then [] else [Txt.join (Str.ofString "") (ys.map wAt)]) ++ [Str.ofString ">"])
theorem wAt_len (w : Str) : (wAt w).length = w.length + 4 := by
  unfold wAt
  simp only [str_len_append]
  have h1 : (Str.ofString " ").length = 1 := by decide
  have h2 : (Str.ofString "=\"").length = 2 := by decide
  have h3 : (Str.ofString "\"").length = 1 := by decide
  have h4 : eS.length = 0 := by decide
  have h5 : Str.empty.length = 0 := by decide
  omega
theorem wAts_sum (ys : List Str) (hz : ys.length ≤ 14) (ho : ∀ w ∈ ys, w.length ≤ 100) : ((ys.map wAt).map (·.length)).sum ≤ 1456 := by
  have h1 : ((ys.map wAt).map (·.length)).sum ≤ 104 * (ys.map wAt).length := sum_le_of _ 104 _ fun x hx => by
    obtain ⟨w, hw, rfl⟩ := List.mem_map.mp hx
    rw [wAt_len]
    have := ho w hw
    omega
  rw [List.length_map] at h1
  omega
noncomputable def wAtF : AV → List AV
  | .tup [.str w, _] => [.str (wAt w)]
  | _ => []
theorem wAtF_flat : ∀ l : List Str, (l.map fun w => AV.tup [.str w, .str eS]).flatMap wAtF = (l.map wAt).map .str
  | [] => rfl
  | a :: r => by rw [List.map_cons, List.flatMap_cons, wAtF_flat r]; rfl
structure NmOk (w : Str) : Prop where
  cut : noCut (Str.ofString "}") w = true
  br : Txt.slice w none (some 1) ≠ Str.ofString "{"
  len : w.length ≤ 100
noncomputable def ExIn (ws : List Str) (ex : AV) (R : Led) : Prop := (ws = [] ∧ ex = .none) ∨ ∃ E, ws ≠ [] ∧ ex = .obj E ∧ (E, .sset (ddK ws)) ∈ R
noncomputable abbrev leftOf (ws es : List Str) : List Str := es.filter fun w => !decide (w ∈ ddK ws)
theorem leftOf_nil (es : List Str) : leftOf [] es = es := by
  unfold leftOf
  rw [List.filter_eq_self]
  intro a _
  simp [ddK]
section
variable {C : Cx} (hK : C.K = hd.heap_1 C.P)
include hK
theorem m_qname : methAttr C.K 150 (Str.ofString "_qname") 90 = true := by rw [hK]; kernel_rfl
theorem k_90 : keepIn C.K (.ref 90) = true := by rw [hK]; kernel_rfl
theorem b_sorted12 : BLT C (Str.ofString "sorted") (.builtin "sorted") := ⟨(by rw [hK]; kernel_rfl), (by kernel_rfl), (fun zz e => nomatch e), (by decide)⟩
theorem g_esc12 : nsIn C.K mainGlobals (Str.ofString "_escape_attrib_c14n") = some (some (.ref 168)) := by rw [hK]; kernel_rfl
set_option tactic.hygienic true in
theorem start_ok {n : Nat} {R : Led} {Q : AV → Led → Prop} (hn : n ≤ 120) {dd P x d data stk nss pm ps D0 B : Addr} {ex : AV} {seen done : Bool} {ws es txt : List Str} {tag : Str} (hLam : LamOk C 125 123) (hex : ExIn ws ex R) (hes : ∀ w ∈ es, NmOk w) (htag : NmOk tag) (hte : tag ∉ es)
    (hnd : es.Nodup) (hz : es.length ≤ 14) (hwz : ws.length ≤ 1000) (htz : txt.length ≤ 1000)
    (hQ : ∀ ys : List Str, ys.Perm (leftOf ws es) → ys.Pairwise sLt → Q .none ((P, .list ((txt ++ startTxt tag ys).map .str)) :: (d, .dict (wAttrs P data stk nss pm ps ex true done)) :: (x, .inst 150 d) :: (stk, .list [.obj D0, .lst []]) :: (nss, .list [.obj B, .lst [], .lst []]) :: (ps, .list [.bool false, .bool false]) :: (D0, .list [xmlT]) :: (data, .list []) :: (pm, .dict []) :: R)) :
    CALLC C n (.obj 126) [.obj x, .str tag, .obj dd, .lst []] [] ((dd, .dict (asD es)) :: (P, .list (txt.map .str)) :: (d, .dict (wAttrs P data stk nss pm ps ex seen done)) :: (x, .inst 150 d) :: (stk, .list [.obj D0, .lst []]) :: (nss, .list [.obj B, .lst []]) :: (ps, .list [.bool false]) :: (D0, .list [xmlT]) :: (data, .list []) :: (pm, .dict []) :: R) Q := by
  refine call_def (ρ := [(Str.ofString "self", .obj x), (Str.ofString "tag", .str tag), (Str.ofString "attrs", .obj dd), (Str.ofString "new_namespaces", .lst []), (Str.ofString "qname_text", .none)]) (by rw [hK]; with_unfolding_all rfl) (by rw [hK]; kernel_rfl) (bind4d (fun zz => .none) fun zz zz zz zz zz => by rw [hK]; with_unfolding_all rfl) (by rfl) (by kernel_rfl) (by omega) ?_
  with_reducible refine ex_cut (fun ρ L' => ∃ dd2, ρ = [(Str.ofString "self", .obj x), (Str.ofString "tag", .str tag), (Str.ofString "attrs", .obj dd2), (Str.ofString "new_namespaces", .lst []), (Str.ofString "qname_text", .none)] ∧
    L' = (dd2, .dict (asD (leftOf ws es))) :: (P, .list (txt.map .str)) :: (d, .dict (wAttrs P data stk nss pm ps ex seen done)) :: (x, .inst 150 d) :: (stk, .list [.obj D0, .lst []]) :: (nss, .list [.obj B, .lst []]) :: (ps, .list [.bool false]) :: (D0, .list [xmlT]) :: (data, .list []) :: (pm, .dict []) :: R) ?_ ?_
  · rcases hex with ⟨rfl, rfl⟩ | ⟨E, hwne, rfl, hE⟩
    · with_reducible refine x_if ?_
      with_reducible refine et_And ?_
      with_reducible refine et_Cmp ?_ (by with_unfolding_all rfl)
      with_reducible refine ev_Attr ?_ (by wtm_at "ir")
      wtm_at "q0"
      with_reducible refine geta_own (by wtm_at "mem") (by wtm_at "mem") (by exact own150 (by assumption) (by kernel_rfl)) (by wtm_at "look") rfl ?_
      with_reducible refine ev_none ?_
      with_reducible refine cmp_none_isnot_none ?_
      with_reducible refine tr_bool ?_
      rw [if_neg (by decide)]
      rw [if_neg (by decide)]
      with_reducible refine ex_nil ?_
      exact ⟨_, _, by wtm_at "sub", List.Sublist.refl _, dd, rfl, by rw [leftOf_nil]⟩
    · with_reducible refine x_if ?_
      with_reducible refine et_And ?_
      with_reducible refine et_Cmp ?_ (by with_unfolding_all rfl)
      with_reducible refine ev_Attr ?_ (by wtm_at "ir")
      wtm_at "q0"
      with_reducible refine geta_own (by wtm_at "mem") (by wtm_at "mem") (by exact own150 (by assumption) (by kernel_rfl)) (by wtm_at "look") rfl ?_
      with_reducible refine ev_none ?_
      with_reducible refine cmp_isnot_none (fun e => nomatch e) (fun zz e => nomatch e) ?_
      with_reducible refine tr_bool ?_
      rw [if_pos (by decide)]
      with_reducible refine et_val (by wtm_at "ir") ?_
      wtm_at "q0"
      with_reducible refine tr_dict hLam.sys (by wtm_at "mem") (by rw [List.length_map, sizeLine_eq]; omega) ?_
      refine ite_of (fun _ => ?_) (fun _ => ?_)
      · with_reducible refine ex_last ?_
        with_reducible refine x_assign_DictComp (ρ0 := [(Str.ofString "self", .obj x)]) (by kernel_rfl) (by kernel_rfl) (by wtm_at "sub") ?_ (by wtm_at "ir")
        wtm_at "q2"
        wtm_at "q0"
        refine GETM.norm (by wtm_at "nz") ?_
        (first | with_reducible refine getm_dict (by wtm_at "mem") PySem.F.slot_dict_items PySem.F.type_dict_items ?_ | with_reducible refine getm_dict (by wtm_at "mem") PySem.F.slot_dict_get PySem.F.type_dict_get ?_)
        refine And.intro (keep_cst (fun zz e => nomatch e)) ?_
        with_reducible refine evl_nil ?_
        with_reducible refine evk_nil ?_
        refine CALL.norm (by wtm_at "nz") (by wtm_at "nz") (by wtm_at "nz") ?_
        refine CALL.raw0 (fun v hv => ?_) (fun o hr => ?_)
        · obtain ⟨e, he, rfl⟩ := List.mem_map.mp hv
          obtain ⟨w, _, rfl⟩ := List.mem_map.mp he
          exact ⟨_, rfl⟩
        refine call_items_raw hLam.sys List.mem_cons_self hr ?_
        refine LOOPC.inv ((asD es).map fun e : Str × AV => AV.tup [.str e.1, e.2]) (fun i ao L' => ao = .dict (asD (leftOf ws (es.take i))) ∧ L' = (dd, .raw o) :: (P, .list (txt.map .str)) :: (d, .dict (wAttrs P data stk nss pm ps (.obj E) seen done)) :: (x, .inst 150 d) :: (stk, .list [.obj D0, .lst []]) :: (nss, .list [.obj B, .lst []]) :: (ps, .list [.bool false]) :: (D0, .list [xmlT]) :: (data, .list []) :: (pm, .dict []) :: R) (fun PP => iter_items List.mem_cons_self hr.pn (fun v hv => ?_)) ⟨rfl, rfl⟩ (fun i ao L' h => ?_) (fun i a ao L' P' hx h => ?_) (fun ao L' h => ?_)
        · obtain ⟨e, he, rfl⟩ := List.mem_map.mp hv
          obtain ⟨w, _, rfl⟩ := List.mem_map.mp he
          exact ⟨_, rfl⟩
        · obtain ⟨_, rfl⟩ := h
          exact List.mem_cons_self
        · obtain ⟨rfl, rfl⟩ := h
          rw [List.map_map, List.getElem?_map] at hx
          obtain ⟨w, hw, rfl⟩ := Option.map_eq_some_iff.mp hx
          show ASG _ _ _ _ _ (.tup [.str w, .str eS]) _
          with_reducible refine asg_pair ?_ (by wtm_at "ir")
          wtm_at "q1"
          wtm_at "q1"
          refine And.intro (by wtm_at "sub") ?_
          refine tests_if ?_
          with_reducible refine et_Cmp ?_ (by with_unfolding_all rfl)
          wtm_at "q0"
          with_reducible refine ev_Attr ?_ (by wtm_at "ir")
          wtm_at "q0"
          with_reducible refine geta_own (by wtm_at "mem") (by wtm_at "mem") (by exact own150 (by assumption) (by kernel_rfl)) (by wtm_at "look") rfl ?_
          with_reducible refine notin_sset (by wtm_at "mem") (by have := ddK_len ws; omega) ?_
          with_reducible refine tr_bool ?_
          have htk : es.take (i + 1) = es.take i ++ [w] := by rw [List.take_add_one, hw]; rfl
          split
          · rename_i hk
            refine emit_dict (le_line (by rw [List.length_map]; exact Nat.le_trans (List.length_filter_le _ _) (Nat.le_trans (List.length_take_le' _ _) (by omega)))) fun PP => ?_
            wtm_at "q0"
            wtm_at "q0"
            refine ⟨w, rfl, ?_, rfl⟩
            have hnw : w ∉ (asD (leftOf ws (es.take i))).map (fun zz => zz.1) := fun hm => by
              obtain ⟨e, he, e1⟩ := List.mem_map.mp hm
              obtain ⟨w', hw', rfl⟩ := List.mem_map.mp he
              dsimp only at e1
              subst e1
              have hm2 := (List.mem_filter.mp hw').1
              obtain ⟨j, hj, e2⟩ := List.mem_iff_getElem.mp hm2
              have hj' : j < i := by rw [List.length_take] at hj; omega
              have hi := (List.getElem?_eq_some_iff.mp hw).1
              have e3 := (List.getElem?_eq_some_iff.mp hw).2
              rw [List.getElem_take] at e2
              exact absurd (e2.trans e3.symm) (List.pairwise_iff_getElem.mp hnd j i (by omega) hi hj')
            rw [putE_new hnw, htk]
            unfold leftOf asD
            rw [List.filter_append, List.map_append]
            simp only [List.filter_cons, hk, if_true, List.filter_nil]
            rfl
          · rename_i hk
            refine ⟨?_, rfl⟩
            rw [htk]
            unfold leftOf asD
            rw [List.filter_append]
            simp only [List.filter_cons, hk, List.filter_nil]
            simp
        · obtain ⟨rfl, rfl⟩ := h
          rw [List.length_map, List.length_map, List.take_length]
          intro D
          refine ⟨_, _, .led, ?_⟩
          wtm_at "q1"
          exact ⟨_, _, by wtm_at "sub", .cons_cons _ (.cons _ (List.Sublist.refl _)), D, rfl, rfl⟩
      · rename_i hne
        have hes0 : es = [] := by
          have : es.length = 0 := by simpa using hne
          exact List.length_eq_zero_iff.mp this
        subst hes0
        with_reducible refine ex_nil ?_
        exact ⟨_, _, by wtm_at "sub", List.Sublist.refl _, dd, rfl, rfl⟩
  rintro ρ L' ⟨dd2, rfl, rfl⟩
  have hfn : (leftOf ws es).Nodup := hnd.filter _
  have hfz : (leftOf ws es).length ≤ 14 := Nat.le_trans (List.length_filter_le _ _) hz
  have hfo : ∀ w ∈ leftOf ws es, NmOk w := fun w hw => hes w (List.mem_filter.mp hw).1
  have hft : tag ∉ leftOf ws es := fun hm => hte (List.mem_filter.mp hm).1
  generalize leftOf ws es = fs at hQ hfn hfz hfo hft ⊢
  with_reducible refine ex_cons ?_
  with_reducible refine x_assign ?_ (by wtm_at "ir") (by wtm_at "ir") (by wtm_at "ir")
  with_reducible refine ev_SetStar (t0 := tag) (d := dd2) (es := asD fs) hLam.sys (by rw [hK]; kernel_rfl) (by wtm_at "ir") (fun S o => ?_) (fun S o => ?_) (by wtm_at "mem") ?_ ?_ (fun S o l hl hS => ?_)
  · wtm_at "q0"
    exact ⟨rfl, rfl⟩
  · wtm_at "q0"
    exact ⟨rfl, rfl⟩
  · rw [List.map_map]
    intro hm
    obtain ⟨w, hw, e⟩ := List.mem_map.mp hm
    have e' : w = tag := e
    exact hft (by rw [← e']; exact hw)
  · rw [List.length_map]; exact hfz
  have hl : l.map (fun zz => zz.1) = tag :: fs := by rw [hl, List.map_map]; congr 1; exact List.map_id _
  wtm_at "q1"
  with_reducible refine ex_cons ?_
  with_reducible refine x_assign ?_ (by wtm_at "ir") (by wtm_at "ir") (by wtm_at "ir")
  with_reducible refine ev_Dict0 fun rn => ?_
  wtm_at "q1"
  with_reducible refine ex_cons ?_
  with_reducible refine x_if ?_
  with_reducible refine et_Cmp ?_ (by with_unfolding_all rfl)
  wtm_at "q0"
  with_reducible refine ev_none ?_
  with_reducible refine cmp_none_isnot_none ?_
  with_reducible refine tr_bool ?_
  rw [if_neg (by decide)]
  with_reducible refine ex_nil ?_
  with_reducible refine ex_cons ?_
  with_reducible refine x_if ?_
  with_reducible refine et_And ?_
  with_reducible refine et_Cmp ?_ (by with_unfolding_all rfl)
  with_reducible refine ev_Attr ?_ (by wtm_at "ir")
  wtm_at "q0"
  with_reducible refine geta_own (by wtm_at "mem") (by wtm_at "mem") (by exact own150 (by assumption) (by kernel_rfl)) (by wtm_at "look") rfl ?_
  with_reducible refine ev_none ?_
  with_reducible refine cmp_none_isnot_none ?_
  with_reducible refine tr_bool ?_
  rw [if_neg (by decide)]
  rw [if_neg (by decide)]
  with_reducible refine ex_last ?_
  with_reducible refine x_assign ?_ (by wtm_at "ir") (by wtm_at "ir") (by wtm_at "ir")
  with_reducible refine ev_none ?_
  wtm_at "q1"
  with_reducible refine ex_cons ?_
  with_reducible refine x_assign ?_ (by wtm_at "ir") (by wtm_at "ir") (by wtm_at "ir")
  with_reducible refine ev_Attr ?_ (by wtm_at "ir")
  wtm_at "q0"
  with_reducible refine geta_meth (by wtm_at "mem") (by wtm_at "mem") (m_qname hK) (by rw [hK]; kernel_rfl) (by rw [hK]; kernel_rfl) (by kernel_rfl) (by kernel_rfl) ?_
  wtm_at "q1"
  with_reducible refine ex_cons ?_
  with_reducible refine x_assign_DictComp (ρ0 := [(Str.ofString "parse_qname", .meth 90 (.obj x))]) (by kernel_rfl) (by kernel_rfl) (by wtm_at "sub") ?_ (by wtm_at "ir")
  with_reducible refine ev_Call ?_ (by wtm_at "ir") (by wtm_at "ir") (by wtm_at "ir") (by wtm_at "ir")
  with_reducible refine ev_blt (by kernel_rfl) (by first | exact b_sorted12 (by assumption)) ?_ (by decide)
  refine And.intro (keep_cst (fun zz e => nomatch e)) ?_
  wtm_at "q3"
  wtm_at "q0"
  with_reducible refine evl_nil ?_
  with_reducible refine evk_cons ?_
  refine ev_Lambda hLam rfl (by wtm_at "ir") (by wtm_at "ir") fun f q pm' c' ct => ?_
  with_reducible refine evk_nil ?_
  wtm_at "cn"
  have hnt : (tag :: fs).Nodup := List.nodup_cons.mpr ⟨hft, hfn⟩
  have hno : ∀ w ∈ tag :: fs, NmOk w := fun w hw => by
    rcases List.mem_cons.mp hw with rfl | hw
    · exact htag
    · exact hfo w hw
  refine call_sorted_key hS (fun e => by subst e; cases hl) hl hnt (by simp only [List.length_cons]; omega) (show n + 1 ≤ 180 from nle hn rfl) (by wtm_at "mem") ⟨f, rfl⟩ (fun w hw Lw hLw => ?_) fun zs hzs => ?_
  · refine call_lam (ρ := [(Str.ofString "n", .str w)]) (hLw _ List.mem_cons_self) (bind1 fun zz => by with_unfolding_all rfl) (by rfl) (by kernel_rfl) (show n + 1 + 1 ≤ 190 by omega) ?_ rfl rfl rfl
    with_reducible refine ev_MethN (fun h => ev_name (by wtm_at "look") h (by decide) (by decide)) (fun h => getm_str PySem.F.slot_str_split PySem.F.type_str_split h) (by exact keep_cst (fun zz e => nomatch e)) (by wtm_at "simple") (by wtm_at "nz") (by wtm_at "nz") ?_ (by wtm_at "ir") (by with_unfolding_all rfl) (by wtm_at "ir") (by wtm_at "ir")
    exact call_split_not (hno w hw).cut ⟨rfl, rfl⟩
  have hzn : zs.Nodup := hzs.nodup_iff.mpr hnt
  have hzz : zs.length ≤ 15 := by rw [hzs.length_eq, List.length_cons]; omega
  refine LOOPC.inv (zs.map .str) (fun i ao L' => ao = .dict ((zs.take i).map fun w => (w, t3 w)) ∧ L' = _) (fun PP => iter_lst) ⟨rfl, rfl⟩ (fun i ao L' h => trivial) (fun i a ao L' P' hx h => ?_) (fun ao L' h => ?_)
  · obtain ⟨rfl, rfl⟩ := h
    rw [List.getElem?_map] at hx
    obtain ⟨w, hw, rfl⟩ := Option.map_eq_some_iff.mp hx
    have hwo := hno w (hzs.mem_iff.mp (List.mem_of_getElem? hw))
    have htk : zs.take (i + 1) = zs.take i ++ [w] := by rw [List.take_add_one, hw]; rfl
    wtm_at "q1"
    refine And.intro (by wtm_at "sub") ?_
    refine tests_none ?_
    refine emit_dict (le_line (by rw [List.length_map]; exact Nat.le_trans (List.length_take_le' _ _) (by omega))) fun PP => ?_
    wtm_at "q0"
    with_reducible refine ev_Call ?_ (by wtm_at "ir") (by wtm_at "ir") (by wtm_at "ir") (by wtm_at "ir")
    wtm_at "q0"
    refine And.intro (keep_methK (by show fnIn C.K _ = true; rw [hK]; kernel_rfl)) ?_
    wtm_at "q3"
    wtm_at "q0"
    with_reducible refine evl_nil ?_
    with_reducible refine evk_nil ?_
    wtm_at "cn"
    refine (callc_meth (qname_ok (C := C.pn PP) hK (show n + 1 ≤ 150 from nle hn rfl) (q := 1) (by wtm_at "mem") (by wtm_at "mem") (by wtm_at "mem") (by wtm_at "mem") hwo.br (by have := hwo.len; omega) ?_)).call
    refine ⟨w, rfl, ?_, rfl⟩
    rw [putE_new (not_in_take hzn hw _), htk, List.map_append]
    rfl
  · obtain ⟨rfl, rfl⟩ := h
    rw [List.length_map, List.take_length]
    intro D
    refine ⟨_, _, .led, ?_⟩
    wtm_at "q1"
    -- the rest
    with_reducible refine ex_cons ?_
    with_reducible refine x_if ?_
    with_reducible refine et_val (by wtm_at "ir") ?_
    wtm_at "q0"
    with_reducible refine tr_seq SeqV.lst (by decide) ?_
    rw [if_neg (by decide)]
    with_reducible refine ex_last ?_
    with_reducible refine x_assign ?_ (by wtm_at "ir") (by wtm_at "ir") (by wtm_at "ir")
    with_reducible refine ev_List ?_
    with_reducible refine evl_nil ?_
    with_reducible refine opl_newList (by decide) fun al => ?_
    wtm_at "q1"
    with_reducible refine ex_cut (fun ρ L' => ∃ ys : List Str, ys.Perm fs ∧ ys.Pairwise sLt ∧ ρ = [(Str.ofString "self", .obj x), (Str.ofString "tag", .str tag), (Str.ofString "attrs", .obj dd2), (Str.ofString "qname_text", .none), (Str.ofString "parsed_qnames", .obj D), (Str.ofString "attr_list", .obj al)] ∧
      L' = (al, .list (ys.map fun w => AV.tup [.str w, .str eS])) :: (D, .dict (zs.map fun w => (w, t3 w))) :: (dd2, .dict (asD fs)) :: (P, .list (txt.map .str)) :: (d, .dict (wAttrs P data stk nss pm ps ex seen done)) :: (x, .inst 150 d) :: (stk, .list [.obj D0, .lst []]) :: (nss, .list [.obj B, .lst []]) :: (ps, .list [.bool false]) :: (D0, .list [xmlT]) :: (data, .list []) :: (pm, .dict []) :: R) ?_ ?_
    · with_reducible refine x_if ?_
      with_reducible refine et_val (by wtm_at "ir") ?_
      wtm_at "q0"
      with_reducible refine tr_dict hLam.sys (by wtm_at "mem") (by rw [List.length_map, sizeLine_eq]; omega) ?_
      refine ite_of (fun _ => ?_) (fun _ => ?_)
      · with_reducible refine ex_last ?_
        with_reducible refine x_for ?_ (by wtm_at "ir")
        with_reducible refine ev_Call ?_ (by wtm_at "ir") (by wtm_at "ir") (by wtm_at "ir") (by wtm_at "ir")
        with_reducible refine ev_blt (by kernel_rfl) (by first | exact b_sorted12 (by assumption)) ?_ (by decide)
        refine And.intro (keep_cst (fun zz e => nomatch e)) ?_
        wtm_at "q3"
        wtm_at "q2"
        wtm_at "q0"
        refine GETM.norm (by wtm_at "nz") ?_
        (first | with_reducible refine getm_dict (by wtm_at "mem") PySem.F.slot_dict_items PySem.F.type_dict_items ?_ | with_reducible refine getm_dict (by wtm_at "mem") PySem.F.slot_dict_get PySem.F.type_dict_get ?_)
        refine And.intro (keep_cst (fun zz e => nomatch e)) ?_
        first | with_reducible refine args0 (by wtm_at "simple") (by wtm_at "nz") ?_ | with_reducible refine argsM (by wtm_at "simple") (by wtm_at "nz") (by wtm_at "nz") ?_
        with_reducible refine call_items hLam.sys (by wtm_at "mem") ?_
        with_reducible refine evl_nil ?_
        with_reducible refine evk_nil ?_
        wtm_at "cn"
        refine call_sorted_items (d := dd2) (es := fs.map fun w => (w, eS)) (by rw [List.map_map]; wtm_at "mem") (by rw [List.length_map]; omega) fun ys' hp' hs' => ?_
        obtain ⟨ys, rfl, hyp⟩ : ∃ ys : List Str, ys' = ys.map (fun w => (w, eS)) ∧ ys.Perm fs := by
          refine ⟨ys'.map (fun zz => zz.1), ?_, ?_⟩
          · rw [List.map_map]
            symm
            have : ∀ e ∈ ys', ((fun w => (w, eS)) ∘ fun x : Str × Str => x.1) e = e := fun e he => by
              obtain ⟨w, _, rfl⟩ := List.mem_map.mp (hp'.mem_iff.mp he)
              rfl
            rw [List.map_congr_left this, List.map_id']
          · have := hp'.map (fun zz => zz.1)
            rw [List.map_map] at this
            refine this.trans (List.Perm.of_eq ?_)
            exact List.map_id _
        have hys : ys.Pairwise sLt := (List.pairwise_map (f := fun w : Str => (w, eS)) (R := fun a b : Str × Str => sLt a.1 b.1)).mp hs'
        have hyz : ys.length ≤ 14 := by rw [hyp.length_eq]; exact hfz
        have hyo : ∀ w ∈ ys, w ∈ zs := fun w hw => hzs.mem_iff.mpr (List.mem_cons_of_mem _ (hyp.mem_iff.mp hw))
        rw [List.map_map]
        with_reducible refine LOOP.inv (fun i ρ L' => ρ = [(Str.ofString "self", .obj x), (Str.ofString "tag", .str tag), (Str.ofString "attrs", .obj dd2), (Str.ofString "qname_text", .none), (Str.ofString "qattrs", .none), (Str.ofString "parsed_qnames", .obj D), (Str.ofString "attr_list", .obj al)] ∧
          L' = (al, .list ((ys.take i).map fun w => AV.tup [.str w, .str eS])) :: (D, .dict (zs.map fun w => (w, t3 w))) :: (dd2, .dict (asD fs)) :: (P, .list (txt.map .str)) :: (d, .dict (wAttrs P data stk nss pm ps ex seen done)) :: (x, .inst 150 d) :: (stk, .list [.obj D0, .lst []]) :: (nss, .list [.obj B, .lst []]) :: (ps, .list [.bool false]) :: (D0, .list [xmlT]) :: (data, .list []) :: (pm, .dict []) :: R) iter_lst ?_ ?_ ?_ ?_
        · exact ⟨_, _, by wtm_at "sub", .cons_cons _ (.cons_cons _ (.cons _ (.cons _ (.cons _ (List.Sublist.refl _))))), rfl, rfl⟩
        · intros; trivial
        · rintro i a ρ L' hx ⟨rfl, rfl⟩
          rw [List.getElem?_map] at hx
          obtain ⟨w, hw, rfl⟩ := Option.map_eq_some_iff.mp hx
          have hwm := List.mem_of_getElem? hw
          have htk : ys.take (i + 1) = ys.take i ++ [w] := by rw [List.take_add_one, hw]; rfl
          show ASG _ _ _ _ _ (.tup [.str w, .str eS]) _
          with_reducible refine asg_pair ?_ (by wtm_at "ir")
          wtm_at "q1"
          wtm_at "q1"
          with_reducible refine ex_cons ?_
          with_reducible refine x_if ?_
          refine et_And_no ?_
          with_reducible refine et_Cmp ?_ (by with_unfolding_all rfl)
          wtm_at "q0"
          with_reducible refine ev_none ?_
          with_reducible refine cmp_none_isnot_none ?_
          with_reducible refine tr_bool ?_
          refine ⟨rfl, ?_⟩
          rw [if_neg (by decide)]
          with_reducible refine ex_nil ?_
          with_reducible refine ex_cons ?_
          with_reducible refine x_assign ?_ (by wtm_at "ir") (by wtm_at "ir") (by wtm_at "ir")
          with_reducible refine ev_Sub ?_
          wtm_at "q0"
          wtm_at "q0"
          with_reducible refine item_dict (by wtm_at "mem") (lookup_map_mem (hyo w hwm)) ?_
          with_reducible refine asg_triple ?_ (by wtm_at "ir")
          wtm_at "q1"
          wtm_at "q1"
          wtm_at "q1"
          with_reducible refine ex_last ?_
          with_reducible refine x_expr ?_ (by wtm_at "ir")
          wtm_at "q2"
          wtm_at "q0"
          refine GETM.norm (by wtm_at "nz") ?_
          with_reducible refine getm_list (by wtm_at "mem") PySem.F.slot_list_append PySem.F.type_list_append ?_
          refine And.intro (keep_cst (fun zz e => nomatch e)) ?_
          wtm_at "q3"
          with_reducible refine ev_Tuple ?_
          wtm_at "q3"
          with_reducible refine ev_IfExp ?_
          with_reducible refine et_val (by wtm_at "ir") ?_
          wtm_at "q0"
          with_reducible refine tr_str (by decide) ?_
          rw [if_neg (by decide)]
          wtm_at "q0"
          wtm_at "q3"
          wtm_at "q0"
          with_reducible refine evl_nil ?_
          with_reducible refine opl_newTuple (le_line (Nat.le_of_ble_eq_true rfl)) ?_
          with_reducible refine evl_nil ?_
          with_reducible refine evk_nil ?_
          wtm_at "cn"
          with_reducible refine call_append (by wtm_at "mem") (by wtm_at "lset") (le_line (by rw [List.length_map]; exact Nat.le_trans (List.length_take_le' _ _) (by omega))) ?_
          exact ⟨_, _, by wtm_at "sub", List.Sublist.refl _, rfl, by rw [htk, List.map_append]; rfl⟩
        · rintro ρ L' ⟨rfl, rfl⟩
          rw [List.length_map, List.take_length]
          with_reducible refine ex_nil ?_
          exact ⟨_, _, by wtm_at "sub", List.Sublist.refl _, ys, hyp, hys, rfl, rfl⟩
      · rename_i hne
        have hfs0 : fs = [] := by
          have : fs.length = 0 := by simpa using hne
          exact List.length_eq_zero_iff.mp this
        subst hfs0
        with_reducible refine ex_nil ?_
        exact ⟨_, _, by wtm_at "sub", .cons_cons _ (.cons_cons _ (.cons _ (.cons _ (.cons _ (List.Sublist.refl _))))), [], List.Perm.refl _, List.Pairwise.nil, rfl, rfl⟩
    rintro ρ L' ⟨ys, hyp, hys, rfl, rfl⟩
    have hyz : ys.length ≤ 14 := by rw [hyp.length_eq]; exact hfz
    have hyl : ∀ w ∈ ys, w.length ≤ 100 := fun w hw => (hfo w (hyp.mem_iff.mp hw)).len
    -- space
    have hsp : Str.ofString "{http://www.w3.org/XML/1998/namespace}space" ∉ fs := fun hm => (hfo _ hm).br (by kernel_rfl)
    with_reducible refine ex_cons ?_
    with_reducible refine x_assign ?_ (by wtm_at "ir") (by wtm_at "ir") (by wtm_at "ir")
    wtm_at "q2"
    wtm_at "q0"
    refine GETM.norm (by wtm_at "nz") ?_
    (first | with_reducible refine getm_dict (by wtm_at "mem") PySem.F.slot_dict_items PySem.F.type_dict_items ?_ | with_reducible refine getm_dict (by wtm_at "mem") PySem.F.slot_dict_get PySem.F.type_dict_get ?_)
    refine And.intro (keep_cst (fun zz e => nomatch e)) ?_
    first | with_reducible refine args0 (by wtm_at "simple") (by wtm_at "nz") ?_ | with_reducible refine argsM (by wtm_at "simple") (by wtm_at "nz") (by wtm_at "nz") ?_
    with_reducible refine call_dget_none hLam.sys (by wtm_at "mem") (lookup_map_none hsp) ?_
    wtm_at "q1"
    with_reducible refine ex_cons ?_
    with_reducible refine x_expr ?_ (by wtm_at "ir")
    wtm_at "q2"
    with_reducible refine ev_Attr ?_ (by wtm_at "ir")
    wtm_at "q0"
    with_reducible refine geta_own (by wtm_at "mem") (by wtm_at "mem") (by exact own150 (by assumption) (by kernel_rfl)) (by wtm_at "look") rfl ?_
    refine GETM.norm (by wtm_at "nz") ?_
    with_reducible refine getm_list (by wtm_at "mem") PySem.F.slot_list_append PySem.F.type_list_append ?_
    refine And.intro (keep_cst (fun zz e => nomatch e)) ?_
    wtm_at "q3"
    with_reducible refine ev_IfExp ?_
    with_reducible refine et_val (by wtm_at "ir") ?_
    wtm_at "q0"
    with_reducible refine tr_none ?_
    rw [if_neg (by decide)]
    with_reducible refine ev_Sub ?_
    with_reducible refine ev_Attr ?_ (by wtm_at "ir")
    wtm_at "q0"
    with_reducible refine geta_own (by wtm_at "mem") (by wtm_at "mem") (by exact own150 (by assumption) (by kernel_rfl)) (by wtm_at "look") rfl ?_
    with_reducible refine ev_UnaryOp ?_
    with_reducible refine ev_int ?_
    with_reducible refine op_neg_int ?_
    with_reducible refine item_seq_neg (x := .bool false) (SeqV.led (by wtm_at "mem")) (by decide) (by decide) (by decide) rfl ?_
    with_reducible refine evl_nil ?_
    with_reducible refine evk_nil ?_
    wtm_at "cn"
    with_reducible refine call_append (by wtm_at "mem") (by wtm_at "lset") (le_line (Nat.le_of_ble_eq_true rfl)) ?_
    with_reducible refine ex_cons ?_
    with_reducible refine x_assign ?_ (by wtm_at "ir") (by wtm_at "ir") (by wtm_at "ir")
    with_reducible refine ev_Attr ?_ (by wtm_at "ir")
    wtm_at "q0"
    with_reducible refine geta_own (by wtm_at "mem") (by wtm_at "mem") (by exact own150 (by assumption) (by kernel_rfl)) (by wtm_at "look") rfl ?_
    wtm_at "q1"
    with_reducible refine ex_cons ?_
    with_reducible refine x_expr ?_ (by wtm_at "ir")
    with_reducible refine ev_Call ?_ (by wtm_at "ir") (by wtm_at "ir") (by wtm_at "ir") (by wtm_at "ir")
    wtm_at "q0"
    refine And.intro keep_bm ?_
    wtm_at "q3"
    with_reducible refine ev_BinOp ?_
    with_reducible refine ev_str ?_
    with_reducible refine ev_Sub ?_
    with_reducible refine ev_Sub ?_
    wtm_at "q0"
    wtm_at "q0"
    with_reducible refine item_dict (by wtm_at "mem") (lookup_map_mem (hzs.mem_iff.mpr List.mem_cons_self)) ?_
    with_reducible refine ev_int ?_
    with_reducible refine item_tup (x := .str tag) (by decide) (by decide) rfl ?_
    have h0 : (Str.ofString "<").length = 1 := by decide
    with_reducible refine op_add_str (by have := htag.len; rw [sizeLine_eq]; omega) ?_
    with_reducible refine evl_nil ?_
    with_reducible refine evk_nil ?_
    wtm_at "cn"
    with_reducible refine call_bm_append (by wtm_at "mem") (by wtm_at "lset") (le_line (by rw [List.length_map]; omega)) ?_
    have hjn : JoinOk (Str.ofString "") (ys.map wAt) = true := joinOk_of_weight (by have := wAts_sum ys hyz hyl; rw [List.length_map]; omega) (by decide)
    with_reducible refine ex_cut (fun ρ L' => ρ = [(Str.ofString "self", .obj x), (Str.ofString "qname_text", .none), (Str.ofString "write", .bm "list.append" (.obj P))] ∧
      L' = (P, .list ((txt ++ (Str.ofString "<" ++ tag) :: (if ys = [] then [] else [Txt.join (Str.ofString "") (ys.map wAt)])).map .str)) :: (d, .dict (wAttrs P data stk nss pm ps ex seen done)) :: (x, .inst 150 d) :: (stk, .list [.obj D0, .lst []]) :: (nss, .list [.obj B, .lst []]) :: (ps, .list [.bool false, .bool false]) :: (D0, .list [xmlT]) :: (data, .list []) :: (pm, .dict []) :: R) ?_ ?_
    · with_reducible refine x_if ?_
      with_reducible refine et_val (by wtm_at "ir") ?_
      wtm_at "q0"
      with_reducible refine tr_seq (SeqV.led (by wtm_at "mem")) (le_line (by rw [List.length_map]; omega)) ?_
      refine ite_of (fun _ => ?_) (fun _ => ?_)
      · rename_i hne
        have hne : ys ≠ [] := fun e => by subst e; simp at hne
        with_reducible refine ex_last ?_
        with_reducible refine x_expr ?_ (by wtm_at "ir")
        with_reducible refine ev_Call ?_ (by wtm_at "ir") (by wtm_at "ir") (by wtm_at "ir") (by wtm_at "ir")
        wtm_at "q0"
        refine And.intro keep_bm ?_
        wtm_at "q3"
        wtm_at "q2"
        with_reducible refine ev_str ?_
        refine GETM.norm (by wtm_at "nz") ?_
        with_reducible refine getm_str PySem.F.slot_str_join PySem.F.type_str_join ?_
        refine And.intro (keep_cst (fun zz e => nomatch e)) ?_
        wtm_at "q3"
        with_reducible refine ev_ListComp (ρ0 := []) (by kernel_rfl) (by wtm_at "sub") ?_ (by wtm_at "ir")
        wtm_at "q0"
        refine LOOPC.plain (ys.map fun w => AV.tup [.str w, .str eS]) wAtF (fun PP => iter_led List.mem_cons_self) List.mem_cons_self (by rw [List.length_map]; omega) (fun a ha => ?_) (fun a PP ha => ?_) ?_
        · obtain ⟨w, _, rfl⟩ := List.mem_map.mp ha
          exact Nat.le_refl _
        · obtain ⟨w, hw, rfl⟩ := List.mem_map.mp ha
          have hwl := hyl w hw
          with_reducible refine asg_pair ?_ (by wtm_at "ir")
          wtm_at "q1"
          wtm_at "q1"
          refine And.intro (by wtm_at "sub") ?_
          refine tests_none fun P2 => ?_
          refine ev_Joined ?_
          have z1 : (Str.ofString " ").length = 1 := by decide
          have z2 : (Str.ofString "=\"").length = 2 := by decide
          have z3 : (Str.ofString "\"").length = 1 := by decide
          have z4 : eS.length = 0 := by decide
          have z5 : Str.empty.length = 0 := by decide
          unfold EVJ
          with_reducible refine ev_str ?_
          refine ⟨_, rfl, le_line (by simp only [str_len_append]; omega), ?_⟩
          unfold EVJ
          refine ev_Formatted ?_
          wtm_at "q0"
          refine ⟨_, rfl, le_line (by omega), _, rfl, le_line (by simp only [str_len_append]; omega), ?_⟩
          unfold EVJ
          with_reducible refine ev_str ?_
          refine ⟨_, rfl, le_line (by simp only [str_len_append]; omega), ?_⟩
          unfold EVJ
          refine ev_Formatted ?_
          with_reducible refine ev_Call ?_ (by wtm_at "ir") (by wtm_at "ir") (by wtm_at "ir") (by wtm_at "ir")
          with_reducible refine ev_gref (by kernel_rfl) (by first | exact g_esc12 (by assumption)) ?_ (by decide)
          refine And.intro (keep_K (by show keepIn C.K _ = true; rw [hK]; kernel_rfl)) ?_
          wtm_at "q3"
          wtm_at "q0"
          with_reducible refine evl_nil ?_
          with_reducible refine evk_nil ?_
          wtm_at "cn"
          refine (escape_ok (C := C.pn P2) hK (show n + 1 ≤ 180 from nle hn rfl) ?_).call
          refine ⟨_, rfl, le_line (by omega), _, rfl, le_line (by simp only [str_len_append]; omega), ?_⟩
          unfold EVJ
          with_reducible refine ev_str ?_
          refine ⟨_, rfl, le_line (by simp only [str_len_append]; omega), ?_⟩
          unfold EVJ
          exact ⟨le_line (by simp only [str_len_append]; omega), rfl, rfl⟩
        · rw [wAtF_flat]
          intro D2
          refine ⟨_, _, .led, ?_⟩
          with_reducible refine evl_nil ?_
          with_reducible refine evk_nil ?_
          wtm_at "cn"
          with_reducible refine call_join (by wtm_at "mem") hjn ?_
          with_reducible refine evl_nil ?_
          with_reducible refine evk_nil ?_
          wtm_at "cn"
          with_reducible refine call_bm_append (by wtm_at "mem") (by wtm_at "lset") (by rw [List.length_append, List.length_map, sizeLine_eq]; simp; omega) ?_
          refine ⟨_, _, by wtm_at "sub", .cons _ (.cons _ (.cons _ (.cons _ (List.Sublist.refl _)))), rfl, ?_⟩
          rw [if_neg hne, List.map_append]
          simp
      · rename_i hne
        have hne : ys = [] := by
          have : ys.length = 0 := by simpa using hne
          exact List.length_eq_zero_iff.mp this
        subst hne
        with_reducible refine ex_nil ?_
        exact ⟨_, _, by wtm_at "sub", .cons _ (.cons _ (.cons _ (List.Sublist.refl _))), rfl, by rw [List.map_append]; rfl⟩
    rintro ρ L' ⟨rfl, rfl⟩
    with_reducible refine ex_cons ?_
    with_reducible refine x_expr ?_ (by wtm_at "ir")
    with_reducible refine ev_Call ?_ (by wtm_at "ir") (by wtm_at "ir") (by wtm_at "ir") (by wtm_at "ir")
    wtm_at "q0"
    refine And.intro keep_bm ?_
    wtm_at "q3"
    with_reducible refine ev_str ?_
    with_reducible refine evl_nil ?_
    with_reducible refine evk_nil ?_
    wtm_at "cn"
    have hpz : (txt ++ (Str.ofString "<" ++ tag) :: (if ys = [] then [] else [Txt.join (Str.ofString "") (ys.map wAt)])).length ≤ 1003 := by
      rw [List.length_append, List.length_cons]
      split <;> simp <;> omega
    with_reducible refine call_bm_append (by wtm_at "mem") (by wtm_at "lset") (by rw [List.length_map, sizeLine_eq]; omega) ?_
    with_reducible refine ex_cons ?_
    with_reducible refine x_if ?_
    with_reducible refine et_Cmp ?_ (by with_unfolding_all rfl)
    wtm_at "q0"
    with_reducible refine ev_none ?_
    with_reducible refine cmp_none_isnot_none ?_
    with_reducible refine tr_bool ?_
    rw [if_neg (by decide)]
    with_reducible refine ex_nil ?_
    with_reducible refine ex_cons ?_
    with_reducible refine x_assign ?_ (by wtm_at "ir") (by wtm_at "ir") (by wtm_at "ir")
    with_reducible refine ev_bool ?_
    with_reducible refine asg_attr ?_
    wtm_at "q0"
    refine seta_at (wAttrs P data stk nss pm ps ex true done) (by wtm_at "mem") (by wtm_at "mem") (sets150 hK (by kernel_rfl)) (by kernel_rfl) (by wtm_at "lset") (Nat.le_of_ble_eq_true rfl) ?_
    with_reducible refine ex_last ?_
    with_reducible refine x_expr ?_ (by wtm_at "ir")
    wtm_at "q2"
    with_reducible refine ev_Attr ?_ (by wtm_at "ir")
    wtm_at "q0"
    with_reducible refine geta_own (by wtm_at "mem") (by wtm_at "mem") (by exact own150 (by assumption) (by kernel_rfl)) (by wtm_at "look") rfl ?_
    refine GETM.norm (by wtm_at "nz") ?_
    with_reducible refine getm_list (by wtm_at "mem") PySem.F.slot_list_append PySem.F.type_list_append ?_
    refine And.intro (keep_cst (fun zz e => nomatch e)) ?_
    wtm_at "q3"
    with_reducible refine ev_List ?_
    with_reducible refine evl_nil ?_
    with_reducible refine opl_newListF (by decide) ?_
    with_reducible refine evl_nil ?_
    with_reducible refine evk_nil ?_
    wtm_at "cn"
    with_reducible refine call_append (by wtm_at "mem") (by wtm_at "lset") (le_line (Nat.le_of_ble_eq_true rfl)) ?_
    have fin := hQ ys hyp hys
    have e : (txt ++ startTxt tag ys).map AV.str = (txt ++ (Str.ofString "<" ++ tag) :: (if ys = [] then [] else [Txt.join (Str.ofString "") (ys.map wAt)])).map AV.str ++ [.str (Str.ofString ">")] := by
      unfold startTxt
      simp [List.map_append]
    rw [e] at fin
    exact ⟨_, List.Sublist.refl _, fin⟩
end
end
section
open PySem PySem.Spec PySem.Calls PySem.W PyProof.Rows
set_option maxRecDepth 100000
set_option maxHeartbeats 8000000
set_option linter.unusedVariables false
set_option pp.deepTerms false
set_option pp.deepTerms.threshold 8
noncomputable def endTxt (tag : Str) : Str := ((Str.empty ++ Str.ofString "</") ++ tag) ++ Str.ofString ">"
section
variable {C : Cx} (hK : C.K = hd.heap_1 C.P)
include hK
theorem m_start_ : methAttr C.K 150 (Str.ofString "_start") 126 = true := by rw [hK]; kernel_rfl
theorem k_126 : keepIn C.K (.ref 126) = true := by rw [hK]; kernel_rfl
theorem b_len13 : BLT C (Str.ofString "len") (.builtin "len") := ⟨(by rw [hK]; kernel_rfl), (by kernel_rfl), (fun zz e => nomatch e), (by decide)⟩
noncomputable abbrev WrIn (P x d data stk nss pm ps D0 : Addr) (B : Addr) (ex : AV) (done : Bool) (txt : List Str) (R : Led) : Led :=
  (P, .list (txt.map .str)) :: (d, .dict (wAttrs P data stk nss pm ps ex true done)) :: (x, .inst 150 d) :: (stk, .list [.obj D0, .lst []]) :: (nss, .list [.obj B, .lst [], .lst []]) :: (ps, .list [.bool false, .bool false]) :: (D0, .list [xmlT]) :: (data, .list []) :: (pm, .dict []) :: R
theorem wstart_ok {n : Nat} {R : Led} {Q : AV → Led → Prop} (hn : n ≤ 119) {dd P x d data stk nss pm ps D0 B : Addr} {ex : AV} {seen done : Bool} {ws es txt : List Str} {tag : Str} (hLam : LamOk C 125 123) (hex : ExIn ws ex R) (hes : ∀ w ∈ es, NmOk w) (htag : NmOk tag) (hte : tag ∉ es)
    (hnd : es.Nodup) (hz : es.length ≤ 14) (hwz : ws.length ≤ 1000) (htz : txt.length ≤ 1000)
    (hQ : ∀ ys : List Str, ys.Perm (leftOf ws es) → ys.Pairwise sLt → Q .none (WrIn P x d data stk nss pm ps D0 B ex done (txt ++ startTxt tag ys) R)) :
    CALLC C n (.obj 120) [.obj x, .str tag, .obj dd] [] ((dd, .dict (asD es)) :: Wr P x d data stk nss pm ps D0 B ex seen done txt R) Q := by
  refine call_def (ρ := [(Str.ofString "self", .obj x), (Str.ofString "tag", .str tag), (Str.ofString "attrs", .obj dd)]) (by rw [hK]; with_unfolding_all rfl) (by rw [hK]; kernel_rfl) (bind3 fun zz zz zz => by with_unfolding_all rfl) (by rfl) (by kernel_rfl) (by omega) ?_
  with_reducible refine ex_cons ?_
  with_reducible refine x_if ?_
  with_reducible refine et_And ?_
  with_reducible refine et_Cmp ?_ (by with_unfolding_all rfl)
  with_reducible refine ev_Attr ?_ (by wtm_at "ir")
  wtm_at "q0"
  with_reducible refine geta_own (by wtm_at "mem") (by wtm_at "mem") (by exact own150 (by assumption) (by kernel_rfl)) (by wtm_at "look") rfl ?_
  with_reducible refine ev_none ?_
  with_reducible refine cmp_none_isnot_none ?_
  with_reducible refine tr_bool ?_
  rw [if_neg (by decide)]
  rw [if_neg (by decide)]
  with_reducible refine ex_nil ?_
  with_reducible refine ex_cons ?_
  with_reducible refine x_if ?_
  with_reducible refine et_val (by wtm_at "ir") ?_
  with_reducible refine ev_Attr ?_ (by wtm_at "ir")
  wtm_at "q0"
  with_reducible refine geta_own (by wtm_at "mem") (by wtm_at "mem") (by exact own150 (by assumption) (by kernel_rfl)) (by wtm_at "look") rfl ?_
  with_reducible refine tr_seq (SeqV.led (by wtm_at "mem")) (by decide) ?_
  rw [if_neg (by decide)]
  with_reducible refine ex_nil ?_
  with_reducible refine ex_cons ?_
  with_reducible refine x_assign ?_ (by wtm_at "ir") (by wtm_at "ir") (by wtm_at "ir")
  with_reducible refine ev_List ?_
  with_reducible refine evl_nil ?_
  with_reducible refine opl_newListF (by decide) ?_
  wtm_at "q1"
  with_reducible refine ex_cons ?_
  with_reducible refine x_expr ?_ (by wtm_at "ir")
  with_reducible refine ev_MethN (fun h => ev_Attr (ev_name (by wtm_at "look") (geta_own (by wtm_at "mem") (by wtm_at "mem") (by exact own150 (by assumption) (by kernel_rfl)) (by wtm_at "look") rfl h) (by decide) (by decide)) (by wtm_at "ir")) (fun h => getm_list (by wtm_at "mem") PySem.F.slot_list_append PySem.F.type_list_append h) (by exact keep_cst (fun zz e => nomatch e)) (by wtm_at "simple") (by wtm_at "nz") (by wtm_at "nz") ?_ (by wtm_at "ir") (by with_unfolding_all rfl) (by wtm_at "ir") (by wtm_at "ir")
  with_reducible refine call_append (by wtm_at "mem") (by wtm_at "lset") (le_line (Nat.le_of_ble_eq_true rfl)) ?_
  with_reducible refine ex_cons ?_
  with_reducible refine x_if ?_
  with_reducible refine et_And ?_
  with_reducible refine et_Cmp ?_ (by with_unfolding_all rfl)
  with_reducible refine ev_Attr ?_ (by wtm_at "ir")
  wtm_at "q0"
  with_reducible refine geta_own (by wtm_at "mem") (by wtm_at "mem") (by exact own150 (by assumption) (by kernel_rfl)) (by wtm_at "look") rfl ?_
  with_reducible refine ev_none ?_
  with_reducible refine cmp_none_isnot_none ?_
  with_reducible refine tr_bool ?_
  rw [if_neg (by decide)]
  rw [if_neg (by decide)]
  with_reducible refine ex_nil ?_
  with_reducible refine ex_last ?_
  with_reducible refine x_expr ?_ (by wtm_at "ir")
  with_reducible refine ev_MethN (fun h => ev_name (by wtm_at "look") h (by decide) (by decide)) (fun h => getm_inst (by wtm_at "mem") (by wtm_at "mem") (by first | exact m_start_ (by assumption) | exact m_qname (by assumption)) (by with_unfolding_all rfl) h) (by exact keep_K (by first | exact k_126 (by assumption) | exact k_90 (by assumption))) (by wtm_at "simple") (by wtm_at "nz") (by wtm_at "nz") ?_ (by wtm_at "ir") (by with_unfolding_all rfl) (by wtm_at "ir") (by wtm_at "ir")
  refine (start_ok hK (show n + 1 ≤ 120 from nle hn rfl) hLam hex hes htag hte hnd hz hwz htz fun ys h1 h2 => ?_).call
  exact ⟨_, List.Sublist.refl _, hQ ys h1 h2⟩
theorem wend_ok {n : Nat} {R : Led} {Q : AV → Led → Prop} (hn : n ≤ 119) {P x d data stk nss pm ps D0 B : Addr} {ex : AV} {done : Bool} {txt : List Str} {tag : Str} (htag : NmOk tag) (htz : txt.length ≤ 1000)
    (hQ : Q .none (Wr P x d data stk nss pm ps D0 B ex true true (txt ++ [endTxt tag]) R)) :
    CALLC C n (.obj 133) [.obj x, .str tag] [] (WrIn P x d data stk nss pm ps D0 B ex done txt R) Q := by
  refine call_def (ρ := [(Str.ofString "self", .obj x), (Str.ofString "tag", .str tag)]) (by rw [hK]; with_unfolding_all rfl) (by rw [hK]; kernel_rfl) (bind2 fun zz zz => by with_unfolding_all rfl) (by rfl) (by kernel_rfl) (by omega) ?_
  with_reducible refine ex_cons ?_
  with_reducible refine x_if ?_
  with_reducible refine et_val (by wtm_at "ir") ?_
  with_reducible refine ev_Attr ?_ (by wtm_at "ir")
  wtm_at "q0"
  with_reducible refine geta_own (by wtm_at "mem") (by wtm_at "mem") (by exact own150 (by assumption) (by kernel_rfl)) (by wtm_at "look") rfl ?_
  with_reducible refine tr_int ?_
  rw [if_neg (by decide)]
  with_reducible refine ex_nil ?_
  with_reducible refine ex_cons ?_
  with_reducible refine x_if ?_
  with_reducible refine et_val (by wtm_at "ir") ?_
  with_reducible refine ev_Attr ?_ (by wtm_at "ir")
  wtm_at "q0"
  with_reducible refine geta_own (by wtm_at "mem") (by wtm_at "mem") (by exact own150 (by assumption) (by kernel_rfl)) (by wtm_at "look") rfl ?_
  with_reducible refine tr_seq (SeqV.led (by wtm_at "mem")) (by decide) ?_
  rw [if_neg (by decide)]
  with_reducible refine ex_nil ?_
  with_reducible refine ex_cons ?_
  with_reducible refine x_expr ?_ (by wtm_at "ir")
  wtm_at "q2"
  wtm_at "q0"
  with_reducible refine getm_own (by wtm_at "mem") (by wtm_at "mem") (own150 hK (by kernel_rfl)) (by wtm_at "look") rfl ?_
  refine And.intro keep_bm ?_
  wtm_at "q3"
  refine ev_Joined ?_
  have z1 : (Str.ofString "</").length = 2 := by decide
  have z2 : (Str.ofString ">").length = 1 := by decide
  have z5 : Str.empty.length = 0 := by decide
  have hl := htag.len
  unfold EVJ
  with_reducible refine ev_str ?_
  refine ⟨_, rfl, le_line (by simp only [str_len_append]; omega), ?_⟩
  unfold EVJ
  refine ev_Formatted ?_
  with_reducible refine ev_Sub ?_
  with_reducible refine ev_MethN (fun h => ev_name (by wtm_at "look") h (by decide) (by decide)) (fun h => getm_inst (by wtm_at "mem") (by wtm_at "mem") (by first | exact m_start_ (by assumption) | exact m_qname (by assumption)) (by with_unfolding_all rfl) h) (by exact keep_K (by first | exact k_126 (by assumption) | exact k_90 (by assumption))) (by wtm_at "simple") (by wtm_at "nz") (by wtm_at "nz") ?_ (by wtm_at "ir") (by with_unfolding_all rfl) (by wtm_at "ir") (by wtm_at "ir")
  refine (qname_ok hK (show n + 1 ≤ 150 from nle hn rfl) (q := 1) (by wtm_at "mem") (by wtm_at "mem") (by wtm_at "mem") (by wtm_at "mem") htag.br (by omega) ?_).call
  with_reducible refine ev_int ?_
  with_reducible refine item_tup (x := .str tag) (by decide) (by decide) rfl ?_
  refine ⟨_, rfl, le_line (by omega), _, rfl, le_line (by simp only [str_len_append]; omega), ?_⟩
  unfold EVJ
  with_reducible refine ev_str ?_
  refine ⟨_, rfl, le_line (by simp only [str_len_append]; omega), ?_⟩
  unfold EVJ
  refine ⟨le_line (by simp only [str_len_append]; omega), ?_⟩
  with_reducible refine evl_nil ?_
  with_reducible refine evk_nil ?_
  wtm_at "cn"
  with_reducible refine call_bm_append (by wtm_at "mem") (by wtm_at "lset") (by rw [List.length_map, sizeLine_eq]; omega) ?_
  with_reducible refine ex_cons ?_
  with_reducible refine x_expr ?_ (by wtm_at "ir")
  with_reducible refine ev_MethN (fun h => ev_Attr (ev_name (by wtm_at "look") (geta_own (by wtm_at "mem") (by wtm_at "mem") (by exact own150 (by assumption) (by kernel_rfl)) (by wtm_at "look") rfl h) (by decide) (by decide)) (by wtm_at "ir")) (fun h => getm_list (by wtm_at "mem") PySem.F.slot_list_pop PySem.F.type_list_pop h) (by exact keep_cst (fun zz e => nomatch e)) (by wtm_at "simple") (by wtm_at "nz") (by wtm_at "nz") ?_ (by wtm_at "ir") (by with_unfolding_all rfl) (by wtm_at "ir") (by wtm_at "ir")
  refine call_pop (xs := [.bool false]) (x := .bool false) (by show (ps, AO.list [.bool false, .bool false]) ∈ _; wtm_at "mem") (by wtm_at "lset") (by rw [sizeLine_eq]; exact Nat.le_of_ble_eq_true rfl) ?_
  with_reducible refine ex_cons ?_
  with_reducible refine x_assign ?_ (by wtm_at "ir") (by wtm_at "ir") (by wtm_at "ir")
  with_reducible refine ev_Cmp ?_ (by with_unfolding_all rfl)
  with_reducible refine ev_Call ?_ (by wtm_at "ir") (by wtm_at "ir") (by wtm_at "ir") (by wtm_at "ir")
  with_reducible refine ev_blt (by kernel_rfl) (by first | exact b_len13 (by assumption)) ?_ (by decide)
  refine And.intro (keep_cst (fun zz e => nomatch e)) ?_
  wtm_at "q3"
  with_reducible refine ev_Attr ?_ (by wtm_at "ir")
  wtm_at "q0"
  with_reducible refine geta_own (by wtm_at "mem") (by wtm_at "mem") (by exact own150 (by assumption) (by kernel_rfl)) (by wtm_at "look") rfl ?_
  with_reducible refine evl_nil ?_
  with_reducible refine evk_nil ?_
  wtm_at "cn"
  with_reducible refine call_len (SeqV.led (by wtm_at "mem")) (by decide) ?_
  with_reducible refine ev_int ?_
  with_reducible refine cmp_eq_int ?_
  with_reducible refine asg_attr ?_
  wtm_at "q0"
  refine seta_at (wAttrs P data stk nss pm ps ex true true) (by wtm_at "mem") (by wtm_at "mem") (sets150 hK (by kernel_rfl)) (by kernel_rfl) (by wtm_at "lset") (Nat.le_of_ble_eq_true rfl) ?_
  with_reducible refine ex_cons ?_
  with_reducible refine x_expr ?_ (by wtm_at "ir")
  with_reducible refine ev_MethN (fun h => ev_Attr (ev_name (by wtm_at "look") (geta_own (by wtm_at "mem") (by wtm_at "mem") (by exact own150 (by assumption) (by kernel_rfl)) (by wtm_at "look") rfl h) (by decide) (by decide)) (by wtm_at "ir")) (fun h => getm_list (by wtm_at "mem") PySem.F.slot_list_pop PySem.F.type_list_pop h) (by exact keep_cst (fun zz e => nomatch e)) (by wtm_at "simple") (by wtm_at "nz") (by wtm_at "nz") ?_ (by wtm_at "ir") (by with_unfolding_all rfl) (by wtm_at "ir") (by wtm_at "ir")
  refine call_pop (xs := [.obj D0]) (x := .lst []) (by show (stk, AO.list [.obj D0, .lst []]) ∈ _; wtm_at "mem") (by wtm_at "lset") (by rw [sizeLine_eq]; exact Nat.le_of_ble_eq_true rfl) ?_
  with_reducible refine ex_last ?_
  with_reducible refine x_expr ?_ (by wtm_at "ir")
  with_reducible refine ev_MethN (fun h => ev_Attr (ev_name (by wtm_at "look") (geta_own (by wtm_at "mem") (by wtm_at "mem") (by exact own150 (by assumption) (by kernel_rfl)) (by wtm_at "look") rfl h) (by decide) (by decide)) (by wtm_at "ir")) (fun h => getm_list (by wtm_at "mem") PySem.F.slot_list_pop PySem.F.type_list_pop h) (by exact keep_cst (fun zz e => nomatch e)) (by wtm_at "simple") (by wtm_at "nz") (by wtm_at "nz") ?_ (by wtm_at "ir") (by with_unfolding_all rfl) (by wtm_at "ir") (by wtm_at "ir")
  refine call_pop (xs := [.obj B, .lst []]) (x := .lst []) (by show (nss, AO.list [.obj B, .lst [], .lst []]) ∈ _; wtm_at "mem") (by wtm_at "lset") (by rw [sizeLine_eq]; exact Nat.le_of_ble_eq_true rfl) ?_
  have e : (txt ++ [endTxt tag]).map AV.str = txt.map AV.str ++ [.str (endTxt tag)] := by simp [List.map_append]
  rw [Wr, e] at hQ
  exact ⟨_, List.Sublist.refl _, hQ⟩
end
end
section
open PySem PySem.Spec PySem.Calls PySem.W PyProof.Rows
set_option maxRecDepth 100000
set_option maxHeartbeats 8000000
set_option linter.unusedVariables false
set_option pp.deepTerms false
set_option pp.deepTerms.threshold 8
theorem sorted_unique : ∀ {a b : List Str}, a.Perm b → a.Pairwise sLt → b.Pairwise sLt → a = b
  | [], b, h, _, _ => h.nil_eq
  | x :: a, [], h, _, _ => absurd h.length_eq (by simp)
  | x :: a, y :: b, h, ha, hb => by
    have ha' := List.pairwise_cons.mp ha
    have hb' := List.pairwise_cons.mp hb
    have e : x = y := by
      rcases Classical.em (x = y) with e | e
      · exact e
      · have h1 : y ∈ a := (List.mem_cons.mp (h.mem_iff.mpr List.mem_cons_self)).resolve_left fun q => e q.symm
        have h2 : x ∈ b := (List.mem_cons.mp (h.mem_iff.mp List.mem_cons_self)).resolve_left e
        exact absurd (List.lt_trans (ha'.1 y h1) (hb'.1 x h2)) (List.lt_irrefl _)
    subst e
    rw [sorted_unique (List.Perm.cons_inv h) ha'.2 hb'.2]
open Classical in
noncomputable def srt (l : List Str) : List Str := if h : ∃ ys : List Str, ys.Perm l ∧ ys.Pairwise sLt then h.choose else []
theorem srt_eq {l ys : List Str} (h1 : ys.Perm l) (h2 : ys.Pairwise sLt) : ys = srt l := by
  have h : ∃ ys : List Str, ys.Perm l ∧ ys.Pairwise sLt := ⟨ys, h1, h2⟩
  unfold srt
  rw [dif_pos h]
  exact sorted_unique (h1.trans h.choose_spec.1.symm) h2 h.choose_spec.2
noncomputable abbrev sS : Str := Str.ofString "s"
noncomputable def elemT (ys : List Str) : List Str := startTxt sS ys ++ [endTxt sS]
noncomputable def pcs (ws : List Str) (fs : List (List Str)) : List Str := fs.flatMap fun es => elemT (srt (leftOf ws es))
noncomputable def wgt (l : List Str) : Nat := (l.map (·.length)).sum + l.length
theorem wgt_append (a b : List Str) : wgt (a ++ b) = wgt a + wgt b := by unfold wgt; rw [List.map_append, List.sum_append, List.length_append]; omega
theorem elemT_wgt {ys : List Str} (hz : ys.length ≤ 14) (ho : ∀ w ∈ ys, w.length ≤ 100) : wgt (elemT ys) ≤ 2000 ∧ (elemT ys).length ≤ 4 := by
  have h1 := wAts_sum ys hz ho
  have h2 := join_length (Str.ofString "") (ys.map wAt)
  have h3 : (Str.ofString "").length = 0 := by decide
  rw [h3] at h2
  have h4 : (Str.ofString "<" ++ sS).length = 2 := by decide
  have h5 : (Str.ofString ">").length = 1 := by decide
  have h6 : (endTxt sS).length = 4 := by decide
  unfold elemT startTxt wgt
  split
  · simp [h4, h5, h6]
  · simp [h4, h5, h6]; omega
theorem elemT_len (ys : List Str) : (elemT ys).length ≤ 4 := by
  unfold elemT startTxt
  split <;> simp
theorem startTxt_len (ys : List Str) : (startTxt sS ys).length ≤ 3 := by
  unfold startTxt
  split <;> simp
theorem pcs_len (ws : List Str) : ∀ fs : List (List Str), (pcs ws fs).length ≤ 4 * fs.length
  | [] => by simp [pcs]
  | es :: r => by
    have h1 := pcs_len ws r
    have h2 := elemT_len (srt (leftOf ws es))
    unfold pcs at h1 ⊢
    rw [List.flatMap_cons, List.length_append, List.length_cons]
    omega
theorem tag_ok : NmOk sS := ⟨by decide +kernel, by decide +kernel, by decide +kernel⟩
section
variable {C : Cx} (hK : C.K = hd.heap_1 C.P)
include hK
theorem m_wstart : methAttr C.K 150 (Str.ofString "start") 120 = true := by rw [hK]; kernel_rfl
theorem m_wend : methAttr C.K 150 (Str.ofString "end") 133 = true := by rw [hK]; kernel_rfl
theorem k_120 : keepIn C.K (.ref 120) = true := by rw [hK]; kernel_rfl
theorem k_133 : keepIn C.K (.ref 133) = true := by rw [hK]; kernel_rfl
theorem k_150 : keepIn C.K (.ref 150) = true := by rw [hK]; kernel_rfl
theorem g_writer : nsIn C.K mainGlobals (Str.ofString "C14NWriterTarget") = some (some (.ref 150)) := by rw [hK]; kernel_rfl
theorem law_written_ok {n : Nat} {L : Led} {Q : AV → Led → Prop} (hn : n ≤ 100) (hLam : LamOk C 125 123) {fs ls : List (List Str)} (hfs : ∀ es ∈ fs, es.Nodup ∧ es.length ≤ 14 ∧ sS ∉ es ∧ ∀ w ∈ es, NmOk w) (hf4 : fs.length ≤ 4) (hl4 : ls.length ≤ 4) (hls : ∀ ws ∈ ls, ws.length ≤ 100)
    (hQ : ∀ T, Q (.obj T) ((T, .list ((ls.map fun ws => Txt.join (Str.ofString "") (pcs ws fs)).map .str)) :: L)) : CALLC C n (.obj 340) [.lst (fs.map strsL), .lst (ls.map strsL)] [] L Q := by
  refine call_def (ρ := [(Str.ofString "firsts", .lst (fs.map strsL)), (Str.ofString "lasts", .lst (ls.map strsL))]) (by rw [hK]; with_unfolding_all rfl) (by rw [hK]; kernel_rfl) (bind2 fun zz zz => by with_unfolding_all rfl) (by rfl) (by kernel_rfl) (by omega) ?_
  with_reducible refine ex_cons ?_
  with_reducible refine x_assign ?_ (by wtm_at "ir") (by wtm_at "ir") (by wtm_at "ir")
  with_reducible refine ev_List ?_
  with_reducible refine evl_nil ?_
  with_reducible refine opl_newList (by decide) fun T => ?_
  wtm_at "q1"
  with_reducible refine ex_cut (fun ρ L' => ρ = [(Str.ofString "texts", .obj T)] ∧ L' = (T, .list ((ls.map fun ws => Txt.join (Str.ofString "") (pcs ws fs)).map .str)) :: L) ?_ ?_
  · with_reducible refine x_for ?_ (by wtm_at "ir")
    wtm_at "q0"
    with_reducible refine LOOP.inv (fun i ρ L' => ρ = [(Str.ofString "firsts", .lst (fs.map strsL)), (Str.ofString "texts", .obj T)] ∧ L' = (T, .list (((ls.take i).map fun ws => Txt.join (Str.ofString "") (pcs ws fs)).map .str)) :: L) iter_lst ?_ ?_ ?_ ?_
    · exact ⟨_, _, by wtm_at "sub", List.Sublist.refl _, rfl, rfl⟩
    · intros; trivial
    · rintro i a ρ L' hx ⟨rfl, rfl⟩
      rw [List.getElem?_map] at hx
      obtain ⟨ws, hws, rfl⟩ := Option.map_eq_some_iff.mp hx
      have hwm : ws ∈ ls := List.mem_of_getElem? hws
      have htk : ls.take (i + 1) = ls.take i ++ [ws] := by rw [List.take_add_one, hws]; rfl
      wtm_at "q1"
      with_reducible refine ex_cons ?_
      with_reducible refine x_assign ?_ (by wtm_at "ir") (by wtm_at "ir") (by wtm_at "ir")
      with_reducible refine ev_List ?_
      with_reducible refine evl_nil ?_
      with_reducible refine opl_newList (by decide) fun Pc => ?_
      wtm_at "q1"
      with_reducible refine ex_cons ?_
      with_reducible refine x_assign ?_ (by wtm_at "ir") (by wtm_at "ir") (by wtm_at "ir")
      with_reducible refine ev_Call ?_ (by wtm_at "ir") (by wtm_at "ir") (by wtm_at "ir") (by wtm_at "ir")
      with_reducible refine ev_gref (by kernel_rfl) (by first | exact g_writer (by assumption)) ?_ (by decide)
      refine And.intro (keep_K (by first | exact k_120 (by assumption) | exact k_133 (by assumption) | exact k_150 (by assumption))) ?_
      wtm_at "q3"
      with_reducible refine ev_Attr ?_ (by wtm_at "ir")
      wtm_at "q0"
      refine geta_append (by wtm_at "mem") ?_
      with_reducible refine evl_nil ?_
      with_reducible refine evk_cons ?_
      wtm_at "q0"
      with_reducible refine evk_nil ?_
      wtm_at "cn"
      refine (writer_new hK (show n + 1 ≤ 150 from nle hn rfl) (ws := ws) (by have := hls ws hwm; omega) fun x d data stk nss pm ps D0 B ex exL hex => ?_).call
      generalize hLt : (T, AO.list (((ls.take i).map fun ws => Txt.join (Str.ofString "") (pcs ws fs)).map .str)) :: L = Lt
      have eL : Wr Pc x d data stk nss pm ps D0 B ex false false [] exL ++ Lt = Wr Pc x d data stk nss pm ps D0 B ex false false [] (exL ++ Lt) := rfl
      rw [eL]
      have hin : ExIn ws ex (exL ++ Lt) := by
        cases hex with
        | none e => exact .inl ⟨e, rfl⟩
        | some E h => exact .inr ⟨E, h, rfl, List.mem_cons_self⟩
      have hwz := hls ws hwm
      wtm_at "q1"
      with_reducible refine ex_cut (fun ρ L' => ρ = [(Str.ofString "firsts", .lst (fs.map strsL)), (Str.ofString "texts", .obj T), (Str.ofString "pieces", .obj Pc)] ∧ ∃ seen done, L' = Wr Pc x d data stk nss pm ps D0 B ex seen done (pcs ws fs) (exL ++ Lt) ∧ wgt (pcs ws fs) ≤ 8000) ?_ ?_
      · with_reducible refine x_for ?_ (by wtm_at "ir")
        wtm_at "q0"
        with_reducible refine LOOP.inv (fun k ρ L' => ρ = [(Str.ofString "firsts", .lst (fs.map strsL)), (Str.ofString "texts", .obj T), (Str.ofString "pieces", .obj Pc), (Str.ofString "writer", .obj x)] ∧ ∃ seen done, L' = Wr Pc x d data stk nss pm ps D0 B ex seen done (pcs ws (fs.take k)) (exL ++ Lt) ∧ wgt (pcs ws (fs.take k)) ≤ 2000 * k) iter_lst ?_ ?_ ?_ ?_
        · exact ⟨_, _, by wtm_at "sub", List.Sublist.refl _, rfl, false, false, rfl, by unfold pcs wgt; simp⟩
        · intros; trivial
        · rintro k a ρ L' hx ⟨rfl, seen, done, rfl, hw1⟩
          rw [List.getElem?_map] at hx
          obtain ⟨es, hes, rfl⟩ := Option.map_eq_some_iff.mp hx
          have hem : es ∈ fs := List.mem_of_getElem? hes
          have hk4 : k < 4 := by have := (List.getElem?_eq_some_iff.mp hes).1; omega
          obtain ⟨hnd, hz, hns, hno⟩ := hfs es hem
          have htk2 : fs.take (k + 1) = fs.take k ++ [es] := by rw [List.take_add_one, hes]; rfl
          have hpl : (pcs ws (fs.take k)).length ≤ 1000 := by
            have := pcs_len ws (fs.take k)
            have h2 := List.length_take_le k fs
            omega
          wtm_at "q1"
          with_reducible refine ex_cons ?_
          with_reducible refine x_expr ?_ (by wtm_at "ir")
          wtm_at "q2"
          wtm_at "q0"
          refine GETM.norm (by wtm_at "nz") ?_
          with_reducible refine getm_inst (by wtm_at "mem") (by wtm_at "mem") (by first | exact m_wstart (by assumption) | exact m_wend (by assumption)) (by with_unfolding_all rfl) ?_
          refine And.intro (keep_K (by first | exact k_120 (by assumption) | exact k_133 (by assumption) | exact k_150 (by assumption))) ?_
          wtm_at "q3"
          with_reducible refine ev_str ?_
          wtm_at "q3"
          with_reducible refine ev_DictComp (ρ0 := []) (by kernel_rfl) (by wtm_at "sub") ?_ (by wtm_at "ir")
          wtm_at "q0"
          refine LOOPC.inv (es.map .str) (fun j ao L' => ao = .dict (asD (es.take j)) ∧ L' = _) (fun PP => iter_lst) ⟨rfl, rfl⟩ (fun j ao L' h => trivial) (fun j a ao L' PP hx h => ?_) (fun ao L' h => ?_)
          · obtain ⟨rfl, rfl⟩ := h
            rw [List.getElem?_map] at hx
            obtain ⟨w, hw, rfl⟩ := Option.map_eq_some_iff.mp hx
            have htk3 : es.take (j + 1) = es.take j ++ [w] := by rw [List.take_add_one, hw]; rfl
            wtm_at "q1"
            refine And.intro (by wtm_at "sub") ?_
            refine tests_none ?_
            refine emit_dict (le_line (by rw [List.length_map]; exact Nat.le_trans (List.length_take_le' _ _) (by omega))) fun P2 => ?_
            wtm_at "q0"
            with_reducible refine ev_str ?_
            refine ⟨w, rfl, ?_, rfl⟩
            rw [putE_new (not_in_take hnd hw _), htk3]
            unfold asD
            rw [List.map_append]
            rfl
          · obtain ⟨rfl, rfl⟩ := h
            rw [List.length_map, List.take_length]
            intro D
            refine ⟨_, _, .led, ?_⟩
            with_reducible refine evl_nil ?_
            with_reducible refine evk_nil ?_
            wtm_at "cn"
            refine (wstart_ok hK (show n + 1 ≤ 119 from nle hn rfl) hLam hin hno tag_ok hns hnd hz (by omega) hpl fun ys h1 h2 => ?_).call
            have hyo : ∀ w ∈ ys, w.length ≤ 100 := fun w hw => (hno w (List.mem_filter.mp (h1.mem_iff.mp hw)).1).len
            have hyz : ys.length ≤ 14 := by rw [h1.length_eq]; exact Nat.le_trans (List.length_filter_le _ _) hz
            have ew := elemT_wgt hyz hyo
            with_reducible refine ex_last ?_
            with_reducible refine x_expr ?_ (by wtm_at "ir")
            with_reducible refine ev_MethN (fun h => ev_name (by wtm_at "look") h (by decide) (by decide)) (fun h => getm_inst (by wtm_at "mem") (by wtm_at "mem") (by first | exact m_wstart (by assumption) | exact m_wend (by assumption)) (by with_unfolding_all rfl) h) (by exact keep_K (by first | exact k_120 (by assumption) | exact k_133 (by assumption) | exact k_150 (by assumption))) (by wtm_at "simple") (by wtm_at "nz") (by wtm_at "nz") ?_ (by wtm_at "ir") (by with_unfolding_all rfl) (by wtm_at "ir") (by wtm_at "ir")
            refine (wend_ok hK (show n + 1 ≤ 119 from nle hn rfl) tag_ok (by have h3 := pcs_len ws (fs.take k); have h4 := List.length_take_le k fs; have h5 := startTxt_len ys; rw [List.length_append]; omega) ?_).call
            have e2 : pcs ws (fs.take k) ++ startTxt sS ys ++ [endTxt sS] = pcs ws (fs.take (k + 1)) := by
              rw [htk2]
              unfold pcs
              rw [List.flatMap_append, List.flatMap_cons, List.flatMap_nil, List.append_nil, ← srt_eq h1 h2]
              unfold elemT
              rw [List.append_assoc]
            refine ⟨_, _, by wtm_at "sub", List.Sublist.refl _, rfl, true, true, by rw [e2], ?_⟩
            rw [← e2, List.append_assoc, wgt_append]
            have e3 : wgt (startTxt sS ys ++ [endTxt sS]) ≤ 2000 := ew.1
            omega
        · rintro ρ L' ⟨rfl, seen, done, rfl, hw1⟩
          rw [List.length_map, List.take_length] at hw1
          rw [List.length_map, List.take_length]
          with_reducible refine ex_nil ?_
          exact ⟨_, _, by wtm_at "sub", List.Sublist.refl _, rfl, seen, done, rfl, by omega⟩
      · rintro ρ L' ⟨rfl, seen, done, rfl, hw1⟩
        subst hLt
        have hTm : (T, AO.list (((ls.take i).map fun ws => Txt.join (Str.ofString "") (pcs ws fs)).map .str)) ∈ Wr Pc x d data stk nss pm ps D0 B ex seen done (pcs ws fs) (exL ++ (T, AO.list (((ls.take i).map fun ws => Txt.join (Str.ofString "") (pcs ws fs)).map .str)) :: L) :=
          List.mem_cons_of_mem _ (List.mem_cons_of_mem _ (List.mem_cons_of_mem _ (List.mem_cons_of_mem _ (List.mem_cons_of_mem _ (List.mem_cons_of_mem _ (List.mem_cons_of_mem _ (List.mem_cons_of_mem _ (List.mem_cons_of_mem _ (List.mem_append_right _ List.mem_cons_self)))))))))
        have eNew : ((ls.take (i + 1)).map fun ws => Txt.join (Str.ofString "") (pcs ws fs)).map AV.str = ((ls.take i).map fun ws => Txt.join (Str.ofString "") (pcs ws fs)).map AV.str ++ [.str (Txt.join (Str.ofString "") (pcs ws fs))] := by
          rw [htk, List.map_append, List.map_append]
          rfl
        with_reducible refine ex_last ?_
        with_reducible refine x_expr ?_ (by wtm_at "ir")
        wtm_at "q2"
        wtm_at "q0"
        refine GETM.norm (by wtm_at "nz") ?_
        with_reducible refine getm_list (by wtm_at "mem") PySem.F.slot_list_append PySem.F.type_list_append ?_
        refine And.intro (keep_cst (fun zz e => nomatch e)) ?_
        wtm_at "q3"
        with_reducible refine ev_MethN (fun h => ev_str h) (fun h => getm_str PySem.F.slot_str_join PySem.F.type_str_join h) (by exact keep_cst (fun zz e => nomatch e)) (by wtm_at "simple") (by wtm_at "nz") (by wtm_at "nz") ?_ (by wtm_at "ir") (by with_unfolding_all rfl) (by wtm_at "ir") (by wtm_at "ir")
        with_reducible refine call_join List.mem_cons_self (joinOk_of_weight (by unfold wgt at hw1; omega) (by decide)) ?_
        with_reducible refine evl_nil ?_
        with_reducible refine evk_nil ?_
        wtm_at "cn"
        refine call_append (L' := Wr Pc x d data stk nss pm ps D0 B ex seen done (pcs ws fs) (exL ++ (T, AO.list (((ls.take i).map fun ws => Txt.join (Str.ofString "") (pcs ws fs)).map .str ++ [.str (Txt.join (Str.ofString "") (pcs ws fs))])) :: L)) hTm (.there (.there (.there (.there (.there (.there (.there (.there (.there (LSet.pre LSet.here exL)))))))))) (le_line (by rw [List.length_map, List.length_map]; exact Nat.le_trans (List.length_take_le' _ _) (by omega))) ?_
        refine ⟨_, _, by wtm_at "sub", .cons _ (.cons _ (.cons _ (.cons _ (.cons _ (.cons _ (.cons _ (.cons _ (.cons _ (List.sublist_append_right exL _))))))))), rfl, ?_⟩
        rw [eNew]
    · rintro ρ L' ⟨rfl, rfl⟩
      rw [List.length_map, List.take_length]
      with_reducible refine ex_nil ?_
      exact ⟨_, _, by wtm_at "sub", List.Sublist.refl _, rfl, rfl⟩
  · rintro ρ L' ⟨rfl, rfl⟩
    with_reducible refine ex_last ?_
    with_reducible refine x_return ?_
    wtm_at "q0"
    exact ⟨_, List.Sublist.refl _, hQ T⟩
end
end
section
open PySem PySem.Spec PySem.Calls PySem.W PyProof.Rows
set_option maxRecDepth 100000
set_option maxHeartbeats 8000000
set_option linter.unusedVariables false
set_option pp.deepTerms false
set_option pp.deepTerms.threshold 8
section
variable {C : Cx} (hK : C.K = hd.heap_1 C.P)
include hK
theorem g_flags : nsIn C.K mainGlobals (Str.ofString "COMPILER_FLAG_NAMES") = some (some (.ref 169)) := by rw [hK]; kernel_rfl
theorem k_flags : ∃ es ep, C.K.lookup 169 = some ⟨.type "dict", none, .dict es ep, #[]⟩ ∧ keysInt es = true ∧
    (∀ i : Nat, i < 12 → ∀ g v, VR g (.str (baseText "0x" 16 (1 * 2 ^ i))) v → VR g (.str (fname i)) ((findBy Value.isInt es (1 * 2 ^ i)).getD v)) := by
  refine ⟨_, _, by rw [hK]; with_unfolding_all rfl, by kernel_rfl, ?_⟩
  intro i hi g v hv
  have : i = 0 ∨ i = 1 ∨ i = 2 ∨ i = 3 ∨ i = 4 ∨ i = 5 ∨ i = 6 ∨ i = 7 ∨ i = 8 ∨ i = 9 ∨ i = 10 ∨ i = 11 := by omega
  rcases this with rfl | rfl | rfl | rfl | rfl | rfl | rfl | rfl | rfl | rfl | rfl | rfl
  · exact .str (Str.ofString "OPTIMIZED") _
  · exact .str (Str.ofString "NEWLOCALS") _
  · exact .str (Str.ofString "VARARGS") _
  · exact .str (Str.ofString "VARKEYWORDS") _
  · exact .str (Str.ofString "NESTED") _
  · exact .str (Str.ofString "GENERATOR") _
  · exact .str (Str.ofString "NOFREE") _
  · exact .str (Str.ofString "COROUTINE") _
  · exact .str (Str.ofString "ITERABLE_COROUTINE") _
  · exact .str (Str.ofString "ASYNC_GENERATOR") _
  · rw [show fname 10 = baseText "0x" 16 (1 * 2 ^ 10) by decide +kernel]; exact hv
  · rw [show fname 11 = baseText "0x" 16 (1 * 2 ^ 11) by decide +kernel]; exact hv
theorem b_range1 : BLT C (Str.ofString "range") (.type "range") := ⟨(by rw [hK]; kernel_rfl), (by kernel_rfl), (fun zz e => nomatch e), (by decide)⟩
theorem b_hex : BLT C (Str.ofString "hex") (.builtin "hex") := ⟨(by rw [hK]; kernel_rfl), (by kernel_rfl), (fun zz e => nomatch e), (by decide)⟩
omit hK in
theorem pow_ne (i : Nat) : (((2 ^ i : Nat) : Int) != 0) = true := by
  have := Nat.two_pow_pos i
  rw [bne_iff_ne]; omega
omit hK in
theorem hex_ok {i : Nat} (hi : i < 32) : ((1 : Int) * 2 ^ i).natAbs < 18446744073709551616 := by
  have : 2 ^ i < 2 ^ 32 := Nat.pow_lt_pow_right (by decide) hi
  rw [Int.one_mul, Int.natAbs_pow]; exact Nat.lt_of_lt_of_le this (by decide)
omit hK in
theorem sz1 {i : Nat} (hi : i < 32) : (Builtin.Int.intBits 1 : Int) + (i : Int) ≤ 2 ^ 27 := by
  have : Builtin.Int.intBits 1 = 1 := by decide
  rw [this]; omega
theorem pretty_flags_ok {n : Nat} {L : Led} {Q : AV → Led → Prop} (hn : n ≤ 180) {m : Nat} (hm : m < 4096) (hQ : Q (.str (prettyS m)) L) : CALLC C n (.obj 176) [.int (m : Int)] [] L Q := by
  have hQ' : Q (.str (Txt.join (Str.ofString ", ") (if m = 0 then [Str.ofString "0x0"] else fnames m 12))) L := by
    have : Txt.join (Str.ofString ", ") (if m = 0 then [Str.ofString "0x0"] else fnames m 12) = prettyS m := by
      unfold prettyS
      by_cases h : m = 0
      · rw [if_pos h, if_pos h]; decide +kernel
      · rw [if_neg h, if_neg h]
    rw [this]; exact hQ
  refine call_def (ρ := [(Str.ofString "flags", .int m)]) (by rw [hK]; with_unfolding_all rfl) (by rw [hK]; kernel_rfl) (bind1 fun zz => by with_unfolding_all rfl) (by rfl) (by kernel_rfl) (by omega) ?_
  with_reducible refine ex_cons ?_
  with_reducible refine x_assign ?_ (by wtm_at "ir") (by wtm_at "ir") (by wtm_at "ir")
  with_reducible refine ev_List ?_
  with_reducible refine evl_nil ?_
  with_reducible refine opl_newList ?_ fun a => ?_
  · decide
  wtm_at "q1"
  with_reducible refine ex_cut (fun ρ L' => ρ = [(Str.ofString "names", .obj a)] ∧ L' = (a, .list (((if m = 0 then [Str.ofString "0x0"] else fnames m 12)).map .str)) :: L) ?_ ?_
  · with_reducible refine x_for ?_ (by wtm_at "ir")
    with_reducible refine ev_CallN (fun h => ev_blt (by kernel_rfl) (by first | exact b_range1 (by assumption) | exact b_hex (by assumption)) h (by decide)) (by exact keep_cst (fun zz e => nomatch e)) (by wtm_at "simple") (by wtm_at "nz") ?_ (by wtm_at "ir") (by wtm_at "ir")
    with_reducible refine call_range ?_
    with_reducible refine LOOP.inv (fun i ρ L' => ρ = [(Str.ofString "flags", .int (rest m i : Nat)), (Str.ofString "names", .obj a)] ∧ L' = (a, .list ((fnames m i).map .str)) :: L ∧ (m = 0 ∨ rest m i ≠ 0)) (iter_range (by decide) (by decide)) ?_ ?_ ?_ ?_
    · refine ⟨_, _, SubV.refl _, List.Sublist.refl _, ?_, ?_, ?_⟩
      · rw [rest_zero]
      · rfl
      · rw [rest_zero]; omega
    · intros; trivial
    · rintro i x ρ L' hx ⟨rfl, rfl, hr⟩
      obtain ⟨hi, rfl⟩ := nums_get hx
      replace hi : i < 32 := hi
      wtm_at "q1"
      with_reducible refine ex_cons ?_
      with_reducible refine x_assign ?_ (by wtm_at "ir") (by wtm_at "ir") (by wtm_at "ir")
      with_reducible refine ev_BinOp ?_
      with_reducible refine ev_int ?_
      wtm_at "q0"
      with_reducible refine op_shl_int (by omega) (sz1 hi) ?_
      wtm_at "q1"
      with_reducible refine ex_last ?_
      with_reducible refine x_if ?_
      with_reducible refine et_val (by wtm_at "ir") ?_
      with_reducible refine ev_BinOp ?_
      wtm_at "q0"
      wtm_at "q0"
      with_reducible refine op_and_int ?_
      with_reducible refine tr_int ?_
      rw [show (1 : Int) * 2 ^ (i : Int).toNat = 1 * 2 ^ i from rfl, rest_and]
      by_cases hb : m.testBit i = true
      · have h12 : i < 12 := by
          rcases Nat.lt_or_ge i 12 with h | h
          · exact h
          · rw [Nat.testBit_lt_two_pow (Nat.lt_of_lt_of_le hm (Nat.pow_le_pow_right (n := 2) (by decide) h))] at hb; cases hb
        rw [if_pos hb, if_pos (pow_ne i)]
        with_reducible refine ex_cons ?_
        with_reducible refine x_expr ?_ (by wtm_at "ir")
        wtm_at "q2"
        wtm_at "q0"
        refine GETM.norm (by wtm_at "nz") ?_
        with_reducible refine getm_list (by wtm_at "mem") PySem.F.slot_list_append PySem.F.type_list_append ?_
        refine And.intro (keep_cst (fun zz e => nomatch e)) ?_
        wtm_at "q3"
        wtm_at "q2"
        with_reducible refine ev_gref (by kernel_rfl) (by exact g_flags (by assumption)) ?_ (by decide)
        obtain ⟨es, ep, hk, hes, hget⟩ := k_flags hK
        with_reducible refine getm_base hk PySem.F.plainAttrs_dict PySem.F.slot_dict_get PySem.F.type_dict_get ?_
        refine And.intro (keep_cst (fun zz e => nomatch e)) ?_
        wtm_at "q3"
        wtm_at "q0"
        wtm_at "q3"
        with_reducible refine ev_CallN (fun h => ev_blt (by kernel_rfl) (by first | exact b_range1 (by assumption) | exact b_hex (by assumption)) h (by decide)) (by exact keep_cst (fun zz e => nomatch e)) (by wtm_at "simple") (by wtm_at "nz") ?_ (by wtm_at "ir") (by wtm_at "ir")
        with_reducible refine call_hex (hex_ok hi) ?_
        with_reducible refine evl_nil ?_
        with_reducible refine evk_nil ?_
        wtm_at "cn"
        with_reducible refine call_get_int hk (by decide) (keysInt_of hes) (hget i h12) ?_
        with_reducible refine evl_nil ?_
        with_reducible refine evk_nil ?_
        wtm_at "cn"
        with_reducible refine call_append (by wtm_at "mem") (by wtm_at "lset") (by rw [List.length_map]; exact Nat.le_trans (fnames_length m i) (by rw [sizeLine_eq]; omega)) ?_
        with_reducible refine ex_cons ?_
        with_reducible refine x_aug_name (by wtm_at "look") ?_ (by intro _; wtm_at "setv") (by kernel_rfl) (by decide)
        wtm_at "q0"
        with_reducible refine op_ixor_int ?_
        with_reducible refine ex_last ?_
        with_reducible refine x_if ?_
        with_reducible refine et_Not ?_
        with_reducible refine et_val (by wtm_at "ir") ?_
        wtm_at "q0"
        with_reducible refine tr_int ?_
        rw [rest_xor m i hb]
        with_reducible refine ite_of (fun h => ?_) (fun h => ?_)
        · have h0 : rest m (i + 1) = 0 := by simpa using h
          have hm0 : m ≠ 0 := fun e => by rw [e] at hb; simp at hb
          with_reducible refine ex_last ?_
          with_reducible refine x_break ?_
          refine ⟨_, _, ?_, ?_, rfl, rfl⟩
          · wtm_at "sub"
          · rw [if_neg hm0, rest_zero_names h0 (n := 12) (by omega), fnames_succ, hb]; simp
        · have h0 : rest m (i + 1) ≠ 0 := by simpa using h
          with_reducible refine ex_nil ?_
          refine ⟨_, _, ?_, ?_, rfl, rfl, .inr h0⟩
          · wtm_at "sub"
          · rw [fnames_succ, hb]; simp
      · rw [if_neg hb, if_neg (by simp)]
        with_reducible refine ex_nil ?_
        have hb' : m.testBit i = false := by simpa using hb
        refine ⟨_, _, ?_, ?_, rfl, rfl, ?_⟩
        · rw [rest_succ_of m i hb']; wtm_at "sub"
        · rw [fnames_succ, hb']; simp
        · rw [rest_succ_of m i hb']; exact hr
    · rintro ρ L' ⟨rfl, rfl, hr⟩
      have hm0 : m = 0 := by
        rcases hr with h | h
        · exact h
        · rw [show (nums (Int.toNat 32)).length = 12 + 20 by rw [nums_length]; rfl, rest_high (n := 12) hm] at h; exact absurd rfl h
      subst hm0
      rw [show rest 0 (nums (Int.toNat 32)).length = 0 by unfold rest; simp, fnames_zero]
      with_reducible refine ex_last ?_
      with_reducible refine x_expr ?_ (by wtm_at "ir")
      wtm_at "q2"
      wtm_at "q0"
      refine GETM.norm (by wtm_at "nz") ?_
      with_reducible refine getm_list (by wtm_at "mem") PySem.F.slot_list_append PySem.F.type_list_append ?_
      refine And.intro (keep_cst (fun zz e => nomatch e)) ?_
      wtm_at "q3"
      with_reducible refine ev_CallN (fun h => ev_blt (by kernel_rfl) (by first | exact b_range1 (by assumption) | exact b_hex (by assumption)) h (by decide)) (by exact keep_cst (fun zz e => nomatch e)) (by wtm_at "simple") (by wtm_at "nz") ?_ (by wtm_at "ir") (by wtm_at "ir")
      with_reducible refine call_hex (by decide) ?_
      with_reducible refine evl_nil ?_
      with_reducible refine evk_nil ?_
      wtm_at "cn"
      with_reducible refine call_append (by wtm_at "mem") (by wtm_at "lset") (by decide) ?_
      refine ⟨_, _, ?_, ?_, rfl, rfl⟩
      · wtm_at "sub"
      · rw [show baseText "0x" 16 ((0 : Nat) : Int) = Str.ofString "0x0" by decide +kernel]; simp
  · rintro ρ L' ⟨rfl, rfl⟩
    with_reducible refine ex_last ?_
    with_reducible refine x_return ?_
    with_reducible refine ev_MethN (fun h => ev_str h) (fun h => getm_str PySem.F.slot_str_join PySem.F.type_str_join h) (by exact keep_cst (fun zz e => nomatch e)) (by wtm_at "simple") (by wtm_at "nz") (by wtm_at "nz") ?_ (by wtm_at "ir") (by with_unfolding_all rfl) (by wtm_at "ir") (by wtm_at "ir")
    with_reducible refine call_join (by wtm_at "mem") ?_ ?_
    · refine joinOk_of ?_
      by_cases h : m = 0
      · rw [if_pos h]; decide
      · rw [if_neg h]
        have h1 := fnames_sum m 12
        have h2 := fnames_length m 12
        rw [show (Str.ofString ", ").length = 2 by decide]
        omega
    · refine ⟨_, ?_, hQ'⟩
      wtm_at "slb"
end
end
section
set_option maxRecDepth 100000
set_option linter.unusedVariables false
open PySem PySem.Spec PySem.Calls PyProof.Rows PySem.W
theorem fname_inj : ∀ i, i < 12 → ∀ j, j < 12 → fname i = fname j → i = j := by decide +kernel
theorem mem_fnames {m i : Nat} (hi : i < 12) : fname i ∈ fnames m 12 ↔ m.testBit i = true := by
  constructor
  · intro h
    obtain ⟨j, hj, e⟩ := List.mem_map.mp h
    have h2 := List.mem_filter.mp hj
    have := fname_inj j (List.mem_range.mp h2.1) i hi e
    rw [← this]; exact h2.2
  · exact fun h => List.mem_map.mpr ⟨i, List.mem_filter.mpr ⟨List.mem_range.mpr hi, h⟩, rfl⟩
theorem leftOf_dif (a b : Nat) : leftOf (fnames b 12) (fnames a 12) = fnames (dif a b) 12 := by
  unfold leftOf
  have e1 : fnames a 12 = ((List.range 12).filter fun i => a.testBit i).map fname := rfl
  rw [e1, List.filter_map, List.filter_filter]
  unfold fnames
  congr 1
  apply List.filter_congr
  intro i hi
  have hi := List.mem_range.mp hi
  rw [dif_bit]
  have e2 : ((fun w => !decide (w ∈ ddK (fnames b 12))) ∘ fname) i = !b.testBit i := by
    show (!decide (fname i ∈ ddK (fnames b 12))) = _
    cases hb : b.testBit i with
    | true => rw [decide_eq_true ((mem_ddK _ _).mpr ((mem_fnames hi).mpr hb))]
    | false => rw [decide_eq_false fun h => by have := (mem_fnames hi).mp ((mem_ddK _ _).mp h); rw [hb] at this; cases this]
  have e3 : ((fun w => !decide (w ∈ ddK (List.map fname (List.filter (fun i => b.testBit i) (List.range 12))))) ∘ fname) i = !b.testBit i := e2
  rw [e3, Bool.and_comm]
theorem places_up : (elemPlaces.map fname).Pairwise sLt := by decide +kernel
theorem srt_names (m : Nat) : srt (fnames m 12) = (elemPlaces.filter fun k => m.testBit k).map fname := by
  refine (srt_eq ?_ ?_).symm
  · unfold fnames
    have hp : elemPlaces.Perm (List.range 12) := by decide +kernel
    exact (hp.filter _).map _
  · refine places_up.sublist ?_
    exact (List.filter_sublist).map _
theorem joinL (l : List Str) : (Txt.join (Str.ofString "") l).cps.toList = l.flatMap fun x => x.cps.toList := by
  have e : Txt.join (Str.ofString "") l = Str.join (Str.ofString "") l := StrLaws.glued_eq_join _ _
  rw [e]
  have h0 : (Str.ofString "").cps.toList = [] := by decide +kernel
  induction l with
  | nil => rfl
  | cons x r ih =>
    cases r with
    | nil => show x.cps.toList = x.cps.toList ++ []; rw [List.append_nil]
    | cons y r =>
      show (x ++ Str.ofString "" ++ Str.join (Str.ofString "") (y :: r)).cps.toList = _
      simp only [Str.cps_append, Array.toList_append]
      rw [ih (StrLaws.glued_eq_join _ _), h0, List.append_nil]
      rfl
theorem wAt_attr (k : Nat) : (wAt (fname k)).cps.toList = (attrS k).cps.toList := by
  unfold wAt attrS
  simp only [Str.cps_append, Array.toList_append]
  have h1 : Str.empty.cps.toList = [] := rfl
  have h2 : eS.cps.toList = [] := by decide +kernel
  have h3 : (Str.ofString "=\"").cps.toList ++ (Str.ofString "\"").cps.toList = (Str.ofString "=\"\"").cps.toList := by decide +kernel
  rw [h1, h2, ← h3]
  simp
theorem elem_toList (m : Nat) : (elemT (srt (fnames m 12))).flatMap (fun x => x.cps.toList) = (elemS m).cps.toList := by
  rw [srt_names]
  unfold elemT startTxt elemS
  simp only [Str.cps_append, Array.toList_append]
  rw [joinL]
  have h1 : (Str.ofString "<").cps.toList ++ sS.cps.toList = (Str.ofString "<s").cps.toList := by decide +kernel
  have h2 : (Str.ofString ">").cps.toList ++ (endTxt sS).cps.toList = (Str.ofString "></s>").cps.toList := by decide +kernel
  have h3 : ∀ l : List Nat, (elemAttrs m).flatMap (fun x => x.cps.toList) = ((elemPlaces.filter fun k => m.testBit k).map fun k => (wAt (fname k)).cps.toList).flatten := fun zz => by
    unfold elemAttrs
    rw [List.flatMap_map, List.flatMap_def]
    have : (elemPlaces.filter fun k => m.testBit k).map (fun k => (attrS k).cps.toList) = (elemPlaces.filter fun k => m.testBit k).map fun k => (wAt (fname k)).cps.toList := List.map_congr_left fun k zz => (wAt_attr k).symm
    rw [← this]
  rw [h3 []]
  generalize hP : (elemPlaces.filter fun k => m.testBit k) = pl
  have key : ((if pl.map fname = [] then ([] : List Str) else [Txt.join (Str.ofString "") ((pl.map fname).map wAt)]).flatMap fun x => x.cps.toList) = (pl.map fun k => (wAt (fname k)).cps.toList).flatten := by
    by_cases hn : pl.map fname = []
    · have : pl = [] := List.map_eq_nil_iff.mp hn
      subst this
      rfl
    · rw [if_neg hn]
      show (Txt.join (Str.ofString "") ((pl.map fname).map wAt)).cps.toList ++ [] = _
      rw [joinL, List.append_nil, List.map_map, List.flatMap_map, List.flatMap_def]
      rfl
  rw [List.flatMap_append, List.flatMap_cons, List.flatMap_append, key]
  simp only [List.flatMap_cons, List.flatMap_nil, List.append_nil, Str.cps_append, Array.toList_append]
  rw [← h1, ← h2]
  simp only [List.append_assoc]
theorem written_is (as : List Nat) (b : Nat) : Txt.join (Str.ofString "") (pcs (fnames b 12) (as.map fun a => fnames a 12)) = Txt.join (Str.ofString "") (as.map fun a => elemS (dif a b)) := by
  apply Str.ext'
  apply Array.toList_inj.mp
  rw [joinL, joinL]
  unfold pcs
  induction as with
  | nil => rfl
  | cons a r ih =>
    rw [List.map_cons, List.flatMap_cons, List.flatMap_append, ih, List.map_cons, List.flatMap_cons, leftOf_dif, elem_toList]
theorem dels_eq : ∀ (ws : List Str) (ps : List (Str × Str)), dels ps ws = ps.filter fun p => ws.all fun w => Txt.lower p.1 != Txt.lower w
  | [], ps => by
    show ps = _
    exact (List.filter_eq_self.mpr (by simp)).symm
  | w :: r, ps => by
    show dels (ps.filter fun p => Txt.lower p.1 != Txt.lower w) r = _
    rw [dels_eq r, List.filter_filter]
    apply List.filter_congr
    intro p _
    rw [List.all_cons, Bool.and_comm]
theorem lower_two : ∀ i, i < 12 → ∀ k, k < 12 → (Txt.lower (Txt.lower (fname i)) != Txt.lower (fname k)) = (i != k) := by decide +kernel
theorem lower_all {a i : Nat} (hi : i < 12) : ((fnames a 12).all fun w => Txt.lower (Txt.lower (fname i)) != Txt.lower w) = !a.testBit i := by
  cases hb : a.testBit i with
  | true =>
    rw [Bool.not_true, List.all_eq_false]
    exact ⟨fname i, (mem_fnames hi).mpr hb, by rw [lower_two i hi i hi]; simp⟩
  | false =>
    rw [Bool.not_false, List.all_eq_true]
    intro w hw
    obtain ⟨k, hk, rfl⟩ := List.mem_map.mp hw
    have h2 := List.mem_filter.mp hk
    rw [lower_two i hi k (List.mem_range.mp h2.1)]
    have : i ≠ k := fun e => by subst e; have := h2.2; rw [hb] at this; cases this
    simpa using this
noncomputable def rowsB (bs : List Nat) (a : Nat) : List (Str × Str) := (List.range 4).flatMap fun j => rowOf j (fnames (dif (bs.getD j 0) a) 12)
theorem left_is (bs : List Nat) (a : Nat) : dels (rowsOf (bs.map fun b => fnames b 12)) (fnames a 12) = rowsB bs a := by
  rw [dels_eq]
  unfold rowsOf rowsB
  rw [List.filter_flatMap]
  congr 1
  funext j
  have e0 : (bs.map fun b => fnames b 12).getD j [] = fnames (bs.getD j 0) 12 := by
    rw [List.getD_eq_getElem?_getD, List.getD_eq_getElem?_getD, List.getElem?_map]
    cases bs[j]? with
    | none => exact (fnames_zero 12).symm
    | some b => rfl
  rw [e0]
  generalize bs.getD j 0 = b
  unfold rowOf
  rw [List.filter_map]
  congr 1
  rw [← leftOf_dif]
  unfold leftOf
  apply List.filter_congr
  intro w hw
  obtain ⟨i, hi, rfl⟩ := List.mem_map.mp hw
  have hi := List.mem_range.mp (List.mem_filter.mp hi).1
  show ((fnames a 12).all fun w => Txt.lower (Txt.lower (fname i)) != Txt.lower w) = _
  rw [lower_all hi]
  cases hb : a.testBit i with
  | true => rw [decide_eq_true ((mem_ddK _ _).mpr ((mem_fnames hi).mpr hb))]
  | false => rw [decide_eq_false fun h => by have := (mem_fnames hi).mp ((mem_ddK _ _).mp h); rw [hb] at this; cases this]
end
section
open PySem PySem.Spec PyProof.Rows
theorem and_dif (a : Nat) : ∀ b, (a &&& b) + (a ^^^ (a &&& b)) = a := by
  induction a using Nat.strongRecOn with
  | _ a ih =>
    intro b
    by_cases h0 : a = 0
    · subst h0; simp
    · have h := ih (a / 2) (by omega) (b / 2)
      have e1 : (a &&& b) / 2 = (a / 2) &&& (b / 2) := Nat.and_div_two
      have e2 : (a ^^^ (a &&& b)) / 2 = (a / 2) ^^^ ((a / 2) &&& (b / 2)) := by rw [Nat.xor_div_two, e1]
      have e3 : (a &&& b) % 2 = (a % 2) &&& (b % 2) := Nat.and_mod_two_pow (n := 1)
      have e4 : (a ^^^ (a &&& b)) % 2 = (a % 2) ^^^ ((a &&& b) % 2) := Nat.xor_mod_two_pow (n := 1)
      have e5 : ∀ x, x < 2 → ∀ y, y < 2 → (x &&& y) + (x ^^^ (x &&& y)) = x := by decide
      have h5 := e5 (a % 2) (by omega) (b % 2) (by omega)
      rw [← e3, ← e4] at h5
      rw [← e2, ← e1] at h
      omega
theorem nand_is (a b : Nat) : Builtin.bitAnd (a : Int) (Builtin.bitNot (b : Int)) = ((dif a b : Nat) : Int) := by
  rw [bitAnd_not, bitAnd_pp (Int.natCast_nonneg _) (Int.natCast_nonneg _)]
  have h := and_dif a b
  unfold dif
  rw [Int.toNat_natCast, Int.toNat_natCast]
  omega
end
section
set_option maxRecDepth 100000
set_option linter.unusedVariables false
open PySem PySem.Spec PySem.Calls PyProof.Rows PySem.W
noncomputable def openS (m : Nat) : Str := Str.ofString "<s" ++ Txt.join (Str.ofString "") (elemAttrs m) ++ Str.ofString ">"
noncomputable def endS : Str := Str.ofString "</s>"
theorem elem_open (m : Nat) : (elemS m).cps.toList = (openS m).cps.toList ++ endS.cps.toList := by
  have e : (Str.ofString "></s>").cps.toList = (Str.ofString ">").cps.toList ++ endS.cps.toList := by decide +kernel
  unfold elemS openS
  simp only [Str.cps_append, Array.toList_append]
  rw [e]
  simp only [List.append_assoc]
theorem attr_clean : ∀ k, k < 12 → 47 ∉ (attrS k).cps.toList := by decide +kernel
theorem open_clean (m : Nat) : 47 ∉ (openS m).cps.toList := by
  unfold openS
  simp only [Str.cps_append, Array.toList_append, joinL]
  intro h
  rcases List.mem_append.mp h with h | h
  · rcases List.mem_append.mp h with h | h
    · revert h; decide +kernel
    · obtain ⟨t, ht, h2⟩ := List.mem_flatMap.mp h
      unfold elemAttrs at ht
      obtain ⟨k, hk, rfl⟩ := List.mem_map.mp ht
      have h12 : ∀ k ∈ elemPlaces, k < 12 := by decide
      exact attr_clean k (h12 k (List.mem_filter.mp hk).1) h2
  · revert h; decide +kernel
theorem ends_JL (y : List Nat) : ∀ ps : List (List Nat), JL y (ps ++ [[]]) = ps.flatMap fun p => p ++ y
  | [] => rfl
  | [p] => by
    show p ++ (y ++ []) = (p ++ y) ++ []
    simp
  | p :: q :: r => by
    have ih := ends_JL y (q :: r)
    show p ++ (y ++ JL y ((q :: r) ++ [[]])) = _
    rw [ih, List.flatMap_cons (x := p), List.append_assoc]
theorem text_split (ms : List Nat) : Txt.split (Txt.join (Str.ofString "") (ms.map elemS)) endS = ms.map openS ++ [Str.empty] := by
  have e : Txt.join (Str.ofString "") (ms.map elemS) = Str.join endS (ms.map openS ++ [Str.empty]) := by
    apply Str.ext'
    apply Array.toList_inj.mp
    rw [joinL, join_toList, List.map_append, List.map_map, List.flatMap_map]
    show _ = JL _ (_ ++ [[]])
    rw [ends_JL, List.flatMap_map]
    congr 1
    funext m
    exact elem_open m
  rw [e]
  refine split_join_of (k := 1) (c := 47) (by simp) (by decide +kernel) ?_ ?_ (by decide +kernel)
  · intro j h
    have : endS.cps.toList = [60, 47, 115, 62] := by decide +kernel
    rw [this] at h
    match j, h with
    | 0, h => cases h
    | 1, _ => rfl
    | 2, h => cases h
    | 3, h => cases h
  · intro p hp
    rcases List.mem_append.mp hp with hp | hp
    · obtain ⟨m, _, rfl⟩ := List.mem_map.mp hp
      exact open_clean m
    · cases List.mem_singleton.mp hp
      decide +kernel
open PySem PySem.Spec PySem.Calls PyProof.Rows PySem.W
noncomputable def opensAll (as bs : List Nat) : List Str := bs.flatMap fun b => as.map fun a => openS (dif a b)
noncomputable def opF (as : List Nat) (bs : List Nat) : AV → List AV
  | .str t => ((Txt.split t endS).dropLast).map .str
  | _ => []
theorem opF_flat (as bs : List Nat) : ((bs.map fun b => Txt.join (Str.ofString "") (as.map fun a => elemS (dif a b))).map AV.str).flatMap (opF as bs) = (opensAll as bs).map .str := by
  unfold opensAll
  rw [List.flatMap_map, List.flatMap_map, List.map_flatMap]
  congr 1
  funext b
  show ((Txt.split (Txt.join (Str.ofString "") (as.map fun a => elemS (dif a b))) endS).dropLast).map AV.str = _
  have e : (as.map fun a => elemS (dif a b)) = (as.map fun a => dif a b).map elemS := by rw [List.map_map]; rfl
  rw [e, text_split, List.dropLast_concat, List.map_map]
  simp only [List.map_map, Function.comp_def]
theorem openS_length (m : Nat) : (openS m).length ≤ 300 := by
  unfold openS
  rw [str_len_append, str_len_append]
  have h1 := join_length (Str.ofString "") (elemAttrs m)
  have h2 := elemAttrs_sum m
  have h3 : (Str.ofString "").length = 0 := by decide
  have h4 : (Str.ofString "<s").length = 2 := by decide
  have h5 : (Str.ofString ">").length = 1 := by decide
  rw [h3] at h1
  omega
end
section
set_option maxRecDepth 100000
set_option linter.unusedVariables false
open PySem PySem.Spec PySem.Calls PyProof.Rows PySem.W Builtin Builtin.Str
theorem lower_list {t : Str} (h : noCtl t) : (Txt.lower t).cps.toList = t.cps.toList.map lo1 := by
  have e := lower_ascii (x := t) fun c hc => by have := h c hc; omega
  have e2 : Txt.lower t = Str.mk (t.cps.map lo1) := e
  rw [e2, ← Array.toList_map]
theorem lo1_range : ∀ c, c < 127 → 32 ≤ c → 32 ≤ lo1 c ∧ lo1 c < 127 := by decide +kernel
theorem noCtl_lower {t : Str} (h : noCtl t) : noCtl (Txt.lower t) := by
  intro c hc
  rw [lower_list h] at hc
  obtain ⟨d, hd, rfl⟩ := List.mem_map.mp hc
  exact lo1_range d (h d hd).2 (h d hd).1
theorem lower_len {t : Str} (h : noCtl t) : (Txt.lower t).length = t.length := by
  have e := congrArg List.length (lower_list h)
  rw [List.length_map] at e
  simpa [Str.length] using e
theorem noCtl_app {a b : Str} (ha : noCtl a) (hb : noCtl b) : noCtl (a ++ b) := by
  intro c hc
  rw [Str.cps_append, Array.toList_append, List.mem_append] at hc
  exact hc.elim (ha c) (hb c)
theorem attr_noCtl : ∀ k, k < 12 → noCtl (attrS k) := by decide +kernel
theorem open_noCtl (m : Nat) : noCtl (openS m) := by
  unfold openS
  refine noCtl_app (noCtl_app (by decide +kernel) ?_) (by decide +kernel)
  intro c hc
  rw [joinL] at hc
  obtain ⟨t, ht, h2⟩ := List.mem_flatMap.mp hc
  unfold elemAttrs at ht
  obtain ⟨k, hk, rfl⟩ := List.mem_map.mp ht
  have h12 : ∀ k ∈ elemPlaces, k < 12 := by decide
  exact attr_noCtl k (h12 k (List.mem_filter.mp hk).1) c h2
open PySem PySem.Spec PySem.Calls PyProof.Rows PySem.W
theorem opensAll_len {as bs : List Nat} (ha : as.length = 4) (hb : bs.length = 4) : (opensAll as bs).length = 16 := by
  match as, ha, bs, hb with
  | [_, _, _, _], _, [_, _, _, _], _ => rfl
theorem opensAll_mem {as bs : List Nat} {t : Str} (h : t ∈ opensAll as bs) : ∃ m, t = openS m := by
  unfold opensAll at h
  obtain ⟨b, _, h2⟩ := List.mem_flatMap.mp h
  obtain ⟨a, _, rfl⟩ := List.mem_map.mp h2
  exact ⟨_, rfl⟩
end
section
set_option maxRecDepth 100000
set_option linter.unusedVariables false
open PySem PySem.Spec PySem.Calls PyProof.Rows PySem.W Builtin Builtin.Str
theorem takeW {c : Nat} {u r : List Nat} (hu : c ∉ u) (hr : r = [] ∨ ∃ t, r = c :: t) : (u ++ r).takeWhile (fun x => x != c) = u ∧ (u ++ r).dropWhile (fun x => x != c) = r := by
  induction u with
  | nil =>
    rcases hr with rfl | ⟨t, rfl⟩
    · exact ⟨rfl, rfl⟩
    · simp
  | cons a u ih =>
    have ha : (a != c) = true := by
      simp only [bne_iff_ne, ne_eq]
      exact fun e => hu (by rw [e]; exact List.mem_cons_self)
    have := ih fun h => hu (List.mem_cons_of_mem _ h)
    rw [List.cons_append, List.takeWhile_cons, List.dropWhile_cons, ha]
    exact ⟨by simp [this.1], by simp [this.2]⟩
theorem flat_start {c : Nat} (u : Nat → List Nat) (l : List Nat) : (l.flatMap fun k => c :: u k) = [] ∨ ∃ t, (l.flatMap fun k => c :: u k) = c :: t := by
  cases l with
  | nil => exact .inl rfl
  | cons a r => exact .inr ⟨_, by rw [List.flatMap_cons, List.cons_append]⟩
theorem flat_dec {c : Nat} (u : Nat → List Nat) : ∀ l l' : List Nat, (∀ k ∈ l, c ∉ u k) → (∀ k ∈ l', c ∉ u k) → (l.flatMap fun k => c :: u k) = (l'.flatMap fun k => c :: u k) → l.map u = l'.map u
  | [], [], _, _, _ => rfl
  | [], _ :: _, _, _, h => by rw [List.flatMap_nil, List.flatMap_cons, List.cons_append] at h; cases h
  | _ :: _, [], _, _, h => by rw [List.flatMap_nil, List.flatMap_cons, List.cons_append] at h; cases h
  | a :: l, b :: l', h1, h2, h => by
    rw [List.flatMap_cons, List.flatMap_cons, List.cons_append, List.cons_append] at h
    have h := (List.cons.inj h).2
    have ta := takeW (h1 a List.mem_cons_self) (flat_start u l)
    have tb := takeW (h2 b List.mem_cons_self) (flat_start u l')
    rw [h] at ta
    have e1 := ta.1.symm.trans tb.1
    have e2 := ta.2.symm.trans tb.2
    rw [List.map_cons, List.map_cons, e1, flat_dec u l l' (fun k hk => h1 k (List.mem_cons_of_mem _ hk)) (fun k hk => h2 k (List.mem_cons_of_mem _ hk)) e2]
theorem map_inj_on {α β : Type} {f : α → β} : ∀ {l l' : List α}, (∀ a ∈ l, ∀ b ∈ l', f a = f b → a = b) → l.map f = l'.map f → l = l'
  | [], [], _, _ => rfl
  | [], _ :: _, _, h => by cases h
  | _ :: _, [], _, h => by cases h
  | a :: l, b :: l', hf, h => by
    rw [List.map_cons, List.map_cons] at h
    obtain ⟨h1, h2⟩ := List.cons.inj h
    rw [hf a List.mem_cons_self b List.mem_cons_self h1, map_inj_on (fun a ha b hb => hf a (List.mem_cons_of_mem _ ha) b (List.mem_cons_of_mem _ hb)) h2]
theorem bits12 {m m' : Nat} (hm : m < 4096) (hm' : m' < 4096) (h : ∀ i, i < 12 → m.testBit i = m'.testBit i) : m = m' := eq_of_bits fun i => by
  rcases Nat.lt_or_ge i 12 with hi | hi
  · exact h i hi
  · rw [low_bit (n := 12) (by simpa using hm) hi, low_bit (n := 12) (by simpa using hm') hi]
theorem filter_bits {l : List Nat} (hl : ∀ i, i < 12 → i ∈ l) {m m' : Nat} (hm : m < 4096) (hm' : m' < 4096) (h : (l.filter fun k => m.testBit k) = l.filter fun k => m'.testBit k) : m = m' := bits12 hm hm' fun i hi => by
  have e : i ∈ (l.filter fun k => m.testBit k) ↔ i ∈ l.filter fun k => m'.testBit k := by rw [h]
  rw [List.mem_filter, List.mem_filter] at e
  have hi := hl i hi
  cases h1 : m.testBit i <;> cases h2 : m'.testBit i <;> simp [h1, h2, hi] at e ⊢
noncomputable def attU (k : Nat) : List Nat := ((attrS k).cps.toList.map lo1).tail
theorem attU_at : ∀ k, k < 12 → (attrS k).cps.toList.map lo1 = 32 :: attU k ∧ 32 ∉ attU k := by decide +kernel
theorem attU_inj : ∀ a, a < 12 → ∀ b, b < 12 → attU a = attU b → a = b := by decide +kernel
theorem places_lt : ∀ k ∈ elemPlaces, k < 12 := by decide
theorem places_all : ∀ i, i < 12 → i ∈ elemPlaces := by decide
theorem open_list (m : Nat) : (Txt.lower (openS m)).cps.toList = ((Str.ofString "<s").cps.toList.map lo1) ++ (((elemPlaces.filter fun k => m.testBit k).flatMap fun k => 32 :: attU k) ++ ((Str.ofString ">").cps.toList.map lo1)) := by
  rw [lower_list (open_noCtl m)]
  unfold openS
  simp only [Str.cps_append, Array.toList_append, List.map_append, List.append_assoc]
  rw [joinL]
  unfold elemAttrs
  rw [List.flatMap_map, List.map_flatMap]
  congr 2
  have : ∀ l : List Nat, (∀ k ∈ l, k < 12) → (l.flatMap fun a => (attrS a).cps.toList.map lo1) = l.flatMap fun k => 32 :: attU k := by
    intro l
    induction l with
    | nil => intro _; rfl
    | cons a r ih =>
      intro h
      rw [List.flatMap_cons, List.flatMap_cons, ih fun k hk => h k (List.mem_cons_of_mem _ hk), (attU_at a (h a List.mem_cons_self)).1]
  exact this _ fun k hk => places_lt k (List.mem_filter.mp hk).1
theorem open_inj {m m' : Nat} (hm : m < 4096) (hm' : m' < 4096) (h : Txt.lower (openS m) = Txt.lower (openS m')) : m = m' := by
  have h := congrArg (fun t : Str => t.cps.toList) h
  rw [open_list, open_list] at h
  have h := List.append_cancel_right (List.append_cancel_left h)
  have hp : ∀ m, ∀ k ∈ elemPlaces.filter fun k => Nat.testBit m k, k < 12 := fun m k hk => places_lt k (List.mem_filter.mp hk).1
  have h := flat_dec attU _ _ (fun k hk => (attU_at k (hp m k hk)).2) (fun k hk => (attU_at k (hp m' k hk)).2) h
  exact filter_bits places_all hm hm' (map_inj_on (fun a ha b hb => attU_inj a (hp m a ha) b (hp m' b hb)) h)
noncomputable def rowT (m : Nat) : Str := Txt.join (Str.ofString ", ") ((fnames m 12).map Txt.lower)
noncomputable def wordU (k : Nat) : List Nat := 32 :: ((Txt.lower (fname k)).cps.toList.map lo1)
theorem wordU_at : ∀ k, k < 12 → 44 ∉ wordU k := by decide +kernel
theorem wordU_inj : ∀ a, a < 12 → ∀ b, b < 12 → wordU a = wordU b → a = b := by decide +kernel
theorem fl_noCtl : ∀ k, k < 12 → noCtl (Txt.lower (fname k)) := by decide +kernel
theorem JL_mem (y : List Nat) : ∀ ps : List (List Nat), ∀ c ∈ JL y ps, c ∈ y ∨ ∃ p ∈ ps, c ∈ p
  | [], c, h => by cases h
  | [p], c, h => .inr ⟨p, List.mem_cons_self, h⟩
  | p :: q :: r, c, h => by
    rcases List.mem_append.mp h with h | h
    · exact .inr ⟨p, List.mem_cons_self, h⟩
    · rcases List.mem_append.mp h with h | h
      · exact .inl h
      · rcases JL_mem y (q :: r) c h with h | ⟨x, hx, h⟩
        · exact .inl h
        · exact .inr ⟨x, List.mem_cons_of_mem _ hx, h⟩
theorem rowT_list (m : Nat) : (rowT m).cps.toList = JL (Str.ofString ", ").cps.toList (((fnames m 12).map Txt.lower).map fun p => p.cps.toList) := by
  unfold rowT
  have e : Txt.join (Str.ofString ", ") ((fnames m 12).map Txt.lower) = Str.join (Str.ofString ", ") ((fnames m 12).map Txt.lower) := StrLaws.glued_eq_join _ _
  rw [e, join_toList]
theorem rowT_noCtl (m : Nat) : noCtl (rowT m) := by
  intro c hc
  rw [rowT_list] at hc
  rcases JL_mem _ _ c hc with h | ⟨p, hp, h⟩
  · have : ∀ c ∈ (Str.ofString ", ").cps.toList, 32 ≤ c ∧ c < 127 := by decide +kernel
    exact this c h
  · obtain ⟨w, hw, rfl⟩ := List.mem_map.mp hp
    obtain ⟨v, hv, rfl⟩ := List.mem_map.mp hw
    exact fnames_all (P := fun w => noCtl (Txt.lower w)) fl_noCtl m v hv c h
theorem JL_flat {y : List Nat} (f : Nat → Nat) : ∀ ps : List (List Nat), ps ≠ [] → y.map f ++ (JL y ps).map f = ps.flatMap fun p => y.map f ++ p.map f
  | [], h => absurd rfl h
  | [p], _ => by simp [JL]
  | p :: q :: r, _ => by
    have ih := JL_flat (y := y) f (q :: r) (by simp)
    rw [List.flatMap_cons, ← ih]
    simp [JL]
theorem row_low (m : Nat) (h0 : (fnames m 12) ≠ []) : 44 :: 32 :: (Txt.lower (rowT m)).cps.toList = ((List.range 12).filter fun k => m.testBit k).flatMap fun k => 44 :: wordU k := by
  rw [lower_list (rowT_noCtl m), rowT_list]
  have hy : (Str.ofString ", ").cps.toList.map lo1 = [44, 32] := by decide +kernel
  have h := JL_flat (y := (Str.ofString ", ").cps.toList) lo1 (((fnames m 12).map Txt.lower).map fun p => p.cps.toList) (by simpa using h0)
  rw [hy] at h
  refine (show (44 :: 32 :: _ : List Nat) = [44, 32] ++ _ from rfl).trans (h.trans ?_)
  unfold fnames
  rw [List.flatMap_map, List.flatMap_map, List.flatMap_map]
  rfl
theorem row_empty (m : Nat) (h0 : (fnames m 12) = []) : (Txt.lower (rowT m)).cps.toList = [] := by
  rw [lower_list (rowT_noCtl m), rowT_list, h0]
  rfl
theorem names_zero {m : Nat} (hm : m < 4096) (h0 : fnames m 12 = []) : m = 0 := Classical.byContradiction fun h => fnames_ne hm h h0
theorem word_ne : ∀ k, k < 12 → (Txt.lower (fname k)).cps.toList.length ≠ 0 := by decide +kernel
theorem row_inj {m m' : Nat} (hm : m < 4096) (hm' : m' < 4096) (h : Txt.lower (rowT m) = Txt.lower (rowT m')) : m = m' := by
  have h := congrArg (fun t : Str => t.cps.toList) h
  have hp : ∀ m, ∀ k ∈ (List.range 12).filter fun k => Nat.testBit m k, k < 12 := fun m k hk => List.mem_range.mp (List.mem_filter.mp hk).1
  have one : ∀ m, (fnames m 12) ≠ [] → (Txt.lower (rowT m)).cps.toList ≠ [] := fun m h0 e => by
    have h1 := row_low m h0
    rw [e] at h1
    unfold fnames at h0
    cases hl : (List.range 12).filter fun k => m.testBit k with
    | nil => rw [hl] at h0; exact h0 rfl
    | cons a r =>
      rw [hl, List.flatMap_cons] at h1
      have ha := hp m a (by rw [hl]; exact List.mem_cons_self)
      have h2 := congrArg List.length h1
      have h3 := word_ne a ha
      simp only [wordU, List.length_append, List.length_cons, List.length_map, List.length_nil] at h2
      omega
  by_cases a0 : fnames m 12 = []
  · by_cases b0 : fnames m' 12 = []
    · rw [names_zero hm a0, names_zero hm' b0]
    · rw [row_empty m a0] at h
      exact absurd h.symm (one m' b0)
  · by_cases b0 : fnames m' 12 = []
    · rw [row_empty m' b0] at h
      exact absurd h (one m a0)
    · have h1 := row_low m a0
      rw [h, row_low m' b0] at h1
      have h2 := flat_dec wordU _ _ (fun k hk => wordU_at k (hp m' k hk)) (fun k hk => wordU_at k (hp m k hk)) h1
      exact (filter_bits (fun i hi => List.mem_range.mpr hi) hm' hm (map_inj_on (fun a ha b hb => wordU_inj a (hp m' a ha) b (hp m b hb)) h2)).symm
theorem uniq_map {f : Nat → Str} : ∀ ms : List Nat, (∀ a ∈ ms, ∀ b ∈ ms, Txt.lower (f a) = Txt.lower (f b) → a = b) → uniqL (ms.map f) = (ddK ms).map f := by
  have h : ∀ ms acc : List Nat, (∀ a, a ∈ acc ∨ a ∈ ms → ∀ b, b ∈ acc ∨ b ∈ ms → Txt.lower (f a) = Txt.lower (f b) → a = b) → (ms.map f).foldl uAdd (acc.map f) = (ms.foldl addK acc).map f := by
    intro ms
    induction ms with
    | nil => intro acc _; rfl
    | cons m r ih =>
      intro acc h
      have e : uAdd (acc.map f) (f m) = (addK acc m).map f := by
        unfold uAdd addK
        have q : ((acc.map f).any fun a => Txt.lower a == Txt.lower (f m)) = decide (m ∈ acc) := by
          by_cases hm : m ∈ acc
          · rw [decide_eq_true hm, List.any_eq_true]
            exact ⟨f m, List.mem_map_of_mem hm, by simp⟩
          · rw [decide_eq_false hm, List.any_eq_false]
            intro x hx he
            obtain ⟨a, ha, rfl⟩ := List.mem_map.mp hx
            have := h a (.inl ha) m (.inr List.mem_cons_self) (by simpa using he)
            exact hm (this ▸ ha)
        rw [q]
        by_cases hm : m ∈ acc <;> simp [hm]
      rw [List.map_cons, List.foldl_cons, List.foldl_cons, e]
      refine ih _ fun a ha b hb => h a ?_ b ?_
      · rcases ha with ha | ha
        · rcases mem_addK.mp ha with ha | rfl
          · exact .inl ha
          · exact .inr List.mem_cons_self
        · exact .inr (List.mem_cons_of_mem _ ha)
      · rcases hb with hb | hb
        · rcases mem_addK.mp hb with hb | rfl
          · exact .inl hb
          · exact .inr List.mem_cons_self
        · exact .inr (List.mem_cons_of_mem _ hb)
  exact fun ms hm => h ms [] fun a ha b hb => hm a (ha.resolve_left fun h => by cases h) b (hb.resolve_left fun h => by cases h)
theorem ddK_of_nodup {K : Type} [DecidableEq K] : ∀ l : List K, l.Nodup → ddK l = l := by
  have h : ∀ l acc : List K, (acc ++ l).Nodup → l.foldl addK acc = acc ++ l := by
    intro l
    induction l with
    | nil => intro acc _; simp
    | cons a r ih =>
      intro acc h
      have h1 : a ∉ acc := fun hm => by
        have := List.nodup_append.mp h
        exact this.2.2 a hm a List.mem_cons_self rfl
      have e : addK acc a = acc ++ [a] := by unfold addK; rw [if_neg h1]
      rw [List.foldl_cons, e, ih _ (by simpa using h)]
      simp
  exact fun l hl => by have := h l [] (by simpa using hl); simpa [ddK] using this
theorem uniq_nodup {f : Nat → Str} {ms : List Nat} (h : ∀ a ∈ ms, ∀ b ∈ ms, Txt.lower (f a) = Txt.lower (f b) → a = b) : ddK (uniqL (ms.map f)) = uniqL (ms.map f) := by
  refine ddK_of_nodup _ ?_
  rw [uniq_map ms h]
  have : (ddK ms).Pairwise (fun a b => a ≠ b ∧ a ∈ ms ∧ b ∈ ms) := List.Pairwise.imp_of_mem (fun ha hb h => ⟨h, (mem_ddK ms _).mp ha, (mem_ddK ms _).mp hb⟩) (ddK_nodup ms)
  exact List.Pairwise.map _ (fun a b q e => q.1 (h a q.2.1 b q.2.2 (by rw [e]))) this
theorem ddK_int (ms : List Nat) : (ddK (ms.map fun (m : Nat) => (m : Int))).length = (ddK ms).length := by
  have h : ∀ ms acc : List Nat, (ms.map fun (m : Nat) => (m : Int)).foldl addK (acc.map fun (m : Nat) => (m : Int)) = (ms.foldl addK acc).map fun (m : Nat) => (m : Int) := by
    intro ms
    induction ms with
    | nil => intro acc; rfl
    | cons m r ih =>
      intro acc
      have e : addK (acc.map fun (m : Nat) => (m : Int)) (m : Int) = (addK acc m).map fun (m : Nat) => (m : Int) := by
        unfold addK
        by_cases hm : m ∈ acc
        · rw [if_pos hm, if_pos (List.mem_map_of_mem (f := fun (m : Nat) => (m : Int)) hm)]
        · rw [if_neg hm, if_neg fun q => by
            obtain ⟨a, ha, e⟩ := List.mem_map.mp q
            have : a = m := Int.ofNat.inj e
            exact hm (this ▸ ha)]
          simp
      rw [List.map_cons, List.foldl_cons, List.foldl_cons, e]
      exact ih _
  have := h ms []
  unfold ddK
  rw [show ([] : List Int) = ([] : List Nat).map fun (m : Nat) => (m : Int) from rfl, this, List.length_map]
noncomputable def difsC (as bs : List Nat) : List Nat := bs.flatMap fun b => as.map fun a => dif a b
noncomputable def difsD (as bs : List Nat) : List Nat := as.flatMap fun a => bs.map fun b => dif b a
noncomputable def rowsAll (as bs : List Nat) : List Str := as.flatMap fun a => bs.map fun b => rowT (dif b a)
theorem opens_difs (as bs : List Nat) : opensAll as bs = (difsC as bs).map openS := by
  unfold opensAll difsC
  rw [List.map_flatMap]
  simp only [List.map_map, Function.comp_def]
theorem rows_difs (as bs : List Nat) : rowsAll as bs = (difsD as bs).map rowT := by
  unfold rowsAll difsD
  rw [List.map_flatMap]
  simp only [List.map_map, Function.comp_def]
theorem dif_small {a b : Nat} (h : a < 4096) : dif a b < 4096 := dif_lt (n := 12) (by simpa using h)
section
variable {as bs : List Nat} (hA : ∀ a ∈ as, a < 4096) (hB : ∀ b ∈ bs, b < 4096)
include hA in
theorem difsC_lt : ∀ m ∈ difsC as bs, m < 4096 := fun m h => by
  obtain ⟨b, _, h2⟩ := List.mem_flatMap.mp h
  obtain ⟨a, ha, rfl⟩ := List.mem_map.mp h2
  exact dif_small (hA a ha)
include hB in
theorem difsD_lt : ∀ m ∈ difsD as bs, m < 4096 := fun m h => by
  obtain ⟨a, _, h2⟩ := List.mem_flatMap.mp h
  obtain ⟨b, hb, rfl⟩ := List.mem_map.mp h2
  exact dif_small (hB b hb)
include hA in
theorem uniq_opens : uniqL (opensAll as bs) = (ddK (difsC as bs)).map openS ∧ ddK (uniqL (opensAll as bs)) = uniqL (opensAll as bs) := by
  have h : ∀ a ∈ difsC as bs, ∀ b ∈ difsC as bs, Txt.lower (openS a) = Txt.lower (openS b) → a = b := fun a ha b hb => open_inj (difsC_lt hA a ha) (difsC_lt hA b hb)
  rw [opens_difs]
  exact ⟨uniq_map _ h, uniq_nodup h⟩
include hB in
theorem uniq_rows : uniqL (rowsAll as bs) = (ddK (difsD as bs)).map rowT ∧ ddK (uniqL (rowsAll as bs)) = uniqL (rowsAll as bs) := by
  have h : ∀ a ∈ difsD as bs, ∀ b ∈ difsD as bs, Txt.lower (rowT a) = Txt.lower (rowT b) → a = b := fun a ha b hb => row_inj (difsD_lt hB a ha) (difsD_lt hB b hb)
  rw [rows_difs]
  exact ⟨uniq_map _ h, uniq_nodup h⟩
include hA hB in
theorem plain_law : (ddK as).length * (ddK bs).length ≤ (uniqL (opensAll as bs)).length * (uniqL (rowsAll as bs)).length := by
  rw [(uniq_opens hA).1, (uniq_rows hB).1, List.length_map, List.length_map]
  refine ahlswede (n := 12) (by simpa using hA) (by simpa using hB) (fun a ha b hb => ?_) (fun a ha b hb => ?_) (by simpa using difsC_lt hA) (by simpa using difsD_lt hB)
  · exact List.mem_flatMap.mpr ⟨b, hb, List.mem_map.mpr ⟨a, ha, rfl⟩⟩
  · exact List.mem_flatMap.mpr ⟨a, ha, List.mem_map.mpr ⟨b, hb, rfl⟩⟩
end
theorem jS_inj : ∀ i, i < 4 → ∀ j, j < 4 → (jS i == jS j) = (i == j) := by decide +kernel
theorem row_of (bs : List Nat) (a j : Nat) (hj : j < 4) : ((rowsB bs a).filter fun p => p.2 == jS j).map (fun zz => zz.1) = (fnames (dif (bs.getD j 0) a) 12).map Txt.lower := by
  unfold rowsB
  rw [List.filter_flatMap, List.map_flatMap]
  have one : ∀ i, i < 4 → ((rowOf i (fnames (dif (bs.getD i 0) a) 12)).filter fun p => p.2 == jS j).map (fun zz => zz.1) = if i = j then (fnames (dif (bs.getD j 0) a) 12).map Txt.lower else [] := by
    intro i hi
    by_cases h : i = j
    · subst h
      rw [if_pos rfl]
      unfold rowOf
      rw [List.filter_eq_self.mpr fun p hp => by obtain ⟨w, _, rfl⟩ := List.mem_map.mp hp; simp, List.map_map]
      rfl
    · rw [if_neg h]
      unfold rowOf
      rw [List.filter_eq_nil_iff.mpr fun p hp => by
        obtain ⟨w, _, rfl⟩ := List.mem_map.mp hp
        rw [jS_inj i hi j hj]
        simpa using h]
      rfl
  have e : (List.range 4).flatMap (fun i => ((rowOf i (fnames (dif (bs.getD i 0) a) 12)).filter fun p => p.2 == jS j).map (fun zz => zz.1)) = (List.range 4).flatMap fun i => if i = j then (fnames (dif (bs.getD j 0) a) 12).map Txt.lower else [] := by
    have : ∀ l : List Nat, (∀ i ∈ l, i < 4) → l.flatMap (fun i => ((rowOf i (fnames (dif (bs.getD i 0) a) 12)).filter fun p => p.2 == jS j).map (fun zz => zz.1)) = l.flatMap fun i => if i = j then (fnames (dif (bs.getD j 0) a) 12).map Txt.lower else [] := by
      intro l
      induction l with
      | nil => intro _; rfl
      | cons x r ih => intro h; rw [List.flatMap_cons, List.flatMap_cons, ih fun i hi => h i (List.mem_cons_of_mem _ hi), one x (h x List.mem_cons_self)]
    exact this _ fun i hi => List.mem_range.mp hi
  rw [e]
  generalize (fnames (dif (bs.getD j 0) a) 12).map Txt.lower = z
  match j, hj with
  | 0, _ => simp [List.range, List.range.loop]
  | 1, _ => simp [List.range, List.range.loop]
  | 2, _ => simp [List.range, List.range.loop]
  | 3, _ => simp [List.range, List.range.loop]
theorem rowT_length (m : Nat) : (rowT m).length ≤ 500 := by
  unfold rowT
  have h1 := join_length (Str.ofString ", ") ((fnames m 12).map Txt.lower)
  have h2 : (Str.ofString ", ").length = 2 := by decide
  have h3 := fnames_length m 12
  have h4 : ∀ k, k < 12 → (Txt.lower (fname k)).length ≤ 18 := by decide +kernel
  have h5 := sum_le_of (fun x : Str => x.length) 18 ((fnames m 12).map Txt.lower) fun x hx => by
    obtain ⟨w, hw, rfl⟩ := List.mem_map.mp hx
    exact fnames_all (P := fun w => (Txt.lower w).length ≤ 18) h4 m w hw
  rw [List.length_map] at h1 h5
  rw [h2] at h1
  omega
theorem rowsAll_len {as bs : List Nat} (ha : as.length = 4) (hb : bs.length = 4) : (rowsAll as bs).length = 16 := by
  match as, ha, bs, hb with
  | [_, _, _, _], _, [_, _, _, _], _ => rfl
theorem rowsAll_mem {as bs : List Nat} {t : Str} (h : t ∈ rowsAll as bs) : ∃ m, t = rowT m := by
  unfold rowsAll at h
  obtain ⟨b, _, h2⟩ := List.mem_flatMap.mp h
  obtain ⟨a, _, rfl⟩ := List.mem_map.mp h2
  exact ⟨_, rfl⟩
open PySem PySem.Spec PySem.Calls PyProof.Rows PySem.W Builtin Builtin.Str
noncomputable def pickF (j : Nat) : AV → List AV
  | .tup [.str a, .str b] => if (b == jS j) = true then [.str a] else []
  | _ => []
theorem pickF_flat (j : Nat) : ∀ ps : List (Str × Str), (ps.map pairT).flatMap (pickF j) = ((ps.filter fun p => p.2 == jS j).map (fun zz => zz.1)).map .str
  | [] => rfl
  | p :: r => by
    rw [List.map_cons, List.flatMap_cons, pickF_flat j r, List.filter_cons]
    show (if (p.2 == jS j) = true then [AV.str p.1] else []) ++ _ = _
    by_cases h : (p.2 == jS j) = true <;> simp [h]
theorem pickF_le (j : Nat) (x : AV) : (pickF j x).length ≤ 1 := by
  unfold pickF
  split
  · split <;> simp
  · simp
noncomputable def asStr : AV → Option Str
  | .str a => some a
  | _ => none
noncomputable def pickS (j : Nat) (xs : List AV) : List Str := (xs.flatMap (pickF j)).filterMap asStr
theorem pickS_is (j : Nat) (ps : List (Str × Str)) : pickS j (ps.map pairT) = (ps.filter fun p => p.2 == jS j).map (fun zz => zz.1) := by
  unfold pickS
  rw [pickF_flat]
  generalize (ps.filter fun p => p.2 == jS j).map (fun zz => zz.1) = l
  induction l with
  | nil => rfl
  | cons a r ih => rw [List.map_cons, List.filterMap_cons_some (f := asStr) (a := .str a) (b := a) rfl, ih]
noncomputable def rowF : AV → List AV
  | .lst xs => (List.range 4).map fun j => .str (Txt.join (Str.ofString ", ") (pickS j xs))
  | _ => []
noncomputable def rowJ (xs : List AV) : AV → List AV
  | .int j => [.str (Txt.join (Str.ofString ", ") (pickS j.toNat xs))]
  | _ => []
theorem rowJ_flat (xs : List AV) : (nums 4).flatMap (rowJ xs) = rowF (.lst xs) := rfl
theorem rowF_one (bs : List Nat) (a : Nat) (hb : bs.length = 4) : rowF (.lst ((rowsB bs a).map pairT)) = (bs.map fun b => rowT (dif b a)).map .str := by
  have e : rowF (.lst ((rowsB bs a).map pairT)) = (List.range 4).map fun j => AV.str (rowT (dif (bs.getD j 0) a)) := by
    show (List.range 4).map (fun j => AV.str (Txt.join (Str.ofString ", ") (pickS j ((rowsB bs a).map pairT)))) = _
    apply List.map_congr_left
    intro j hj
    rw [pickS_is, row_of bs a j (List.mem_range.mp hj)]
    rfl
  rw [e]
  match bs, hb with
  | [_, _, _, _], _ => rfl
theorem rowF_flat (as bs : List Nat) (hb : bs.length = 4) : (as.map fun a => AV.lst ((rowsB bs a).map pairT)).flatMap rowF = (rowsAll as bs).map .str := by
  unfold rowsAll
  rw [List.flatMap_map, List.map_flatMap]
  congr 1
  funext a
  exact rowF_one bs a hb
end
section
open PySem PySem.Spec PySem.Calls PySem.W PyProof.Rows
set_option maxRecDepth 100000
set_option maxHeartbeats 8000000
set_option linter.unusedVariables false
set_option pp.deepTerms false
set_option pp.deepTerms.threshold 8
noncomputable def txtF : AV → List AV
  | .str t => [strsL ((Txt.split t (Str.ofString ", ")).filter notNull)]
  | _ => []
theorem txtF_flat : ∀ ms : List Nat, (∀ m ∈ ms, m < 4096) → ((ms.map prettyS).map .str).flatMap txtF = (ms.map fun m => fnames m 12).map strsL
  | [], _ => rfl
  | m :: r, h => by
    rw [List.map_cons, List.map_cons, List.flatMap_cons, txtF_flat r fun x hx => h x (List.mem_cons_of_mem _ hx)]
    show strsL ((Txt.split (prettyS m) (Str.ofString ", ")).filter notNull) :: _ = _
    rw [words_of (h m List.mem_cons_self)]
    rfl
theorem names_ok : ∀ i, i < 12 → noCut (Str.ofString "}") (fname i) = true ∧ Txt.slice (fname i) none (some 1) ≠ Str.ofString "{" ∧ (fname i).length ≤ 100 ∧ sS ≠ fname i := by decide +kernel
theorem fnames_nodup (m : Nat) : (fnames m 12).Nodup := by
  unfold fnames
  refine List.Pairwise.map _ (R := fun i j => i ≠ j ∧ i < 12 ∧ j < 12) (fun i j h e => h.1 (fname_inj i h.2.1 j h.2.2 e)) ?_
  have h1 : ((List.range 12).filter fun i => m.testBit i).Pairwise (· ≠ ·) := List.nodup_range.filter _
  refine List.Pairwise.imp_of_mem (fun ha hb h => ⟨h, List.mem_range.mp (List.mem_filter.mp ha).1, List.mem_range.mp (List.mem_filter.mp hb).1⟩) h1
theorem fnames_nm (m : Nat) : ∀ w ∈ fnames m 12, NmOk w := fnames_all (P := NmOk) (fun i hi => let ⟨a, b, c, _⟩ := names_ok i hi; ⟨a, b, c⟩) m
theorem names_word : ∀ i, i < 12 → noCtl (fname i) ∧ noCtl (Txt.lower (fname i)) ∧ (fname i).length ≤ 100 ∧ (Txt.lower (fname i)).length ≤ 100 ∧ (Txt.lower (Txt.lower (fname i))).length ≤ 100 := by decide +kernel
theorem fnames_word (m : Nat) : ∀ w ∈ fnames m 12, WordOk w := fnames_all (P := WordOk) (fun i hi => let ⟨a, b, c, d, e⟩ := names_word i hi; ⟨a, b, c, d, e⟩) m
theorem fnames_s (m : Nat) : sS ∉ fnames m 12 := fun h => fnames_all (P := fun w => sS ≠ w) (fun i hi => (names_ok i hi).2.2.2) m sS h rfl
theorem sum_le : ∀ (l : List Str) (k : Nat), (∀ x ∈ l, x.length ≤ k) → (l.map (·.length)).sum ≤ l.length * k
  | [], _, _ => Nat.zero_le _
  | x :: r, k, h => by
    have h1 := sum_le r k fun y hy => h y (List.mem_cons_of_mem _ hy)
    have h2 := h x List.mem_cons_self
    rw [List.map_cons, List.sum_cons, List.length_cons, Nat.succ_mul]
    omega
noncomputable def tabF (bs : List Nat) (a : Nat) : AV → List AV
  | .int j => (rowOf j.toNat (fnames (dif (bs.getD j.toNat 0) a) 12)).map pairT
  | _ => []
theorem tabF_flat (bs : List Nat) (a : Nat) : (nums 4).flatMap (tabF bs a) = (rowsB bs a).map pairT := by
  unfold rowsB nums
  rw [List.flatMap_map, List.map_flatMap]
  rfl
theorem rowOf_len (j : Nat) (m : Nat) : (rowOf j (fnames m 12)).length ≤ 12 := by
  unfold rowOf
  rw [List.length_map]
  exact fnames_length m 12
theorem rowsB_len (bs : List Nat) (a : Nat) : (rowsB bs a).length ≤ 48 := by
  have h : ∀ j, (rowOf j (fnames (dif (bs.getD j 0) a) 12)).length ≤ 12 := fun j => rowOf_len j _
  show (rowOf 0 _ ++ (rowOf 1 _ ++ (rowOf 2 _ ++ (rowOf 3 _ ++ [])))).length ≤ 48
  simp only [List.length_append, List.length_nil]
  have h0 := h 0; have h1 := h 1; have h2 := h 2; have h3 := h 3
  omega
theorem smp_pairs (l : List (Str × Str)) : ∀ x ∈ l.map pairT, Smp x := fun x hx => by
  obtain ⟨w, _, rfl⟩ := List.mem_map.mp hx
  exact .tup [w.1, w.2]
theorem LOOP.same {C : Cx} {F : SF} {ρ : Vars} {L : Led} {X : XQ} {target : Expr} {a : AV} {body orelse : List Stmt} {xs : List AV} {H : Led → Prop} (hI : ITERABLE C F.n target a L xs H) (hH : ∀ L', List.Sublist L L' → H L')
    (turn : ∀ (i : Nat) (x : AV), xs[i]? = some x → ASG C F ρ L target x fun ρ' L' => EX C F ρ' L' body ⟨Wk fun r l => r = ρ ∧ l = L, X.nx, Wk fun r l => r = ρ ∧ l = L, X.rt⟩) (done : EX C F ρ L orelse X) :
    LOOP C F ρ L target a body orelse X :=
  .inv (fun zz r l => r = ρ ∧ l = L) hI ⟨ρ, L, .refl ρ, List.Sublist.refl _, rfl, rfl⟩ (fun i r l l' h k => by obtain ⟨rfl, rfl⟩ := h; exact hH _ k)
    (fun i x r l hx h => by obtain ⟨rfl, rfl⟩ := h; exact turn i x hx) fun r l h => by obtain ⟨rfl, rfl⟩ := h; exact done
noncomputable def elF (as : List Nat) (b : Nat) : AV → List AV
  | .int i => [.str (elemS (dif (as.getD i.toNat 0) b))]
  | _ => []
theorem elF_flat {as : List Nat} (b : Nat) (h : as.length = 4) : (nums 4).flatMap (elF as b) = (as.map fun a => elemS (dif a b)).map .str := by
  match as, h with
  | [_, _, _, _], _ => rfl
theorem mul_small {a b : Nat} (ha : a ≤ 16) (hb : b ≤ 16) : IntMulOk (a : Int) (b : Int) := by
  exact .of_left (intBits_le_64 (by omega) (by omega))
section
variable {C : Cx} (hK : C.K = hd.heap_1 C.P)
include hK
theorem g_l_numbers : nsIn C.K mainGlobals (Str.ofString "_law_numbers") = some (some (.ref 318)) := by rw [hK]; kernel_rfl
theorem g_l_pretty : nsIn C.K mainGlobals (Str.ofString "pretty_flags") = some (some (.ref 176)) := by rw [hK]; kernel_rfl
theorem g_l_words : nsIn C.K mainGlobals (Str.ofString "_law_words") = some (some (.ref 330)) := by rw [hK]; kernel_rfl
theorem g_l_written : nsIn C.K mainGlobals (Str.ofString "_law_written") = some (some (.ref 340)) := by rw [hK]; kernel_rfl
theorem g_l_left : nsIn C.K mainGlobals (Str.ofString "_law_left") = some (some (.ref 345)) := by rw [hK]; kernel_rfl
theorem g_l_element : nsIn C.K mainGlobals (Str.ofString "_law_element") = some (some (.ref 335)) := by rw [hK]; kernel_rfl
theorem g_l_unlike : nsIn C.K mainGlobals (Str.ofString "_law_unlike") = some (some (.ref 352)) := by rw [hK]; kernel_rfl
theorem k_l318 : keepIn C.K (.ref 318) = true := by rw [hK]; kernel_rfl
theorem k_l176 : keepIn C.K (.ref 176) = true := by rw [hK]; kernel_rfl
theorem k_l330 : keepIn C.K (.ref 330) = true := by rw [hK]; kernel_rfl
theorem k_l340 : keepIn C.K (.ref 340) = true := by rw [hK]; kernel_rfl
theorem k_l345 : keepIn C.K (.ref 345) = true := by rw [hK]; kernel_rfl
theorem k_l335 : keepIn C.K (.ref 335) = true := by rw [hK]; kernel_rfl
theorem k_l352 : keepIn C.K (.ref 352) = true := by rw [hK]; kernel_rfl
theorem b_l_range : BLT C (Str.ofString "range") (.type "range") := ⟨(by rw [hK]; kernel_rfl), (by kernel_rfl), (fun zz e => nomatch e), (by decide)⟩
theorem b_l_str : BLT C (Str.ofString "str") (.type "str") := ⟨(by rw [hK]; kernel_rfl), (by kernel_rfl), (fun zz e => nomatch e), (by decide)⟩
theorem b_l_len : BLT C (Str.ofString "len") (.builtin "len") := ⟨(by rw [hK]; kernel_rfl), (by kernel_rfl), (fun zz e => nomatch e), (by decide)⟩
theorem b_l_set : BLT C (Str.ofString "set") (.type "set") := ⟨(by rw [hK]; kernel_rfl), (by kernel_rfl), (fun zz e => nomatch e), (by decide)⟩
theorem law_ok {n : Nat} {L : Led} {Q : AV → Led → Prop} (hn : n ≤ 60) (hLam : LamOk C 125 123) {sc : List Int} (hsc : sc.length ≤ 63) (hQ : Q (.bool true) L) : CALLC C n (.obj 357) [.lst (sc.map .int)] [] L Q := by
  refine call_def (ρ := [(Str.ofString "script", .lst (sc.map .int))]) (by rw [hK]; with_unfolding_all rfl) (by rw [hK]; kernel_rfl) (bind1 fun zz => by with_unfolding_all rfl) (by rfl) (by kernel_rfl) (by omega) ?_
  with_reducible refine ex_cons ?_
  with_reducible refine x_assign ?_ (by wtm_at "ir") (by wtm_at "ir") (by wtm_at "ir")
  with_reducible refine ev_CallN (fun h => ev_gref (by kernel_rfl) (by first | exact g_l_numbers (by assumption) | exact g_l_pretty (by assumption) | exact g_l_words (by assumption) | exact g_l_written (by assumption) | exact g_l_left (by assumption) | exact g_l_element (by assumption) | exact g_l_unlike (by assumption)) h (by decide)) (by exact keep_K (by first | exact k_l318 (by assumption) | exact k_l176 (by assumption) | exact k_l330 (by assumption) | exact k_l340 (by assumption) | exact k_l345 (by assumption) | exact k_l335 (by assumption) | exact k_l352 (by assumption))) (by wtm_at "simple") (by wtm_at "nz") ?_ (by wtm_at "ir") (by wtm_at "ir")
  refine (law_numbers_ok hK (show n + 1 ≤ 180 from nle hn rfl) hsc fun ms hm8 hm => ?_).call
  wtm_at "q1"
  with_reducible refine ex_cons ?_
  with_reducible refine x_assign_ListComp (ρ0 := []) (by kernel_rfl) (by kernel_rfl) (by wtm_at "sub") ?_ (by wtm_at "ir")
  wtm_at "q0"
  refine LOOPC.plain (ms.map fun (m : Nat) => AV.int (m : Nat)) (intF fun m => .str (prettyS m)) (fun PP => iter_lst) trivial (by rw [List.length_map]; omega) (fun a zz => intF_le _ a) (fun a PP ha => ?_) ?_
  · obtain ⟨m, hmm, rfl⟩ := List.mem_map.mp ha
    wtm_at "q1"
    refine And.intro (by wtm_at "sub") ?_
    refine tests_none fun P2 => ?_
    with_reducible refine ev_CallN (fun h => ev_gref (by kernel_rfl) (by first | exact g_l_numbers (by assumption) | exact g_l_pretty (by assumption) | exact g_l_words (by assumption) | exact g_l_written (by assumption) | exact g_l_left (by assumption) | exact g_l_element (by assumption) | exact g_l_unlike (by assumption)) h (by decide)) (by exact keep_K (by first | exact k_l318 (by assumption) | exact k_l176 (by assumption) | exact k_l330 (by assumption) | exact k_l340 (by assumption) | exact k_l345 (by assumption) | exact k_l335 (by assumption) | exact k_l352 (by assumption))) (by wtm_at "simple") (by wtm_at "nz") ?_ (by wtm_at "ir") (by wtm_at "ir")
    refine (pretty_flags_ok (C := C.pn P2) hK (show n + 1 ≤ 180 from nle hn rfl) (hm m hmm) ?_).call
    exact ⟨rfl, rfl⟩
  intro D
  rw [intF_flat]
  refine ⟨_, _, .froz rfl, ?_⟩
  wtm_at "q1"
  -- told != ...
  with_reducible refine ex_cons ?_
  with_reducible refine x_if ?_
  with_reducible refine et_Cmp ?_ (by with_unfolding_all rfl)
  wtm_at "q0"
  with_reducible refine ev_ListComp (ρ0 := []) (by kernel_rfl) (by wtm_at "sub") ?_ (by wtm_at "ir")
  wtm_at "q0"
  refine LOOPC.plain (ms.map fun (m : Nat) => AV.int (m : Nat)) (intF fun m => .str (prettyS m)) (fun PP => iter_lst) trivial (by rw [List.length_map]; omega) (fun a zz => intF_le _ a) (fun a PP ha => ?_) ?_
  · obtain ⟨m, hmm, rfl⟩ := List.mem_map.mp ha
    have hm1 := hm m hmm
    wtm_at "q1"
    refine And.intro (by wtm_at "sub") ?_
    refine tests_none fun P2 => ?_
    refine ev_Or ?_
    wtm_at "q2"
    with_reducible refine ev_str ?_
    refine GETM.norm (by wtm_at "nz") ?_
    with_reducible refine getm_str PySem.F.slot_str_join PySem.F.type_str_join ?_
    refine And.intro (keep_cst (fun zz e => nomatch e)) ?_
    wtm_at "q3"
    with_reducible refine ev_CallN (fun h => ev_gref (by kernel_rfl) (by first | exact g_l_numbers (by assumption) | exact g_l_pretty (by assumption) | exact g_l_words (by assumption) | exact g_l_written (by assumption) | exact g_l_left (by assumption) | exact g_l_element (by assumption) | exact g_l_unlike (by assumption)) h (by decide)) (by exact keep_K (by first | exact k_l318 (by assumption) | exact k_l176 (by assumption) | exact k_l330 (by assumption) | exact k_l340 (by assumption) | exact k_l345 (by assumption) | exact k_l335 (by assumption) | exact k_l352 (by assumption))) (by wtm_at "simple") (by wtm_at "nz") ?_ (by wtm_at "ir") (by wtm_at "ir")
    refine (law_words_ok (C := C.pn P2) hK (show n + 1 ≤ 170 from nle hn rfl) hm1 ?_).call
    with_reducible refine evl_nil ?_
    with_reducible refine evk_nil ?_
    wtm_at "cn"
    have hz := fnames_sum m 12
    have hl := fnames_length m 12
    refine call_joinS SeqV.lst (joinOk_of_weight (by omega) (by decide)) ?_
    have hjl : (Txt.join (Str.ofString ", ") (fnames m 12)).length ≤ sizeLine := by
      have h1 := StrLaws.join_length_le (Str.ofString ", ") (fnames m 12)
      have h4 : (Str.ofString ", ").length = 2 := by decide
      rw [h4] at h1
      show (Builtin.Str.glued _ _).length ≤ _
      rw [StrLaws.glued_eq_join, sizeLine_eq]
      omega
    with_reducible refine tr_str hjl ?_
    by_cases h0 : m = 0
    · subst h0
      rw [fnames_zero, if_neg (by decide +kernel)]
      with_reducible refine ev_str ?_
      exact ⟨by unfold intF prettyS; rfl, rfl⟩
    · rw [if_pos (jn_len hm1 h0)]
      exact ⟨by show [AV.str (prettyS m)] = _; unfold prettyS; rw [if_neg h0], rfl⟩
  intro D2
  rw [intF_flat]
  refine ⟨_, _, .froz rfl, ?_⟩
  skip
  have etold : (ms.map fun m => AV.str (prettyS m)) = (ms.map prettyS).map .str := by rw [List.map_map]; rfl
  rw [etold]
  refine cmp_ne_same (smp_strs _) (show n + 1 ≤ 190 from nle hn rfl) ?_
  with_reducible refine tr_bool ?_
  rw [if_neg (by decide)]
  with_reducible refine ex_nil ?_
  -- words
  with_reducible refine ex_cons ?_
  with_reducible refine x_assign_ListComp (ρ0 := []) (by kernel_rfl) (by kernel_rfl) (by wtm_at "sub") ?_ (by wtm_at "ir")
  wtm_at "q0"
  refine LOOPC.plain ((ms.map prettyS).map .str) txtF (fun PP => iter_lst) trivial (by rw [List.length_map, List.length_map]; omega) (fun a ha => ?_) (fun a PP ha => ?_) ?_
  · obtain ⟨t, _, rfl⟩ := List.mem_map.mp ha
    exact Nat.le_refl _
  · obtain ⟨t, ht, rfl⟩ := List.mem_map.mp ha
    obtain ⟨m, hmm, rfl⟩ := List.mem_map.mp ht
    wtm_at "q1"
    refine And.intro (by wtm_at "sub") ?_
    refine tests_none fun P2 => ?_
    with_reducible refine ev_ListComp (ρ0 := []) (by kernel_rfl) (by wtm_at "sub") ?_ (by wtm_at "ir")
    with_reducible refine ev_MethN (fun h => ev_name (by wtm_at "look") h (by decide) (by decide)) (fun h => getm_str PySem.F.slot_str_split PySem.F.type_str_split h) (by exact keep_cst (fun zz e => nomatch e)) (by wtm_at "simple") (by wtm_at "nz") (by wtm_at "nz") ?_ (by wtm_at "ir") (by with_unfolding_all rfl) (by wtm_at "ir") (by wtm_at "ir")
    refine call_split (by decide) (by have := pretty_len (m := m); omega) ?_
    refine LOOPC.plain ((Txt.split (prettyS m) (Str.ofString ", ")).map .str) (strF notNull) (fun P3 => iter_lst) trivial (by rw [List.length_map]; have := PyProof.Rows.split_le (prettyS m) (Str.ofString ", "); have := pretty_len (m := m); omega) (fun a zz => strF_le _ a) (fun a P3 ha => ?_) ?_
    · obtain ⟨w, hw, rfl⟩ := List.mem_map.mp ha
      wtm_at "q1"
      refine And.intro (by wtm_at "sub") ?_
      refine tests_if ?_
      with_reducible refine et_Cmp ?_ (by with_unfolding_all rfl)
      wtm_at "q0"
      with_reducible refine ev_str ?_
      with_reducible refine cmp_ne_str ?_
      with_reducible refine tr_bool ?_
      by_cases hnn : notNull w = true
      · rw [if_pos (show (w != Str.ofString "0x0") = true from hnn)]
        intro P4
        wtm_at "q0"
        exact ⟨by show (if notNull w = true then [AV.str w] else []) = _; rw [if_pos hnn], rfl⟩
      · rw [if_neg (show ¬ (w != Str.ofString "0x0") = true from hnn)]
        exact ⟨by show (if notNull w = true then [AV.str w] else []) = _; rw [if_neg hnn], rfl⟩
    intro D3
    rw [strF_flat]
    exact ⟨_, _, .froz rfl, rfl, rfl⟩
  intro D3
  rw [txtF_flat ms hm]
  refine ⟨_, _, .froz rfl, ?_⟩
  wtm_at "q1"
  -- the two kinds of numbers
  obtain ⟨as, bs, rfl, ha4, hb4⟩ : ∃ as bs : List Nat, ms = as ++ bs ∧ as.length = 4 ∧ bs.length = 4 := ⟨ms.take 4, ms.drop 4, (List.take_append_drop 4 ms).symm, by rw [List.length_take]; omega, by rw [List.length_drop]; omega⟩
  have hA : ∀ a ∈ as, a < 4096 := fun a h => hm a (List.mem_append_left _ h)
  have hB : ∀ b ∈ bs, b < 4096 := fun b h => hm b (List.mem_append_right _ h)
  have sl1 : sliceL (((as ++ bs).map fun m => fnames m 12).map strsL) none (some 4) = (as.map fun m => fnames m 12).map strsL := by
    have e0 : ∀ xs : List AV, sliceL xs none (some 4) = xs.take 4 := fun xs => by
      show (if (0 : Int) ≤ 4 then List.take (4 : Int).toNat xs else List.take (xs.length - (-(4 : Int)).toNat) xs) = _
      rw [if_pos (by decide)]
      rfl
    rw [e0, List.map_append, List.map_append, List.take_left' (by simp [ha4])]
  have sl2 : sliceL (((as ++ bs).map fun m => fnames m 12).map strsL) (some 4) none = (bs.map fun m => fnames m 12).map strsL := by
    have e0 : ∀ xs : List AV, sliceL xs (some 4) none = xs.drop 4 := fun xs => rfl
    rw [e0, List.map_append, List.map_append, List.drop_left' (by simp [ha4])]
  with_reducible refine ex_cons ?_
  with_reducible refine x_assign ?_ (by wtm_at "ir") (by wtm_at "ir") (by wtm_at "ir")
  with_reducible refine ev_Call ?_ (by wtm_at "ir") (by wtm_at "ir") (by wtm_at "ir") (by wtm_at "ir")
  with_reducible refine ev_gref (by kernel_rfl) (by first | exact g_l_numbers (by assumption) | exact g_l_pretty (by assumption) | exact g_l_words (by assumption) | exact g_l_written (by assumption) | exact g_l_left (by assumption) | exact g_l_element (by assumption) | exact g_l_unlike (by assumption)) ?_ (by decide)
  refine And.intro (keep_K (by first | exact k_l318 (by assumption) | exact k_l176 (by assumption) | exact k_l330 (by assumption) | exact k_l340 (by assumption) | exact k_l345 (by assumption) | exact k_l335 (by assumption) | exact k_l352 (by assumption))) ?_
  wtm_at "q3"
  with_reducible refine ev_Sub ?_
  wtm_at "q0"
  refine ev_Slice ?_
  with_reducible refine ev_int ?_
  refine item_slice SeqV.lst .none (.int 4) (fun i e => nomatch e) (fun i j e => nomatch e) (le_line (by rw [List.length_map, List.length_map]; omega)) ?_
  rw [sl1]
  wtm_at "q3"
  with_reducible refine ev_Sub ?_
  wtm_at "q0"
  refine ev_Slice ?_
  with_reducible refine ev_int ?_
  refine item_slice SeqV.lst (.int 4) .none (fun i e => by cases e; decide) (fun i j zz e => nomatch e) (le_line (by rw [List.length_map, List.length_map]; omega)) ?_
  rw [sl2]
  with_reducible refine evl_nil ?_
  with_reducible refine evk_nil ?_
  wtm_at "cn"
  refine (law_written_ok hK (show n + 1 ≤ 100 from nle hn rfl) hLam (fun es he => ?_) (by rw [List.length_map]; omega) (by rw [List.length_map]; omega) (fun ws hw => ?_) fun T => ?_).call
  · obtain ⟨a, _, rfl⟩ := List.mem_map.mp he
    exact ⟨fnames_nodup a, Nat.le_trans (fnames_length a 12) (by decide), fnames_s a, fnames_nm a⟩
  · obtain ⟨b, _, rfl⟩ := List.mem_map.mp hw
    exact Nat.le_trans (fnames_length b 12) (by decide)
  wtm_at "q1"
  with_reducible refine ex_cons ?_
  with_reducible refine x_assign ?_ (by wtm_at "ir") (by wtm_at "ir") (by wtm_at "ir")
  with_reducible refine ev_Call ?_ (by wtm_at "ir") (by wtm_at "ir") (by wtm_at "ir") (by wtm_at "ir")
  with_reducible refine ev_gref (by kernel_rfl) (by first | exact g_l_numbers (by assumption) | exact g_l_pretty (by assumption) | exact g_l_words (by assumption) | exact g_l_written (by assumption) | exact g_l_left (by assumption) | exact g_l_element (by assumption) | exact g_l_unlike (by assumption)) ?_ (by decide)
  refine And.intro (keep_K (by first | exact k_l318 (by assumption) | exact k_l176 (by assumption) | exact k_l330 (by assumption) | exact k_l340 (by assumption) | exact k_l345 (by assumption) | exact k_l335 (by assumption) | exact k_l352 (by assumption))) ?_
  wtm_at "q3"
  with_reducible refine ev_Sub ?_
  wtm_at "q0"
  refine ev_Slice ?_
  with_reducible refine ev_int ?_
  refine item_slice SeqV.lst .none (.int 4) (fun i e => nomatch e) (fun i j e => nomatch e) (le_line (by rw [List.length_map, List.length_map]; omega)) ?_
  rw [sl1]
  wtm_at "q3"
  with_reducible refine ev_Sub ?_
  wtm_at "q0"
  refine ev_Slice ?_
  with_reducible refine ev_int ?_
  refine item_slice SeqV.lst (.int 4) .none (fun i e => by cases e; decide) (fun i j zz e => nomatch e) (le_line (by rw [List.length_map, List.length_map]; omega)) ?_
  rw [sl2]
  with_reducible refine evl_nil ?_
  with_reducible refine evk_nil ?_
  wtm_at "cn"
  refine (law_left_ok hK (show n + 1 ≤ 100 from nle hn rfl) (fun ws hw => ?_) (fun ws hw => ?_) (by rw [List.length_map]; omega) (fun ws hw => ?_) (by rw [List.length_map]; omega) fun U => ?_).call
  · obtain ⟨a, _, rfl⟩ := List.mem_map.mp hw
    exact fnames_word a
  · obtain ⟨a, _, rfl⟩ := List.mem_map.mp hw
    exact fnames_word a
  · obtain ⟨b, _, rfl⟩ := List.mem_map.mp hw
    exact Nat.le_trans (fnames_length b 12) (by decide)
  wtm_at "q1"
  with_reducible refine ex_cons ?_
  with_reducible refine x_for ?_ (by wtm_at "ir")
  with_reducible refine ev_Call ?_ (by wtm_at "ir") (by wtm_at "ir") (by wtm_at "ir") (by wtm_at "ir")
  with_reducible refine ev_blt (by kernel_rfl) (by first | exact b_l_range (by assumption) | exact b_l_str (by assumption) | exact b_l_len (by assumption) | exact b_l_set (by assumption)) ?_ (by decide)
  refine And.intro (keep_cst (fun zz e => nomatch e)) ?_
  wtm_at "q3"
  with_reducible refine ev_int ?_
  with_reducible refine evl_nil ?_
  with_reducible refine evk_nil ?_
  refine call_range ?_
  refine LOOP.same (iter_range (by decide) (by decide)) (fun zz zz => trivial) (fun j x hx => ?_) ?_
  · obtain ⟨hj, rfl⟩ := nums_get hx
    have hj4 : j < 4 := hj
    obtain ⟨b, hb⟩ : ∃ b, bs[j]? = some b := ⟨_, List.getElem?_eq_getElem (by omega)⟩
    wtm_at "q1"
    with_reducible refine ex_last ?_
    with_reducible refine x_if ?_
    with_reducible refine et_Cmp ?_ (by with_unfolding_all rfl)
    with_reducible refine ev_Sub ?_
    wtm_at "q0"
    wtm_at "q0"
    refine item_seq (x := .str (Txt.join (Str.ofString "") (as.map fun a => elemS (dif a b)))) (SeqV.led (by wtm_at "mem")) (by omega) (by omega) ?_ ?_
    · rw [Int.toNat_natCast, List.getElem?_map, List.getElem?_map, List.getElem?_map, hb, ← written_is]; rfl
    wtm_at "q2"
    with_reducible refine ev_str ?_
    refine GETM.norm (by wtm_at "nz") ?_
    with_reducible refine getm_str PySem.F.slot_str_join PySem.F.type_str_join ?_
    refine And.intro (keep_cst (fun zz e => nomatch e)) ?_
    wtm_at "q3"
    with_reducible refine ev_ListComp (ρ0 := [(Str.ofString "j", .int (j : Nat)), (Str.ofString "numbers", .lst ((as ++ bs).map fun (m : Nat) => AV.int (m : Nat)))]) (by kernel_rfl) (by wtm_at "sub") ?_ (by wtm_at "ir")
    with_reducible refine ev_Call ?_ (by wtm_at "ir") (by wtm_at "ir") (by wtm_at "ir") (by wtm_at "ir")
    with_reducible refine ev_blt (by kernel_rfl) (by first | exact b_l_range (by assumption) | exact b_l_str (by assumption) | exact b_l_len (by assumption) | exact b_l_set (by assumption)) ?_ (by decide)
    refine And.intro (keep_cst (fun zz e => nomatch e)) ?_
    wtm_at "q3"
    with_reducible refine ev_int ?_
    with_reducible refine evl_nil ?_
    with_reducible refine evk_nil ?_
    refine call_range ?_
    refine LOOPC.plain (nums 4) (elF as b) (fun PP => iter_range (by decide) (by decide)) trivial (by rw [nums_length]; decide) (fun a ha => ?_) (fun a PP ha => ?_) ?_
    · obtain ⟨i, hi, rfl⟩ := List.mem_map.mp ha
      exact Nat.le_refl _
    · obtain ⟨i, hi, rfl⟩ := List.mem_map.mp ha
      have hi4 : i < 4 := List.mem_range.mp hi
      wtm_at "q1"
      refine And.intro (by wtm_at "sub") ?_
      refine tests_none fun P2 => ?_
      obtain ⟨a, ha⟩ : ∃ a, as[i]? = some a := ⟨_, List.getElem?_eq_getElem (by omega)⟩
      with_reducible refine ev_Call ?_ (by wtm_at "ir") (by wtm_at "ir") (by wtm_at "ir") (by wtm_at "ir")
      with_reducible refine ev_gref (by kernel_rfl) (by first | exact g_l_numbers (by assumption) | exact g_l_pretty (by assumption) | exact g_l_words (by assumption) | exact g_l_written (by assumption) | exact g_l_left (by assumption) | exact g_l_element (by assumption) | exact g_l_unlike (by assumption)) ?_ (by decide)
      refine And.intro (keep_K (by first | exact k_l318 (by assumption) | exact k_l176 (by assumption) | exact k_l330 (by assumption) | exact k_l340 (by assumption) | exact k_l345 (by assumption) | exact k_l335 (by assumption) | exact k_l352 (by assumption))) ?_
      wtm_at "q3"
      with_reducible refine ev_BinOp ?_
      with_reducible refine ev_Sub ?_
      wtm_at "q0"
      wtm_at "q0"
      refine item_seq (x := .int (a : Nat)) SeqV.lst (Int.natCast_nonneg i) (by show ((i : Nat) : Int) < _; omega) (by
        show ((as ++ bs).map _)[(((i : Nat) : Int)).toNat]? = _
        rw [Int.toNat_natCast, List.getElem?_map, List.getElem?_append_left (by omega), ha]; rfl) ?_
      with_reducible refine ev_UnaryOp ?_
      with_reducible refine ev_Sub ?_
      wtm_at "q0"
      with_reducible refine ev_BinOp ?_
      with_reducible refine ev_int ?_
      wtm_at "q0"
      with_reducible refine op_add_int ?_
      refine item_seq (x := .int (b : Nat)) SeqV.lst (by omega) (by omega) (by
        rw [show (4 + ((j : Nat) : Int)).toNat = as.length + j by omega, List.getElem?_map, List.getElem?_append_right (by omega), Nat.add_sub_cancel_left, hb]; rfl) ?_
      with_reducible refine op_inv_int ?_
      with_reducible refine op_and_int ?_
      rw [nand_is]
      with_reducible refine evl_nil ?_
      with_reducible refine evk_nil ?_
      wtm_at "cn"
      refine (law_element_ok (C := C.pn P2) hK (show n + 1 ≤ 170 from nle hn rfl) ?_).call
      refine ⟨?_, rfl⟩
      show [AV.str (elemS (dif (as.getD i 0) b))] = _
      rw [List.getD_eq_getElem?_getD, ha]; rfl
    intro D
    rw [elF_flat b ha4]
    refine ⟨_, _, .froz rfl, ?_⟩
    with_reducible refine evl_nil ?_
    with_reducible refine evk_nil ?_
    wtm_at "cn"
    refine call_joinS SeqV.lst (joinOk_of_weight ?_ (by decide)) ?_
    · have hs := sum_le (as.map fun a => elemS (dif a b)) 300 (fun x hx => by obtain ⟨a, _, rfl⟩ := List.mem_map.mp hx; exact elemS_length _)
      rw [List.length_map, ha4] at hs ⊢
      omega
    refine cmp_ne_str ?_
    with_reducible refine tr_bool ?_
    rw [if_neg (by simp)]
    with_reducible refine ex_nil ?_
    exact ⟨_, _, by wtm_at "sub", List.Sublist.refl _, rfl, rfl⟩
  with_reducible refine ex_nil ?_
  with_reducible refine ex_cons ?_
  with_reducible refine x_for ?_ (by wtm_at "ir")
  with_reducible refine ev_Call ?_ (by wtm_at "ir") (by wtm_at "ir") (by wtm_at "ir") (by wtm_at "ir")
  with_reducible refine ev_blt (by kernel_rfl) (by first | exact b_l_range (by assumption) | exact b_l_str (by assumption) | exact b_l_len (by assumption) | exact b_l_set (by assumption)) ?_ (by decide)
  refine And.intro (keep_cst (fun zz e => nomatch e)) ?_
  wtm_at "q3"
  with_reducible refine ev_int ?_
  with_reducible refine evl_nil ?_
  with_reducible refine evk_nil ?_
  refine call_range ?_
  refine LOOP.same (iter_range (by decide) (by decide)) (fun zz zz => trivial) (fun i x hx => ?_) ?_
  · obtain ⟨hi, rfl⟩ := nums_get hx
    have hi4 : i < 4 := hi
    obtain ⟨a, ha⟩ : ∃ a, as[i]? = some a := ⟨_, List.getElem?_eq_getElem (by omega)⟩
    wtm_at "q1"
    with_reducible refine ex_last ?_
    with_reducible refine x_if ?_
    with_reducible refine et_Cmp ?_ (by with_unfolding_all rfl)
    with_reducible refine ev_Sub ?_
    wtm_at "q0"
    wtm_at "q0"
    refine item_seq (x := .lst ((rowsB bs a).map pairT)) (SeqV.led (by wtm_at "mem")) (by omega) (by omega) ?_ ?_
    · rw [Int.toNat_natCast, List.getElem?_map, List.getElem?_map, ha, ← left_is]; rfl
    with_reducible refine ev_ListComp2 (ρ0 := [(Str.ofString "i", .int (i : Nat)), (Str.ofString "numbers", .lst ((as ++ bs).map fun (m : Nat) => AV.int (m : Nat)))]) (by kernel_rfl) (by wtm_at "sub") ?_ (by wtm_at "ir")
    with_reducible refine ev_Call ?_ (by wtm_at "ir") (by wtm_at "ir") (by wtm_at "ir") (by wtm_at "ir")
    with_reducible refine ev_blt (by kernel_rfl) (by first | exact b_l_range (by assumption) | exact b_l_str (by assumption) | exact b_l_len (by assumption) | exact b_l_set (by assumption)) ?_ (by decide)
    refine And.intro (keep_cst (fun zz e => nomatch e)) ?_
    wtm_at "q3"
    with_reducible refine ev_int ?_
    with_reducible refine evl_nil ?_
    with_reducible refine evk_nil ?_
    refine call_range ?_
    refine LOOPC.nest (nums 4) (tabF bs a) (fun PP => iter_range (by decide) (by decide)) trivial (by wtm_at "ir") ?_ (fun x PP hx => ?_) ?_
    · rw [tabF_flat, List.length_map]
      have := rowsB_len bs a
      omega
    · obtain ⟨j, hj, rfl⟩ := List.mem_map.mp hx
      have hj4 : j < 4 := List.mem_range.mp hj
      obtain ⟨b, hb⟩ : ∃ b, bs[j]? = some b := ⟨_, List.getElem?_eq_getElem (by omega)⟩
      have ef : tabF bs a (.int (Int.ofNat j)) = (rowOf j (fnames (dif b a) 12)).map pairT := by
        show (rowOf j (fnames (dif (bs.getD j 0) a) 12)).map pairT = _
        rw [List.getD_eq_getElem?_getD, hb]; rfl
      wtm_at "q1"
      refine And.intro (by wtm_at "sub") ?_
      intro ys P' hys
      rw [ef] at hys ⊢
      with_reducible refine ev_Call ?_ (by wtm_at "ir") (by wtm_at "ir") (by wtm_at "ir") (by wtm_at "ir")
      with_reducible refine ev_gref (by kernel_rfl) (by first | exact g_l_numbers (by assumption) | exact g_l_pretty (by assumption) | exact g_l_words (by assumption) | exact g_l_written (by assumption) | exact g_l_left (by assumption) | exact g_l_element (by assumption) | exact g_l_unlike (by assumption)) ?_ (by decide)
      refine And.intro (keep_K (by first | exact k_l318 (by assumption) | exact k_l176 (by assumption) | exact k_l330 (by assumption) | exact k_l340 (by assumption) | exact k_l345 (by assumption) | exact k_l335 (by assumption) | exact k_l352 (by assumption))) ?_
      wtm_at "q3"
      with_reducible refine ev_BinOp ?_
      with_reducible refine ev_Sub ?_
      wtm_at "q0"
      with_reducible refine ev_BinOp ?_
      with_reducible refine ev_int ?_
      wtm_at "q0"
      with_reducible refine op_add_int ?_
      refine item_seq (x := .int (b : Nat)) SeqV.lst (by show (0 : Int) ≤ 4 + ((j : Nat) : Int); omega) (by show 4 + ((j : Nat) : Int) < _; omega) (by
        rw [show (4 + Int.ofNat j).toNat = as.length + j by show (4 + ((j : Nat) : Int)).toNat = _; omega, List.getElem?_map, List.getElem?_append_right (by omega), Nat.add_sub_cancel_left, hb]; rfl) ?_
      with_reducible refine ev_UnaryOp ?_
      with_reducible refine ev_Sub ?_
      wtm_at "q0"
      wtm_at "q0"
      refine item_seq (x := .int (a : Nat)) SeqV.lst (by omega) (by omega) (by
        rw [Int.toNat_natCast, List.getElem?_map, List.getElem?_append_left (by omega), ha]; rfl) ?_
      with_reducible refine op_inv_int ?_
      with_reducible refine op_and_int ?_
      rw [nand_is]
      with_reducible refine evl_nil ?_
      with_reducible refine evk_nil ?_
      wtm_at "cn"
      have hdl : dif b a < 4096 := by
        have h1 := hB b (List.mem_of_getElem? hb)
        have h2 := and_dif b a
        unfold dif
        omega
      refine (law_words_ok (C := C.pn P') hK (show n + 1 ≤ 170 from nle hn rfl) hdl ?_).call
      generalize dif b a = m at hdl hys ⊢
      refine LOOPC.plainFrom ys ((fnames m 12).map .str) (fun x => match x with | .str w => [pairT (Txt.lower w, jS j)] | _ => []) (fun P => iter_lst) trivial ?_ (fun x P2 hx => ?_) ?_
      · rw [List.flatMap_map]
        have : ∀ l : List Str, (l.flatMap fun w => [pairT (Txt.lower w, jS j)]).length = l.length := by
          intro l; induction l with
          | nil => rfl
          | cons a r ih => rw [List.flatMap_cons, List.length_append, ih]; simp; omega
        have h2 : (rowOf j (fnames m 12)).length = (fnames m 12).length := List.length_map ..
        rw [List.length_map, h2] at hys
        refine Nat.le_trans (Nat.add_le_add_left (Nat.le_of_eq (this (fnames m 12))) _) (by omega)
      · obtain ⟨w, hw, rfl⟩ := List.mem_map.mp hx
        have wok := fnames_word m w hw
        wtm_at "q1"
        refine And.intro (by wtm_at "sub") ?_
        refine tests_none fun P3 => ?_
        with_reducible refine ev_Tuple ?_
        wtm_at "q3"
        with_reducible refine ev_MethN (fun h => ev_name (by wtm_at "look") h (by decide) (by decide)) (fun h => getm_str PySem.F.slot_str_lower PySem.F.type_str_lower h) (by exact keep_cst (fun zz e => nomatch e)) (by wtm_at "simple") (by wtm_at "nz") (by wtm_at "nz") ?_ (by wtm_at "ir") (by with_unfolding_all rfl) (by wtm_at "ir") (by wtm_at "ir")
        with_reducible refine call_lower (by have := wok.zl; rw [sizeLine_eq]; omega) ?_
        wtm_at "q3"
        with_reducible refine ev_CallN (fun h => ev_blt (by kernel_rfl) (by first | exact b_l_range (by assumption) | exact b_l_str (by assumption) | exact b_l_len (by assumption) | exact b_l_set (by assumption)) h (by decide)) (by exact keep_cst (fun zz e => nomatch e)) (by wtm_at "simple") (by wtm_at "nz") ?_ (by wtm_at "ir") (by wtm_at "ir")
        with_reducible refine call_str_int (by have : ∀ j, j < 4 → (Int.ofNat j).natAbs.log2 < 1920 := (by decide +kernel); exact this j hj4) ?_
        with_reducible refine evl_nil ?_
        with_reducible refine opl_newTuple (by rw [sizeLine_eq]; exact Nat.le_of_ble_eq_true rfl) ?_
        exact ⟨rfl, rfl⟩
      · refine ⟨?_, rfl⟩
        rw [List.flatMap_map]
        show AO.list (ys ++ (fnames m 12).flatMap fun w => [pairT (Txt.lower w, jS j)]) = .list (ys ++ (rowOf j (fnames m 12)).map pairT)
        congr 2
        unfold rowOf
        generalize fnames m 12 = l
        induction l with
        | nil => rfl
        | cons a r ih => rw [List.flatMap_cons, ih]; rfl
    intro D
    rw [tabF_flat]
    refine ⟨_, _, .froz rfl, ?_⟩
    refine cmp_ne_same (smp_pairs _) (show n + 1 ≤ 190 from nle hn rfl) ?_
    with_reducible refine tr_bool ?_
    rw [if_neg (by simp)]
    with_reducible refine ex_nil ?_
    exact ⟨_, _, by wtm_at "sub", List.Sublist.refl _, rfl, rfl⟩
  with_reducible refine ex_nil ?_
  with_reducible refine ex_cons ?_
  have eT : ((bs.map fun m => fnames m 12).map fun ws => Txt.join (Str.ofString "") (pcs ws (as.map fun m => fnames m 12))) = bs.map fun b => Txt.join (Str.ofString "") (as.map fun a => elemS (dif a b)) := by
    rw [List.map_map]
    exact List.map_congr_left fun b zz => written_is as b
  rw [eT]
  with_reducible refine x_assign ?_ (by wtm_at "ir") (by wtm_at "ir") (by wtm_at "ir")
  with_reducible refine ev_Call ?_ (by wtm_at "ir") (by wtm_at "ir") (by wtm_at "ir") (by wtm_at "ir")
  with_reducible refine ev_gref (by kernel_rfl) (by first | exact g_l_numbers (by assumption) | exact g_l_pretty (by assumption) | exact g_l_words (by assumption) | exact g_l_written (by assumption) | exact g_l_left (by assumption) | exact g_l_element (by assumption) | exact g_l_unlike (by assumption)) ?_ (by decide)
  refine And.intro (keep_K (by first | exact k_l318 (by assumption) | exact k_l176 (by assumption) | exact k_l330 (by assumption) | exact k_l340 (by assumption) | exact k_l345 (by assumption) | exact k_l335 (by assumption) | exact k_l352 (by assumption))) ?_
  wtm_at "q3"
  with_reducible refine ev_ListComp2 (ρ0 := []) (by kernel_rfl) (by wtm_at "sub") ?_ (by wtm_at "ir")
  wtm_at "q0"
  refine LOOPC.nest ((bs.map fun b => Txt.join (Str.ofString "") (as.map fun a => elemS (dif a b))).map AV.str) (opF as bs) (fun PP => iter_led (by wtm_at "mem")) (by wtm_at "mem") (by wtm_at "ir") ?_ (fun x PP hx => ?_) ?_
  · rw [opF_flat, List.length_map, opensAll_len ha4 hb4]
    decide
  · obtain ⟨t, ht, rfl⟩ := List.mem_map.mp hx
    obtain ⟨b, hb, rfl⟩ := List.mem_map.mp ht
    wtm_at "q1"
    refine And.intro (by wtm_at "sub") ?_
    intro ys P' hys
    have htx : (Txt.join (Str.ofString "") (as.map fun a => elemS (dif a b))).length ≤ 1200 := by
      have h1 := join_length (Str.ofString "") (as.map fun a => elemS (dif a b))
      have h2 := sum_le (as.map fun a => elemS (dif a b)) 300 (fun x hx => by obtain ⟨a, _, rfl⟩ := List.mem_map.mp hx; exact elemS_length _)
      have h3 : (Str.ofString "").length = 0 := by decide
      rw [List.length_map] at h1 h2
      rw [h3] at h1
      omega
    have hsp : (Txt.split (Txt.join (Str.ofString "") (as.map fun a => elemS (dif a b))) (Str.ofString "</s>")).length = 5 := by
      have e : (as.map fun a => elemS (dif a b)) = (as.map fun a => dif a b).map elemS := by rw [List.map_map]; rfl
      have e2 := text_split (as.map fun a => dif a b)
      rw [e]
      refine (congrArg List.length e2).trans ?_
      simp [ha4]
    generalize htg : Txt.join (Str.ofString "") (as.map fun a => elemS (dif a b)) = t at hys htx hsp ⊢
    with_reducible refine ev_Sub ?_
    with_reducible refine ev_MethN (fun h => ev_name (by wtm_at "look") h (by decide) (by decide)) (fun h => getm_str PySem.F.slot_str_split PySem.F.type_str_split h) (by exact keep_cst (fun zz e => nomatch e)) (by wtm_at "simple") (by wtm_at "nz") (by wtm_at "nz") ?_ (by wtm_at "ir") (by with_unfolding_all rfl) (by wtm_at "ir") (by wtm_at "ir")
    refine call_split (by decide) (by omega) ?_
    refine ev_Slice ?_
    with_reducible refine ev_UnaryOp ?_
    with_reducible refine ev_int ?_
    with_reducible refine op_neg_int ?_
    refine item_slice SeqV.lst .none (.int (-1)) (fun i e => nomatch e) (fun i j e => nomatch e) (le_line (by rw [List.length_map]; omega)) ?_
    have esl : sliceL ((Txt.split t (Str.ofString "</s>")).map AV.str) none (some (-1)) = opF as bs (.str t) := by
      have e0 : ∀ xs : List AV, sliceL xs none (some (-1)) = xs.dropLast := fun xs => by
        show (if (0 : Int) ≤ -1 then List.take (-1 : Int).toNat xs else List.take (xs.length - (-(-1 : Int)).toNat) xs) = _
        rw [if_neg (by decide), List.dropLast_eq_take]
        rfl
      rw [e0, ← List.map_dropLast]
      rfl
    rw [esl]
    have efl : ∀ l : List AV, (l.flatMap fun x => [x]) = l := fun l => by induction l with
      | nil => rfl
      | cons a r ih => rw [List.flatMap_cons, ih]; rfl
    refine LOOPC.plainFrom ys (opF as bs (.str t)) (fun x => [x]) (fun P => iter_lst) trivial ?_ (fun x P2 hx => ?_) ?_
    · rw [efl]; omega
    · wtm_at "q1"
      refine And.intro (by wtm_at "sub") ?_
      refine tests_none fun P3 => ?_
      obtain ⟨w, _, rfl⟩ := List.mem_map.mp (show x ∈ ((Txt.split t endS).dropLast).map AV.str from hx)
      wtm_at "q0"
      exact ⟨rfl, rfl⟩
    · rw [efl]
      exact ⟨rfl, rfl⟩
  intro D
  rw [opF_flat]
  refine ⟨_, _, .froz rfl, ?_⟩
  with_reducible refine evl_nil ?_
  with_reducible refine evk_nil ?_
  wtm_at "cn"
  refine (law_unlike_ok hK (show n + 1 ≤ 100 from nle hn rfl) (fun t ht => ?_) ?_ ?_).call
  · obtain ⟨m, rfl⟩ := opensAll_mem ht
    have h1 := open_noCtl m
    have h2 := openS_length m
    exact ⟨h1, noCtl_lower h1, by rw [sizeLine_eq]; omega, by rw [lower_len h1, sizeLine_eq]; omega⟩
  · rw [opensAll_len ha4 hb4]
    decide
  wtm_at "q1"
  with_reducible refine ex_cons ?_
  have eU : ((as.map fun m => fnames m 12).map fun ws => AV.lst ((dels (rowsOf (bs.map fun m => fnames m 12)) ws).map pairT)) = as.map fun a => AV.lst ((rowsB bs a).map pairT) := by
    rw [List.map_map]
    exact List.map_congr_left fun a zz => by show AV.lst ((dels (rowsOf (bs.map fun m => fnames m 12)) (fnames a 12)).map pairT) = _; rw [left_is]
  rw [eU]
  with_reducible refine x_assign ?_ (by wtm_at "ir") (by wtm_at "ir") (by wtm_at "ir")
  with_reducible refine ev_Call ?_ (by wtm_at "ir") (by wtm_at "ir") (by wtm_at "ir") (by wtm_at "ir")
  with_reducible refine ev_gref (by kernel_rfl) (by first | exact g_l_numbers (by assumption) | exact g_l_pretty (by assumption) | exact g_l_words (by assumption) | exact g_l_written (by assumption) | exact g_l_left (by assumption) | exact g_l_element (by assumption) | exact g_l_unlike (by assumption)) ?_ (by decide)
  refine And.intro (keep_K (by first | exact k_l318 (by assumption) | exact k_l176 (by assumption) | exact k_l330 (by assumption) | exact k_l340 (by assumption) | exact k_l345 (by assumption) | exact k_l335 (by assumption) | exact k_l352 (by assumption))) ?_
  wtm_at "q3"
  with_reducible refine ev_ListComp2 (ρ0 := []) (by kernel_rfl) (by wtm_at "sub") ?_ (by wtm_at "ir")
  wtm_at "q0"
  refine LOOPC.nest (as.map fun a => AV.lst ((rowsB bs a).map pairT)) rowF (fun PP => iter_led (by wtm_at "mem")) (by wtm_at "mem") (by wtm_at "ir") ?_ (fun x PP hx => ?_) ?_
  · rw [rowF_flat as bs hb4, List.length_map, rowsAll_len ha4 hb4]
    decide
  · obtain ⟨a, ha, rfl⟩ := List.mem_map.mp hx
    have hrl := rowsB_len bs a
    wtm_at "q1"
    refine And.intro (by wtm_at "sub") ?_
    intro ys P' hys
    rw [← rowJ_flat] at hys ⊢
    with_reducible refine ev_Call ?_ (by wtm_at "ir") (by wtm_at "ir") (by wtm_at "ir") (by wtm_at "ir")
    with_reducible refine ev_blt (by kernel_rfl) (by first | exact b_l_range (by assumption) | exact b_l_str (by assumption) | exact b_l_len (by assumption) | exact b_l_set (by assumption)) ?_ (by decide)
    refine And.intro (keep_cst (fun zz e => nomatch e)) ?_
    wtm_at "q3"
    with_reducible refine ev_int ?_
    with_reducible refine evl_nil ?_
    with_reducible refine evk_nil ?_
    refine call_range ?_
    refine LOOPC.plainFrom ys (nums 4) (rowJ ((rowsB bs a).map pairT)) (fun P => iter_range (by decide) (by decide)) trivial (Nat.le_trans hys (by decide)) (fun x P2 hx => ?_) ⟨rfl, rfl⟩
    obtain ⟨j, hj, rfl⟩ := List.mem_map.mp hx
    have hj4 : j < 4 := List.mem_range.mp hj
    wtm_at "q1"
    refine And.intro (by wtm_at "sub") ?_
    refine tests_none fun P3 => ?_
    wtm_at "q2"
    with_reducible refine ev_str ?_
    refine GETM.norm (by wtm_at "nz") ?_
    with_reducible refine getm_str PySem.F.slot_str_join PySem.F.type_str_join ?_
    refine And.intro (keep_cst (fun zz e => nomatch e)) ?_
    wtm_at "q3"
    with_reducible refine ev_ListComp (ρ0 := [(Str.ofString "j", .int (Int.ofNat j))]) (by kernel_rfl) (by wtm_at "sub") ?_ (by wtm_at "ir")
    wtm_at "q0"
    refine LOOPC.plain ((rowsB bs a).map pairT) (pickF j) (fun P4 => iter_lst) trivial (by rw [List.length_map]; omega) (fun a zz => pickF_le _ a) (fun x P4 hx => ?_) ?_
    · obtain ⟨p, hp, rfl⟩ := List.mem_map.mp hx
      with_reducible refine asg_pair ?_ (by wtm_at "ir")
      wtm_at "q1"
      wtm_at "q1"
      refine And.intro (by wtm_at "sub") ?_
      refine tests_if ?_
      with_reducible refine et_Cmp ?_ (by with_unfolding_all rfl)
      wtm_at "q0"
      with_reducible refine ev_CallN (fun h => ev_blt (by kernel_rfl) (by first | exact b_l_range (by assumption) | exact b_l_str (by assumption) | exact b_l_len (by assumption) | exact b_l_set (by assumption)) h (by decide)) (by exact keep_cst (fun zz e => nomatch e)) (by wtm_at "simple") (by wtm_at "nz") ?_ (by wtm_at "ir") (by wtm_at "ir")
      with_reducible refine call_str_int (by have : ∀ j, j < 4 → (Int.ofNat j).natAbs.log2 < 1920 := (by decide +kernel); exact this j hj4) ?_
      with_reducible refine cmp_eq_str ?_
      with_reducible refine tr_bool ?_
      by_cases hpj : (p.2 == jS j) = true
      · rw [if_pos (show (p.2 == Str.ofString (toString (Int.ofNat j))) = true from hpj)]
        intro P5
        wtm_at "q0"
        exact ⟨by show (if (p.2 == jS j) = true then [AV.str p.1] else []) = _; rw [if_pos hpj], rfl⟩
      · rw [if_neg (show ¬ (p.2 == Str.ofString (toString (Int.ofNat j))) = true from hpj)]
        exact ⟨by show (if (p.2 == jS j) = true then [AV.str p.1] else []) = _; rw [if_neg hpj], rfl⟩
    intro D
    rw [pickF_flat, row_of bs a j hj4]
    refine ⟨_, _, .froz rfl, ?_⟩
    with_reducible refine evl_nil ?_
    with_reducible refine evk_nil ?_
    wtm_at "cn"
    refine call_joinS SeqV.lst (joinOk_of_weight ?_ (by decide)) ?_
    · have h3 := fnames_length (dif (bs.getD j 0) a) 12
      have h4 : ∀ k, k < 12 → (Txt.lower (fname k)).length ≤ 18 := by decide +kernel
      have h5 := sum_le_of (fun x : Str => x.length) 18 ((fnames (dif (bs.getD j 0) a) 12).map Txt.lower) fun x hx => by
        obtain ⟨w, hw, rfl⟩ := List.mem_map.mp hx
        exact fnames_all (P := fun w => (Txt.lower w).length ≤ 18) h4 _ w hw
      rw [List.length_map] at h5 ⊢
      omega
    refine ⟨?_, rfl⟩
    show [AV.str (Txt.join (Str.ofString ", ") (pickS j ((rowsB bs a).map pairT)))] = _
    rw [pickS_is, row_of bs a j hj4]
  intro D
  rw [rowF_flat as bs hb4]
  refine ⟨_, _, .froz rfl, ?_⟩
  with_reducible refine evl_nil ?_
  with_reducible refine evk_nil ?_
  wtm_at "cn"
  refine (law_unlike_ok hK (show n + 1 ≤ 100 from nle hn rfl) (fun t ht => ?_) ?_ ?_).call
  · obtain ⟨m, rfl⟩ := rowsAll_mem ht
    have h1 := rowT_noCtl m
    have h2 := rowT_length m
    exact ⟨h1, noCtl_lower h1, by rw [sizeLine_eq]; omega, by rw [lower_len h1, sizeLine_eq]; omega⟩
  · rw [rowsAll_len ha4 hb4]
    decide
  have hle := Nat.le_trans (uniqL_len (opensAll as bs)) (Nat.le_of_eq (opensAll_len ha4 hb4))
  have hlr := Nat.le_trans (uniqL_len (rowsAll as bs)) (Nat.le_of_eq (rowsAll_len ha4 hb4))
  have hde := (uniq_opens hA (bs := bs)).2
  have hdr := (uniq_rows hB (as := as)).2
  have hpl := plain_law hA hB
  wtm_at "q1"
  with_reducible refine ex_cons ?_
  with_reducible refine x_if ?_
  with_reducible refine et_Or ?_
  with_reducible refine et_Cmp ?_ (by with_unfolding_all rfl)
  with_reducible refine ev_CallN (fun h => ev_blt (by kernel_rfl) (by first | exact b_l_range (by assumption) | exact b_l_str (by assumption) | exact b_l_len (by assumption) | exact b_l_set (by assumption)) h (by decide)) (by exact keep_cst (fun zz e => nomatch e)) (by wtm_at "simple") (by wtm_at "nz") ?_ (by wtm_at "ir") (by wtm_at "ir")
  with_reducible refine call_len SeqV.lst (le_line (by rw [List.length_map]; omega)) ?_
  rw [List.length_map]
  with_reducible refine ev_Call ?_ (by wtm_at "ir") (by wtm_at "ir") (by wtm_at "ir") (by wtm_at "ir")
  with_reducible refine ev_blt (by kernel_rfl) (by first | exact b_l_range (by assumption) | exact b_l_str (by assumption) | exact b_l_len (by assumption) | exact b_l_set (by assumption)) ?_ (by decide)
  refine And.intro (keep_cst (fun zz e => nomatch e)) ?_
  wtm_at "q3"
  with_reducible refine ev_CallN (fun h => ev_blt (by kernel_rfl) (by first | exact b_l_range (by assumption) | exact b_l_str (by assumption) | exact b_l_len (by assumption) | exact b_l_set (by assumption)) h (by decide)) (by exact keep_cst (fun zz e => nomatch e)) (by wtm_at "simple") (by wtm_at "nz") ?_ (by wtm_at "ir") (by wtm_at "ir")
  refine call_set_strs SeqV.lst (by omega) fun S => ?_
  rw [hde]
  with_reducible refine evl_nil ?_
  with_reducible refine evk_nil ?_
  wtm_at "cn"
  refine len_sset (by wtm_at "mem") (by omega) ?_
  with_reducible refine cmp_ne_int ?_
  with_reducible refine tr_bool ?_
  rw [if_neg (by simp)]
  with_reducible refine et_Cmp ?_ (by with_unfolding_all rfl)
  with_reducible refine ev_CallN (fun h => ev_blt (by kernel_rfl) (by first | exact b_l_range (by assumption) | exact b_l_str (by assumption) | exact b_l_len (by assumption) | exact b_l_set (by assumption)) h (by decide)) (by exact keep_cst (fun zz e => nomatch e)) (by wtm_at "simple") (by wtm_at "nz") ?_ (by wtm_at "ir") (by wtm_at "ir")
  with_reducible refine call_len SeqV.lst (le_line (by rw [List.length_map]; omega)) ?_
  rw [List.length_map]
  with_reducible refine ev_Call ?_ (by wtm_at "ir") (by wtm_at "ir") (by wtm_at "ir") (by wtm_at "ir")
  with_reducible refine ev_blt (by kernel_rfl) (by first | exact b_l_range (by assumption) | exact b_l_str (by assumption) | exact b_l_len (by assumption) | exact b_l_set (by assumption)) ?_ (by decide)
  refine And.intro (keep_cst (fun zz e => nomatch e)) ?_
  wtm_at "q3"
  with_reducible refine ev_CallN (fun h => ev_blt (by kernel_rfl) (by first | exact b_l_range (by assumption) | exact b_l_str (by assumption) | exact b_l_len (by assumption) | exact b_l_set (by assumption)) h (by decide)) (by exact keep_cst (fun zz e => nomatch e)) (by wtm_at "simple") (by wtm_at "nz") ?_ (by wtm_at "ir") (by wtm_at "ir")
  refine call_set_strs SeqV.lst (by omega) fun S2 => ?_
  rw [hdr]
  with_reducible refine evl_nil ?_
  with_reducible refine evk_nil ?_
  wtm_at "cn"
  refine len_sset (by wtm_at "mem") (by omega) ?_
  with_reducible refine cmp_ne_int ?_
  with_reducible refine tr_bool ?_
  rw [if_neg (by simp)]
  with_reducible refine ex_nil ?_
  with_reducible refine ex_last ?_
  with_reducible refine x_return ?_
  with_reducible refine ev_Cmp ?_ (by with_unfolding_all rfl)
  with_reducible refine ev_BinOp ?_
  with_reducible refine ev_CallN (fun h => ev_blt (by kernel_rfl) (by first | exact b_l_range (by assumption) | exact b_l_str (by assumption) | exact b_l_len (by assumption) | exact b_l_set (by assumption)) h (by decide)) (by exact keep_cst (fun zz e => nomatch e)) (by wtm_at "simple") (by wtm_at "nz") ?_ (by wtm_at "ir") (by wtm_at "ir")
  with_reducible refine call_len SeqV.lst (le_line (by rw [List.length_map]; omega)) ?_
  rw [List.length_map]
  with_reducible refine ev_CallN (fun h => ev_blt (by kernel_rfl) (by first | exact b_l_range (by assumption) | exact b_l_str (by assumption) | exact b_l_len (by assumption) | exact b_l_set (by assumption)) h (by decide)) (by exact keep_cst (fun zz e => nomatch e)) (by wtm_at "simple") (by wtm_at "nz") ?_ (by wtm_at "ir") (by wtm_at "ir")
  with_reducible refine call_len SeqV.lst (le_line (by rw [List.length_map]; omega)) ?_
  rw [List.length_map]
  with_reducible refine op_mul_int (mul_small (by omega) (by omega)) ?_
  with_reducible refine ev_BinOp ?_
  with_reducible refine ev_Call ?_ (by wtm_at "ir") (by wtm_at "ir") (by wtm_at "ir") (by wtm_at "ir")
  with_reducible refine ev_blt (by kernel_rfl) (by first | exact b_l_range (by assumption) | exact b_l_str (by assumption) | exact b_l_len (by assumption) | exact b_l_set (by assumption)) ?_ (by decide)
  refine And.intro (keep_cst (fun zz e => nomatch e)) ?_
  wtm_at "q3"
  with_reducible refine ev_Call ?_ (by wtm_at "ir") (by wtm_at "ir") (by wtm_at "ir") (by wtm_at "ir")
  with_reducible refine ev_blt (by kernel_rfl) (by first | exact b_l_range (by assumption) | exact b_l_str (by assumption) | exact b_l_len (by assumption) | exact b_l_set (by assumption)) ?_ (by decide)
  refine And.intro (keep_cst (fun zz e => nomatch e)) ?_
  wtm_at "q3"
  have nl1 : sliceL ((as ++ bs).map fun (m : Nat) => AV.int (m : Nat)) none (some 4) = (as.map fun (m : Nat) => (m : Int)).map .int := by
    have e0 : ∀ xs : List AV, sliceL xs none (some 4) = xs.take 4 := fun xs => by
      show (if (0 : Int) ≤ 4 then List.take (4 : Int).toNat xs else List.take (xs.length - (-(4 : Int)).toNat) xs) = _
      rw [if_pos (by decide)]
      rfl
    rw [e0, List.map_append, List.take_left' (by simp [ha4]), List.map_map]
    rfl
  have nl2 : sliceL ((as ++ bs).map fun (m : Nat) => AV.int (m : Nat)) (some 4) none = (bs.map fun (m : Nat) => (m : Int)).map .int := by
    have e0 : ∀ xs : List AV, sliceL xs (some 4) none = xs.drop 4 := fun xs => rfl
    rw [e0, List.map_append, List.drop_left' (by simp [ha4]), List.map_map]
    rfl
  have q1 := ddK_len (as.map fun (m : Nat) => (m : Int))
  have q2 := ddK_len (bs.map fun (m : Nat) => (m : Int))
  rw [List.length_map] at q1 q2
  with_reducible refine ev_Sub ?_
  wtm_at "q0"
  refine ev_Slice ?_
  with_reducible refine ev_int ?_
  refine item_slice SeqV.lst .none (.int 4) (fun i e => nomatch e) (fun i j e => nomatch e) (le_line (by rw [List.length_map]; omega)) ?_
  rw [nl1]
  with_reducible refine evl_nil ?_
  with_reducible refine evk_nil ?_
  wtm_at "cn"
  refine call_set_ints SeqV.lst (by rw [List.length_map]; omega) fun S3 => ?_
  with_reducible refine evl_nil ?_
  with_reducible refine evk_nil ?_
  wtm_at "cn"
  refine len_iset (by wtm_at "mem") (by omega) ?_
  with_reducible refine ev_Call ?_ (by wtm_at "ir") (by wtm_at "ir") (by wtm_at "ir") (by wtm_at "ir")
  with_reducible refine ev_blt (by kernel_rfl) (by first | exact b_l_range (by assumption) | exact b_l_str (by assumption) | exact b_l_len (by assumption) | exact b_l_set (by assumption)) ?_ (by decide)
  refine And.intro (keep_cst (fun zz e => nomatch e)) ?_
  wtm_at "q3"
  with_reducible refine ev_Call ?_ (by wtm_at "ir") (by wtm_at "ir") (by wtm_at "ir") (by wtm_at "ir")
  with_reducible refine ev_blt (by kernel_rfl) (by first | exact b_l_range (by assumption) | exact b_l_str (by assumption) | exact b_l_len (by assumption) | exact b_l_set (by assumption)) ?_ (by decide)
  refine And.intro (keep_cst (fun zz e => nomatch e)) ?_
  wtm_at "q3"
  with_reducible refine ev_Sub ?_
  wtm_at "q0"
  refine ev_Slice ?_
  with_reducible refine ev_int ?_
  refine item_slice SeqV.lst (.int 4) .none (fun i e => by cases e; decide) (fun i j zz e => nomatch e) (le_line (by rw [List.length_map]; omega)) ?_
  rw [nl2]
  with_reducible refine evl_nil ?_
  with_reducible refine evk_nil ?_
  wtm_at "cn"
  refine call_set_ints SeqV.lst (by rw [List.length_map]; omega) fun S4 => ?_
  with_reducible refine evl_nil ?_
  with_reducible refine evk_nil ?_
  wtm_at "cn"
  refine len_iset (by wtm_at "mem") (by omega) ?_
  with_reducible refine op_mul_int (mul_small (by omega) (by omega)) ?_
  with_reducible refine cmp_ge_int ?_
  rw [decide_eq_true (by
    rw [ddK_int, ddK_int]
    exact_mod_cast hpl)]
  exact ⟨L, by wtm_at "slb", hQ⟩
end
end
end Mine
open PySem PySem.W PyProof.Rows
set_option maxRecDepth 100000
set_option linter.unusedVariables false
namespace Mine
open PySem.Spec PySem.Calls
theorem sys_of {h : Heap} (x : h.NoSeer) : ∃ o, h.get? sysModules = some o ∧ o ≠ tabObj #[] := by
  obtain ⟨mm, ⟨o, es, ep, h1, h2, _⟩, _⟩ := x.mods
  exact ⟨o, h1, fun e => by rw [e] at h2; cases h2⟩
theorem post_true (l : OpenLaw) (args : List WData) : l.row.claim.post args (.bool true) args = true := by
  have h1 : WShape.has l.row.records (.bool true) l.row.returns = true := by show WShape.has [] (.bool true) .bool = true; unfold WShape.has; rfl
  have h2 : l.row.post.value l.row.records { args := args, res := some (.bool true), after := args } = some (.bool (true == true)) := by
    show (WTm.eq .res (.lit (.bool true))).value [] _ = _
    exact w_eq_bool (by simp [WTm.value]) (by simp [WTm.value])
  exact postW_of h1 h2 rfl
theorem law_at {K : Frag} {h : Heap} {mg : Str → Option Value} (X : K.In h) (G : h.Ns mainGlobals mg) {x : Str} {f fa : Addr} (e : nsIn K mainGlobals x = some (some (.ref f))) (hm : mg x = some (.ref fa)) : fa = f := by
  have := mg_of X G e
  rw [hm] at this
  exact Value.ref.inj (Option.some.inj this)
end Mine
set_option maxRecDepth 100000 in
set_option maxHeartbeats 8000000 in
theorem PySem.Challenge.cw_ku0039_01_holds : PySem.Challenge.rw_ku0039_01.Holds :=
  Mine.hd (And.intro Mine.left1 (by
  k_fill
  intro w s₀ s₁ mg mb G Y fa o pm cd doc dV kV ho hd hcd hD hmg hg args vals as hpre hlay hrd hwl hlo
  have KX := km_in_of Y
  km_tabs Y
  refine Ground.open G ?_
  intro T B D TE TW
  try (refine guard_noD D (by decide +kernel) ?_; clear D)
  km_lay T hmg ho hd cd
  wrow_args hpre hlay hrd hwl hlo
  have hfa : fa = 357 := Mine.law_at (f := 357) (x := Str.ofString "law") KX T.g (by kernel_rfl) hmg
  subst hfa
  rename List Int => sc
  have hlen : sc.length ≤ 63 := by omega
  refine enter_call ?_
  refine Mine.join_up (K := Mine.hd.heap_1 w.params) hT9 KX (by kernel_rfl) T hg (fun zz => rfl) (Mine.post_true _ _) (by assumption) (by assumption) ?_
  exact Mine.law_ok (C := Mine.cxOf _ w (Mine.hd.heap_1 w.params) s₁ mg mb 125 123) rfl (by decide) (Mine.cxOf_lam hT9 T (Mine.sys_of (T.seer (by decide +kernel)))) hlen rfl))
