import PyProof.Rows.All
import Wide.All
import OpenK.AllK
import Wide.FinOn
import PySem.Challenge.RW_dm0047_09
set_option Elab.async false
section
open PySem PySem.W
set_option maxRecDepth 100000
set_option maxHeartbeats 0
namespace Mine
noncomputable def anyF.{u} (α : Type u) (a : Array α) (f : α → Bool) (start : Nat) (stop : Nat) : Bool :=
  match Nat.beq start 0, Nat.beq stop a.toList.length with
  | true, true => PySem.W.R.anyR a.toList f
  | _, _ => Array.any a f start stop
theorem anyF_eq.{u} : @Array.any.{u} = @anyF.{u} := by
  funext α a f start stop
  unfold anyF
  split
  · rename_i h1 h2
    have h1 := Nat.eq_of_beq_eq_true h1
    have h2 := Nat.eq_of_beq_eq_true h2
    subst h1; subst h2
    rw [← PySem.W.R.anyR_eq, Array.any_toList]; rfl
  · rfl
/-- the right side of an equation -/
def rhs {a b : PySem.Builtin} (_ : a = b) : PySem.Builtin := b
theorem newP : type_of% ((by delta PySem.W.Fast.tw4202317264376624991; rw [anyF_eq.{0}]) : PySem.W.Fast.tw4202317264376624991 = _) := by
  delta PySem.W.Fast.tw4202317264376624991
  rw [anyF_eq.{0}]
noncomputable def new : PySem.Builtin := rhs newP
theorem new_eq : PySem.Builtin.«type.__new__» = new := PySem.W.Fast.te4202317264376624991.trans newP
noncomputable def tree (id : String) : Option PySem.Builtin :=
  @Bool.rec (fun _ => Option PySem.Builtin) (PySem.W.Fast.tw14364793385576792824 id) (some new) (Nat.beq (PySem.W.Fast.tw13482112738370960269 id) (PySem.W.Fast.tw13482112738370960269 "type.__new__"))
theorem tree_eq : PySem.treeTable = tree := by
  funext id
  unfold tree
  cases h : Nat.beq (PySem.W.Fast.tw13482112738370960269 id) (PySem.W.Fast.tw13482112738370960269 "type.__new__") with
  | false => show _ = PySem.W.Fast.tw14364793385576792824 id; rw [← PySem.W.Fast.te14364793385576792824]
  | true =>
    show _ = some new
    have h := Nat.eq_of_beq_eq_true h
    rw [← PySem.W.Fast.te13482112738370960269] at h
    have h := PySem.code_inj _ _ h
    subst h
    rw [← new_eq]
    have : PySem.treeTable "type.__new__" = some PySem.Builtin.«type.__new__» := by kernel_rfl
    exact this
end Mine
end

section
open PySem PySem.W
set_option maxRecDepth 100000
set_option maxHeartbeats 0
set_option Elab.async false
namespace Mine

noncomputable def topRunT (tb : String → Option PySem.Builtin) (p : Program) (w : World) (n₀ : Nat) (ann : Option Value) : Nat → SharedT → Thread → Option SharedT
  | 0, _, _ => none
  | n + 1, s, t => match through t with
    | true => some s
    | false => match PySem.W.Fast.tw6613529449190102663 n₀ ann t with
      | false => none
      | true => match PySem.W.Fast.tw10156331382660048174 (PySem.W.Fast.tw11892475500146522536 tb) p w s t with
        | some (s', t') => topRunT tb p w n₀ ann n s' t'
        | none => none
theorem topRun_of {tb : String → Option PySem.Builtin} {p : Program} {w : World} {n₀ : Nat} {ann : Option Value} : ∀ {n : Nat} {s s' : SharedT} {t : Thread},
    topRunT tb p w n₀ ann n s t = some s' → topRun tb p w n₀ ann n s.abs t = some s'.abs
  | 0, _, _, _, h => by cases h
  | n + 1, s, s', t, h => by
    unfold topRunT at h
    unfold topRun
    cases ht : through t with
    | true => rw [ht] at h; cases h; rfl
    | false =>
      rw [ht] at h
      rw [← PySem.W.Fast.te6613529449190102663, ← PySem.W.Fast.te10156331382660048174, ← PySem.W.Fast.te11892475500146522536] at h
      cases hk : stepOk n₀ ann t with
      | false => rw [hk] at h; cases h
      | true =>
        rw [hk] at h
        cases hs : stepT (denote tb) p w s t with
        | none => rw [hs] at h; cases h
        | some r => obtain ⟨s₂, t₂⟩ := r; rw [hs] at h; dsimp only; rw [stepT_spec hs]; exact topRun_of h

noncomputable def impRunT (tb : String → Option PySem.Builtin) (p : Program) (w : World) : Nat → SharedT → Thread → Option SharedT
  | 0, _, _ => none
  | n + 1, s, t => match PySem.W.Fast.tw3805553451399329143 t with
    | some [] => some s
    | some (_ :: _) => none
    | none => match PySem.W.Fast.tw10156331382660048174 (PySem.W.Fast.tw11892475500146522536 tb) p w s t with
      | some (s', t') => impRunT tb p w n s' t'
      | none => none
theorem importEnds_of {tb : String → Option PySem.Builtin} {p : Program} {w : World} : ∀ {n : Nat} {s s' : SharedT} {t : Thread},
    impRunT tb p w n s t = some s' → importEnds tb p w n s.abs t = some s'.abs
  | 0, _, _, _, h => by cases h
  | n + 1, s, s', t, h => by
    unfold impRunT at h
    unfold importEnds
    rw [← PySem.W.Fast.te3805553451399329143, ← PySem.W.Fast.te10156331382660048174, ← PySem.W.Fast.te11892475500146522536] at h
    cases ht : t.atExitBegin with
    | some l => rw [ht] at h; cases l with
      | nil => cases h; rfl
      | cons a l => cases h
    | none =>
      rw [ht] at h
      cases hs : stepT (denote tb) p w s t with
      | none => rw [hs] at h; cases h
      | some r => obtain ⟨s₂, t₂⟩ := r; rw [hs] at h; dsimp only; rw [stepT_spec hs]; exact importEnds_of h

def layB : List Obj → BT → Nat → Option (BT × Nat)
  | [], T, n => some (T, n)
  | o :: l, T, n => match ((T.ins n o).get n).isSome with
    | true => layB l (T.ins n o) (n + 1)
    | false => none
theorem layB_spec (life : Life) : ∀ {l : List Obj} {T T' : BT} {n n' : Nat}, layB l T n = some (T', n') → absHeap T' n' life = ⟨((absHeap T n life).objs.toList ++ l).toArray, life⟩
  | [], T, T', n, n', h => by
    cases h
    rw [List.append_nil]
    rfl
  | o :: l, T, T', n, n', h => by
    unfold layB at h
    cases hs : ((T.ins n o).get n).isSome with
    | false => rw [hs] at h; cases h
    | true =>
      rw [hs] at h
      rw [layB_spec life h, absHeap_ins hs]
      show Heap.mk _ _ = Heap.mk _ _
      congr 2
      show ((absHeap T n life).objs.push o).toList ++ l = _
      rw [Array.toList_push, List.append_assoc]
      rfl

def startT (os : OsState) : SharedT := ⟨.nil, 0, {}, #[], {}, 1, os⟩

noncomputable def fromTop (tb : String → Option PySem.Builtin) (p : Program) (w : World) (N : Nat) (s₀ : Shared) : Option SharedT :=
  match s₀.heap.isNs mainGlobals && s₀.gens.size == 0 with
  | false => none
  | true => match layB s₀.heap.objs.toList .nil 0 with
    | none => none
    | some (T, n) => match topRunT tb p w s₀.heap.objs.size (PySem.W.Fast.tw8920871248978507458 s₀.heap mainGlobals "__annotations__") N ⟨T, n, s₀.heap.life, s₀.gens, s₀.drawn, s₀.toks, s₀.os⟩ (topStub p) with
      | none => none
      | some s₂ => match staticsOk (importedModules p.main.body) s₀.heap s₂.abs.heap && namesBound p s₂.abs.heap && gensDone s₂.abs && laidKept s₀.heap s₂.abs.heap with
        | true => some s₂
        | false => none
theorem fromTop_spec {tb : String → Option PySem.Builtin} {p : Program} {w : World} {N : Nat} {s₀ : Shared} {s₂ : SharedT} (h : fromTop tb p w N s₀ = some s₂) : topFrom tb p w N s₀ = some s₂.abs := by
  unfold fromTop at h
  unfold topFrom
  cases hg : (s₀.heap.isNs mainGlobals && s₀.gens.size == 0) with
  | false => rw [hg] at h; cases h
  | true =>
    rw [hg] at h
    dsimp only at h ⊢
    rw [← PySem.W.Fast.te8920871248978507458] at h
    cases hl : layB s₀.heap.objs.toList .nil 0 with
    | none => rw [hl] at h; cases h
    | some x =>
      obtain ⟨T, n⟩ := x
      rw [hl] at h
      dsimp only at h
      have e : (⟨T, n, s₀.heap.life, s₀.gens, s₀.drawn, s₀.toks, s₀.os⟩ : SharedT).abs = s₀ := by
        unfold SharedT.abs
        rw [layB_spec s₀.heap.life hl]
        rfl
      cases ht : topRunT tb p w s₀.heap.objs.size (Heap.nsMap s₀.heap mainGlobals "__annotations__") N ⟨T, n, s₀.heap.life, s₀.gens, s₀.drawn, s₀.toks, s₀.os⟩ (topStub p) with
      | none => rw [ht] at h; cases h
      | some s₃ =>
        rw [ht] at h
        dsimp only at h
        have z := topRun_of ht
        rw [e] at z
        rw [z]
        show (match staticsOk (importedModules p.main.body) s₀.heap s₃.abs.heap && namesBound p s₃.abs.heap && gensDone s₃.abs && laidKept s₀.heap s₃.abs.heap with | true => some s₃.abs | false => none) = _
        cases hs : (staticsOk (importedModules p.main.body) s₀.heap s₃.abs.heap && namesBound p s₃.abs.heap && gensDone s₃.abs && laidKept s₀.heap s₃.abs.heap) with
        | false => rw [hs] at h; cases h
        | true => rw [hs] at h; cases h; rfl

noncomputable def runAll (tb : String → Option PySem.Builtin) (p : Program) (w : World) (N : Nat) : Option SharedT :=
  match impRunT tb (opening p) w N (startT (PySem.W.Fast.tw1435165496053646825 (opening p)).1.os) (PySem.W.Fast.tw1435165496053646825 (opening p)).2 with
  | none => none
  | some s₁ => match PySem.W.Fast.tw14289696077712309145 p s₁.abs with
    | none => none
    | some s₀ => fromTop tb p w N s₀
theorem runAll_spec {tb : String → Option PySem.Builtin} {p : Program} {w : World} {N : Nat} {s₂ : SharedT} (h : runAll tb p w N = some s₂) : openEnds tb p w N = some s₂.abs := by
  unfold runAll at h
  rw [← PySem.W.Fast.te1435165496053646825, ← PySem.W.Fast.te14289696077712309145] at h
  unfold openEnds fencedOpening
  cases h1 : impRunT tb (opening p) w N (startT (start (opening p)).1.os) (start (opening p)).2 with
  | none => rw [h1] at h; cases h
  | some s₁ =>
    rw [h1] at h
    dsimp only at h
    have z := importEnds_of h1
    have e : (startT (start (opening p)).1.os).abs = (start (opening p)).1 := rfl
    rw [e] at z
    rw [z]
    show (Option.bind (fenceModules? p s₁.abs) _) = _
    cases h2 : fenceModules? p s₁.abs with
    | none => rw [h2] at h; cases h
    | some s₀ => rw [h2] at h; exact fromTop_spec h

theorem left_of {p p' q : Program} {loose : List Str} {Xt : Shared → Bool} {α : Type} {Yf : Shared → α} {Ya : World → α} {N : Nat} (ep : p = p')
    (h : ∀ w, (runAll Mine.tree p' w N).map (fun s => (PySem.W.Fast.tw4187177175401517315 q loose (importedModules p'.main.body) Xt true s.abs, Yf s.abs)) = some (openGood q loose, Ya w)) : LeftO p q loose Xt Yf Ya N := by
  subst ep
  intro w
  have h := h w
  rw [← PySem.W.Fast.te4187177175401517315] at h
  rw [Mine.tree_eq]
  cases hr : runAll Mine.tree p w N with
  | none => rw [hr] at h; cases h
  | some s => rw [hr] at h; rw [runAll_spec hr]; exact h
end Mine
end

section
open PySem PySem.W
set_option maxRecDepth 100000
set_option maxHeartbeats 0
set_option Elab.async false
lay_quick PySem.Challenge.pw_dm0047_09
namespace Mine
open PySem PySem.W
abbrev pw : Program := PySem.Challenge.pw_dm0047_09
noncomputable abbrev pT : Program := PySem.W.Fast.tw15553791617079895417
theorem pT_eq : pw = pT := PySem.W.Fast.te15553791617079895417
noncomputable def topSt (i : Nat) : Stmt := (pT.main.body[i]?).getD (.Pass ⟨0, 0, 0, 0⟩)
noncomputable def inSt (i j : Nat) : Stmt := match topSt i with | .ClassDef _ _ _ b _ _ _ _ _ _ _ => (b[j]?).getD (.Pass ⟨0, 0, 0, 0⟩) | s => s
def fnObj (st : Stmt) (q : Str) (df pm cd : Value) : Obj := match st with
  | .FunctionDef name args body _ _ _ scope _ _ _ => { cls := .type "function", data := .func { name := name, qualname := q, params := args, body := .stmts body, scope := scope, globals := 3, closure := [], defaults := df, kwdefaults := .none, doc := .none, pyModule := pm, code := cd } }
  | _ => default
noncomputable def qv : Program := view pT [7, 12, 13, 14, 15]
def loose : List Str := [Str.ofString "_sre", Str.ofString "_wall", Str.ofString "_tuplegetter", Str.ofString "Match", Str.ofString "_calculate_ratio", Str.ofString "SequenceMatcher", Str.ofString "Differ", Str.ofString "_twin_re_1", Str.ofString "IS_LINE_JUNK"]
noncomputable def ob270 : Obj := fnObj (topSt 7) (Str.ofString "_keep_original_ws") (.none) (.str (Str.ofString "cpy313.difflib") 289) (.ref 269)
noncomputable def ob285 : Obj := fnObj (inSt 8 1) (Str.ofString "Differ.__init__") (.ref 278) (.str (Str.ofString "cpy313.difflib") 289) (.ref 284)
noncomputable def ob327 : Obj := fnObj (inSt 8 7) (Str.ofString "Differ._qformat") (.none) (.str (Str.ofString "cpy313.difflib") 289) (.ref 326)
noncomputable def ob348 : Obj := fnObj (topSt 10) (Str.ofString "IS_LINE_JUNK") (.ref 341) (.str (Str.ofString "cpy313.difflib") 289) (.ref 347)
noncomputable def ob353 : Obj := fnObj (topSt 12) (Str.ofString "_law_whites") (.none) (.str (Str.ofString "law_dm0047_09") 890) (.ref 352)
noncomputable def ob360 : Obj := fnObj (topSt 13) (Str.ofString "_law_text") (.none) (.str (Str.ofString "law_dm0047_09") 890) (.ref 359)
noncomputable def ob365 : Obj := fnObj (topSt 14) (Str.ofString "_law_rows") (.none) (.str (Str.ofString "law_dm0047_09") 890) (.ref 364)
noncomputable def ob370 : Obj := fnObj (topSt 15) (Str.ofString "law") (.none) (.str (Str.ofString "law_dm0047_09") 890) (.ref 369)
noncomputable def ob264 : Obj := { cls := .type "tuple", data := .seq #[] 0 }
noncomputable def ob265 : Obj := { cls := .none, data := .fields #[] }
noncomputable def ob269 : Obj := { cls := .type "code", data := .fields #[.str (Str.ofString "_keep_original_ws") 688, .str (Str.ofString "_keep_original_ws") 689, .str (Str.ofString "/claim/cut.py") 690, .int (489) 0, .int (2) 0, .int (0) 0, .int (0) 0, .int (3) 0, .ref 264, .bool true, .int (276) 0, .ref 265, .none, .ref 266, .ref 267, .ref 268, .int (693) 0, .int (489) 0, .str (Str.ofString "/claim/cut.py") 694] }
noncomputable def ob279 : Obj := { cls := .type "tuple", data := .seq #[] 0 }
noncomputable def ob280 : Obj := { cls := .none, data := .fields #[] }
noncomputable def ob284 : Obj := { cls := .type "code", data := .fields #[.str (Str.ofString "__init__") 712, .str (Str.ofString "Differ.__init__") 713, .str (Str.ofString "/claim/cut.py") 714, .int (578) 0, .int (3) 0, .int (0) 0, .int (0) 0, .int (3) 0, .ref 279, .bool true, .int (276) 0, .ref 280, .none, .ref 281, .ref 282, .ref 283, .int (718) 0, .int (578) 0, .str (Str.ofString "/claim/cut.py") 719] }
noncomputable def ob321 : Obj := { cls := .type "tuple", data := .seq #[] 0 }
noncomputable def ob322 : Obj := { cls := .none, data := .fields #[] }
noncomputable def ob326 : Obj := { cls := .type "code", data := .fields #[.str (Str.ofString "_qformat") 818, .str (Str.ofString "Differ._qformat") 819, .str (Str.ofString "/claim/cut.py") 820, .int (730) 0, .int (5) 0, .int (0) 0, .int (0) 0, .int (35) 0, .ref 321, .bool true, .int (276) 0, .ref 322, .none, .ref 323, .ref 324, .ref 325, .int (826) 0, .int (730) 0, .str (Str.ofString "/claim/cut.py") 827] }
noncomputable def ob342 : Obj := { cls := .type "tuple", data := .seq #[] 0 }
noncomputable def ob343 : Obj := { cls := .none, data := .fields #[] }
noncomputable def ob347 : Obj := { cls := .type "code", data := .fields #[.str (Str.ofString "IS_LINE_JUNK") 881, .str (Str.ofString "IS_LINE_JUNK") 882, .str (Str.ofString "/claim/cut.py") 883, .int (755) 0, .int (2) 0, .int (0) 0, .int (0) 0, .int (3) 0, .ref 342, .bool true, .int (276) 0, .ref 343, .none, .ref 344, .ref 345, .ref 346, .int (886) 0, .int (755) 0, .str (Str.ofString "/claim/cut.py") 887] }
noncomputable def ob349 : Obj := { cls := .type "tuple", data := .seq #[] 0 }
noncomputable def ob350 : Obj := { cls := .none, data := .fields #[] }
noncomputable def ob352 : Obj := { cls := .type "code", data := .fields #[.str (Str.ofString "_law_whites") 892, .str (Str.ofString "_law_whites") 893, .str (Str.ofString "/claim/cut.py") 894, .int (770) 0, .int (0) 0, .int (0) 0, .int (0) 0, .int (3) 0, .ref 349, .bool true, .int (276) 0, .ref 350, .none, .none, .none, .ref 351, .int (895) 0, .int (770) 0, .str (Str.ofString "/claim/cut.py") 896] }
noncomputable def ob354 : Obj := { cls := .type "tuple", data := .seq #[] 0 }
noncomputable def ob355 : Obj := { cls := .none, data := .fields #[] }
noncomputable def ob359 : Obj := { cls := .type "code", data := .fields #[.str (Str.ofString "_law_text") 898, .str (Str.ofString "_law_text") 899, .str (Str.ofString "/claim/cut.py") 900, .int (773) 0, .int (2) 0, .int (0) 0, .int (0) 0, .int (3) 0, .ref 354, .bool true, .int (276) 0, .ref 355, .none, .ref 356, .ref 357, .ref 358, .int (909) 0, .int (773) 0, .str (Str.ofString "/claim/cut.py") 910] }
noncomputable def ob361 : Obj := { cls := .type "tuple", data := .seq #[] 0 }
noncomputable def ob362 : Obj := { cls := .none, data := .fields #[] }
noncomputable def ob364 : Obj := { cls := .type "code", data := .fields #[.str (Str.ofString "_law_rows") 912, .str (Str.ofString "_law_rows") 913, .str (Str.ofString "/claim/cut.py") 914, .int (788) 0, .int (4) 0, .int (0) 0, .int (0) 0, .int (3) 0, .ref 361, .bool true, .int (276) 0, .ref 362, .none, .none, .none, .ref 363, .int (915) 0, .int (788) 0, .str (Str.ofString "/claim/cut.py") 916] }
noncomputable def ob366 : Obj := { cls := .type "tuple", data := .seq #[] 0 }
noncomputable def ob367 : Obj := { cls := .none, data := .fields #[] }
noncomputable def ob369 : Obj := { cls := .type "code", data := .fields #[.str (Str.ofString "law") 918, .str (Str.ofString "law") 919, .str (Str.ofString "/claim/cut.py") 920, .int (792) 0, .int (1) 0, .int (0) 0, .int (0) 0, .int (3) 0, .ref 366, .bool true, .int (276) 0, .ref 367, .none, .none, .none, .ref 368, .int (921) 0, .int (792) 0, .str (Str.ofString "/claim/cut.py") 922] }
noncomputable def ob278 : Obj := { cls := .type "tuple", data := .seq #[.none, .none] 0 }
noncomputable def ob338 : Obj := { cls := .type "tuple", data := .seq #[.int (14) 0, .int (4) 0, .int (0) 0, .int (0) 0, .int (4294967295) 0, .int (24) 0, .int (9) 0, .int (0) 0, .int (4294967295) 0, .int (13) 0, .int (4) 0, .int (8) 0, .int (12) 0, .int (0) 0, .int (1) 0, .int (23) 0, .int (15) 0, .int (0) 0, .int (1) 0, .int (16) 0, .int (35) 0, .int (24) 0, .int (9) 0, .int (0) 0, .int (4294967295) 0, .int (13) 0, .int (4) 0, .int (8) 0, .int (12) 0, .int (0) 0, .int (1) 0, .int (18) 0, .int (6) 0, .int (5) 0, .int (1) 0] 0 }
noncomputable def ob339 : Obj := { cls := .type "re.Pattern", data := .fields #[.str (Str.ofString "\\s*(?:#\\s*)?$") 840, .int (32) 878, .int (0) 0, .none, .none, .ref 338, .int (0) 0] }
noncomputable def ob340 : Obj := { cls := .type "builtin_function_or_method", data := .fields #[.builtin "re.Pattern.match", .ref 339] }
noncomputable def ob341 : Obj := { cls := .type "tuple", data := .seq #[.ref 340] 0 }
noncomputable def ob330 : Obj := { cls := .type "type", data := .cls { name := Str.ofString "Differ", bases := [.type "object"], mro := [.ref 330, .type "object"], ns := 329, qualname := Str.ofString "Differ", hasDict := true, slotNames := [], subclasses := [], abstract := false, hasDel := false }, slots := #[none, none, some (.str (Str.ofString "Differ") 697), some (.str (Str.ofString "Differ") 705), some (.builtin "object.__new__"), some (.bool true)] }
noncomputable def ko : List (Addr × Obj) := [(270, ob270), (285, ob285), (327, ob327), (348, ob348), (353, ob353), (360, ob360), (365, ob365), (370, ob370), (264, ob264), (265, ob265), (269, ob269), (279, ob279), (280, ob280), (284, ob284), (321, ob321), (322, ob322), (326, ob326), (342, ob342), (343, ob343), (347, ob347), (349, ob349), (350, ob350), (352, ob352), (354, ob354), (355, ob355), (359, ob359), (361, ob361), (362, ob362), (364, ob364), (366, ob366), (367, ob367), (369, ob369), (278, ob278), (338, ob338), (339, ob339), (340, ob340), (341, ob341), (330, ob330)]
def kn : List (Addr × Str × Option Value) := [(329, Str.ofString "__init__", some (.ref 285)), (329, Str.ofString "_qformat", some (.ref 327)), (329, Str.ofString "__new__", none), (329, Str.ofString "__init_subclass__", none), (329, Str.ofString "__getattribute__", none), (329, Str.ofString "__getattr__", none), (329, Str.ofString "__del__", none), (329, Str.ofString "__class__", none), (329, Str.ofString "__slots__", none), (329, Str.ofString "__call__", none), (329, Str.ofString "__dict__", some (.ref 331)), (3, Str.ofString "_keep_original_ws", some (.ref 270)), (3, Str.ofString "Differ", some (.ref 330)), (3, Str.ofString "IS_LINE_JUNK", some (.ref 348)), (3, Str.ofString "_law_whites", some (.ref 353)), (3, Str.ofString "_law_text", some (.ref 360)), (3, Str.ofString "_law_rows", some (.ref 365)), (3, Str.ofString "law", some (.ref 370)), (329, Str.ofString "__setattr__", none), (329, Str.ofString "linejunk", none), (329, Str.ofString "charjunk", none)]
end Mine
namespace Mine
def noDoc (o : Obj) : Obj := match o with
  | ⟨c, d, .func f, s⟩ => ⟨c, d, .func { f with doc := .none }, s⟩
  | o => o
noncomputable def Yf (s : Shared) : List (Option Obj) × List (Bool × Option Value) := (ko.map fun x => (s.heap.get? x.1).map noDoc, kn.map fun x => (s.heap.isNs x.1, PySem.W.Fast.tw8920871248978507458 s.heap x.1 x.2.1))
noncomputable def Ya (_ : World) : List (Option Obj) × List (Bool × Option Value) := (ko.map fun x => some x.2, kn.map fun x => (true, x.2.2))
theorem left : LeftO pw qv loose (fun _ => true) Yf Ya 6000 := left_of pT_eq (fun w => by kernel_rfl)
end Mine
end

section
open PySem PySem.W PyProof.Rows
set_option maxRecDepth 100000
set_option maxHeartbeats 0
set_option Elab.async false
namespace Mine
def YP (_ : World) (h : Heap) : Prop := (∀ x ∈ ko, ∃ o, h.get? x.1 = some o ∧ noDoc o = x.2) ∧ ∀ x ∈ kn, ∃ m, h.Ns x.1 m ∧ m x.2.1 = x.2.2
theorem YP_of (w : World) (s : Shared) (e : Yf s = Ya w) : YP w s.heap := by
  unfold Yf Ya at e
  rw [← PySem.W.Fast.te8920871248978507458] at e
  obtain ⟨e1, e2⟩ := Prod.mk.inj e
  have z1 := List.map_inj_left.mp e1
  have z2 := List.map_inj_left.mp e2
  refine ⟨fun x hx => ?_, fun x hx => ?_⟩
  · obtain ⟨o, ho, hn⟩ := Option.map_eq_some_iff.mp (z1 x hx)
    exact ⟨o, ho, hn⟩
  · obtain ⟨q1, q2⟩ := Prod.mk.inj (z2 x hx)
    exact ⟨_, .of_isNs q1, q2⟩
theorem YP_keeps (w : World) (h h' : Heap) (y : YP w h) (hk : ∀ b o, h.get? b = some o → h'.get? b = some o) : YP w h' :=
  ⟨fun x hx => let ⟨o, ho, hn⟩ := y.1 x hx; ⟨o, hk _ _ ho, hn⟩, fun x hx => let ⟨m, hm, hv⟩ := y.2 x hx; ⟨m, hm.keeps hk, hv⟩⟩
noncomputable def lawD : DefRec := match topSt 15 with
  | .FunctionDef name args body _ _ _ scope _ _ pos => ⟨name, args, body, scope, pos⟩
  | _ => ⟨Str.ofString "", ⟨[], [], none, [], [], none, []⟩, [], default, ⟨0, 0, 0, 0⟩⟩
theorem law_def : defOf qv (Str.ofString "law") = some (lawD, []) := by kernel_rfl
theorem law_the : pw.theDef (Str.ofString "law") = some (lawD.params, lawD.body, lawD.scope) := by rw [pT_eq]; kernel_rfl
theorem law_kw : kwWritten? lawD.params.kwonlyargs lawD.params.kw_defaults = some [] := by kernel_rfl


def Good (s₁ : Shared) (v : Value) (s' : Shared) : Prop := v = .bool true ∧ OldK s₁.heap s'.heap ∧ s'.os = s₁.os ∧ AllBare s'.gens

def Walk : Prop := ∀ (w : World) (s₀ s₁ : Shared) (mg mb : Str → Option Value), Ground qv loose [] (fun _ _ => True) w s₀ mg mb s₁.heap → YP w s₁.heap → s₁.gens = #[] →
  ∀ (l : Addr) (vs : List Value) (ns : List Int), s₁.heap.IsList l vs.toArray → IntsAre vs ns → ns.length ≤ 63 →
    wpAny (model pw w) callerA (PySem.call (.ref 370) [.ref l]) (Good s₁) (fun _ _ => False) s₁

theorem hd (walk : Walk) : PySem.Challenge.rw_dm0047_09.Holds := by
  w_on
  o_law
  refine PySem.W.holds_open (q := qv) (loose := loose) (Xt := fun _ => true) (XP := fun _ _ => True) (Yf := Yf) (Ya := Ya) (YP := YP) (N := 6000) left YP_of YP_keeps (fun _ _ => trivial) (fun _ _ _ _ _ => trivial) law_def law_the law_kw (fun s _ => recFacts_of rfl) rfl (by assumption) (by decide +kernel) ⟨rfl, rfl, rfl, rfl, rfl, by decide +kernel⟩ ?hw ?hc
  case hw => w_witness2
  case hc =>
    intro w s₀ s₁ mg mb G Y a o pm cd doc dV kV ho hd hcd hD hmg hg args vals as hpre hlay hrd hwl hlo
    wrow_args hpre hlay hrd hwl hlo
    rename_i ns _ _ _ _ _ _ _ l vs _ hL _ _ _ hI _ hlen _
    have ha : a = 370 := by
      obtain ⟨m, hm, hv⟩ := Y.2 (3, Str.ofString "law", some (.ref 370)) (by decide)
      have e := hm.agree G.T.g lawD.name
      have e' : m lawD.name = some (.ref 370) := hv
      rw [e', hmg] at e
      cases e
      rfl
    subst ha
    refine wpAny_mono (walk w s₀ s₁ mg mb G Y hg l vs ns hL hI (by omega)) (fun v s' g => ?_) (fun _ _ g => g.elim)
    obtain ⟨rfl, g1, g2, g3⟩ := g
    exact ⟨.inl ⟨_, .bool true, [], rfl, fun _ => rfl, .bool _, by wrow_post, fun _ => ⟨.nil, fun _ h => nomatch h⟩⟩, g1, g2, g3⟩
end Mine
end

section
open PySem PySem.W PyProof.Rows
set_option maxRecDepth 100000
set_option Elab.async false
namespace Mine
theorem size_upd (h : Heap) (a : Addr) (f : Obj → Obj) : (h.update a f).objs.size = h.objs.size := by
  unfold Heap.update
  exact Array.size_modify
theorem runs_size {M : Model} {Γ : Ctx} {p : Pos} {t : Sem Fin} {fs : List Frame} {s s' : Shared} {e : End} (h : Runs M Γ p t fs s e s') : s.heap.objs.size ≤ s'.heap.objs.size := by
  induction h <;> (try simp only [Shared.setGen, Heap.size_push, size_upd] at *) <;> omega
theorem wakes_size {M : Model} {Γ : Ctx} {p : Pos} {g : Nat} {r : Resume} {s s' : Shared} {res : GenResult} (h : Wakes M Γ p g r s res s') : s.heap.objs.size ≤ s'.heap.objs.size := by
  unfold Wakes at h
  split at h
  · exact h.elim
  · split at h
    · obtain ⟨e₁, s₁, hr, _, _, rfl⟩ := h
      have := runs_size hr
      exact this
    · rw [h.2]; exact Nat.le_refl _
    · rw [h.2]; exact Nat.le_refl _
  · obtain ⟨e₁, s₁, hr, _, _, rfl⟩ := h
    have := runs_size hr
    exact this
  · rw [h.2]; exact Nat.le_refl _
  · rw [h.2]; exact Nat.le_refl _
/-- along any tree the heap does not shrink -/
theorem wp_size {α : Type} (M : Model) (Γ : Ctx) (n : Nat) (t : Sem α) : ∀ (Q : α → Pos → Shared → Prop) (E : Value → Pos → Shared → Prop) (p : Pos) (s : Shared), n ≤ s.heap.objs.size → Sem.wp M Γ t Q E p s →
    Sem.wp M Γ t (fun a p' s' => n ≤ s'.heap.objs.size ∧ Q a p' s') (fun e p' s' => n ≤ s'.heap.objs.size ∧ E e p' s') p s := by
  induction t with
  | pure a => exact fun Q E p s hn h => ⟨hn, h⟩
  | raise e => exact fun Q E p s hn h => ⟨hn, h⟩
  | unsupported _ | finish _ | register _ _ | yield _ _ _ _ | fork _ _ | await _ _ _ _ _ => exact fun Q E p s _ h => h.elim
  | rule _ k ih | point _ k ih => exact fun Q E p s hn h => ih () Q E p s hn h
  | «at» p' k ih => exact fun Q E p s hn h => ih () Q E p' s hn h
  | load a _ k ih => rintro Q E p s hn ⟨o, ho, h⟩; exact ⟨o, ho, ih o Q E p s hn h⟩
  | update a _ f k ih => exact fun Q E p s hn h => ⟨h.1, ih () Q E p _ (by show n ≤ (s.heap.update a f).objs.size; rw [size_upd]; exact hn) h.2⟩
  | alloc o k ih => exact fun Q E p s hn h => ih _ Q E p _ (by show n ≤ (s.heap.push o).objs.size; rw [Heap.size_push]; omega) h
  | loadIfAlive a k ih => exact fun Q E p s hn h => ih _ Q E p s hn h
  | fresh k ih => exact fun Q E p s hn h => ih _ Q E p _ hn h
  | ask k ih | handled _ k ih | stack k ih | thread k ih => exact fun Q E p s hn h => ih _ Q E p s hn h
  | choose src m k ih => exact fun Q E p s hn h => ⟨h.1, ih _ Q E p _ hn h.2⟩
  | os q _ k ih => exact fun Q E p s hn h => ih _ Q E p _ hn h
  | newGen c k ih => exact fun Q E p s hn h => ih _ Q E p _ hn h
  | genState g k ih => rintro Q E p s hn ⟨st, hs, h⟩; exact ⟨st, hs, ih _ Q E p s hn h⟩
  | call c hd _ _ k ih => rintro Q E p s hn ⟨r, s', hr, h⟩; exact ⟨r, s', hr, ih r Q E p s' (Nat.le_trans hn (runs_size hr)) h⟩
  | resume g r _ k ih => rintro Q E p s hn ⟨res, s', hw, h⟩; exact ⟨res, s', hw, ih res Q E p s' (Nat.le_trans hn (wakes_size hw)) h⟩
theorem wpAny_grows {α : Type} {M : Model} {A : Around} {s : Shared} {t : Sem α} {Q : α → Shared → Prop} {E : Value → Shared → Prop} (h : wpAny M A t (fun a s' => s.heap.objs.size ≤ s'.heap.objs.size → Q a s') E s) : wpAny M A t Q E s :=
  fun Γ p hΓ => Sem.wp_mono M Γ t (fun _ _ _ x => x.2 x.1) (fun _ _ _ x => x.2) p s (wp_size M Γ _ t _ _ p s (Nat.le_refl _) (h Γ p hΓ))
end Mine
end

section
open PySem PySem.W
set_option maxRecDepth 100000
set_option Elab.async false
set_option linter.unusedVariables false
namespace Mine.Re
open PySem.Sre PySem.Sre.M
/-- the code of the row filter -/
def code : Array Nat := #[14, 4, 0, 0, 4294967295, 24, 9, 0, 4294967295, 13, 4, 8, 12, 0, 1, 23, 15, 0, 1, 16, 35, 24, 9, 0, 4294967295, 13, 4, 8, 12, 0, 1, 18, 6, 5, 1]
abbrev Fr := PySem.Sre.Frame
def mk (t : Array Nat) (pc pos hd : Nat) (loops : Array Loop) (inner : Option Nat) (frames : List Fr) (wt : Nat) (ans : Option Bool) (sn : Seen) : M :=
  { code := code, text := t, lim := t.size, start := 0, pc := pc, pos := pos, handed := hd, marks := #[], loops := loops, inner := inner, frames := frames, weight := wt, answer := ans, seen := sn }
def kp (b : Bool) : PySem.Sre.Kept := { whole := b }
def gb (pos n : Nat) : Fr := { wait := .giveBack, pc := 5, pos := pos, outermost := true, count := n, kept := kp false }
def gb2 (pos n : Nat) : Fr := { wait := .giveBack, pc := 21, pos := pos, outermost := true, count := n, kept := kp true }
def cl (pos : Nat) : Fr := { wait := .closeLoop, pc := 15, pos := pos, outermost := true, loop := 0 }
def mm (pos : Nat) : Fr := { wait := .maxMore, pc := 32, pos := pos, outermost := true, loop := 0, count := 0, kept := kp true, began := none }
def mt (pos n : Nat) : Fr := { wait := .maxTail, pc := 32, pos := pos, outermost := true, loop := 0, count := n, kept := kp false }
def lp (c : Int) (b : Option Nat) : Array Loop := #[{ pc := 15, count := c, began := b, outer := none }]

section
variable {t : Array Nat} {pos hd w : Nat} {fs : List Fr} {sn : Seen} {l : Array Loop}
theorem s15 (hw : w + 1 ≤ 16777216) : ∃ sn', step (mk t 15 pos hd #[] none fs w none sn) = mk t 31 pos pos (lp (-1) none) (some 0) (cl pos :: fs) (w + 1) none sn' := by
  apply Exists.intro
  show M.attempt _ _ _ _ _ = _
  unfold M.attempt
  rw [if_neg (by show ¬ (w + 1 + 0 > 16777216); omega)]
  rfl
theorem s31a (hw : w + 1 ≤ 16777216) : ∃ sn', step (mk t 31 pos hd (lp (-1) none) (some 0) fs w none sn) = mk t 19 pos pos (lp 0 (some pos)) (some 0) (mm pos :: fs) (w + 1) none sn' := by
  apply Exists.intro
  show M.attempt _ _ _ _ _ = _
  unfold M.attempt
  rw [if_neg (by show ¬ (w + 1 + 0 > 16777216); omega)]
  rfl
theorem s31b (hw : w + 1 ≤ 16777216) {b : Option Nat} : ∃ sn', step (mk t 31 pos hd (lp 0 b) (some 0) fs w none sn) = mk t 32 pos pos (lp 0 b) none (mt pos 1 :: fs) (w + 1) none sn' := by
  apply Exists.intro
  show M.attempt _ _ _ _ _ = _
  unfold M.attempt
  rw [if_neg (by show ¬ (w + 1 + 0 > 16777216); omega)]
  rfl
theorem s19y {b : Option Nat} (hp : pos < t.size) (ht : t.getD pos 0 = 35) : ∃ sn', step (mk t 19 pos hd (lp 0 b) (some 0) fs w none sn) = mk t 21 (pos + 1) hd (lp 0 b) (some 0) fs w none sn' := by
  apply Exists.intro
  show (if pos ≥ t.size then _ else _) = _
  rw [if_neg (by omega)]
  show (match (Except.ok (t.getD pos 0 == 35, _) : Except String (Bool × Seen)) with | .error why => _ | .ok (false, seen) => _ | .ok (true, seen) => _) = _
  rw [ht]
  rfl
theorem s19n {b : Option Nat} (h : ¬ (pos < t.size ∧ t.getD pos 0 = 35)) : ∃ sn', step (mk t 19 pos hd (lp 0 b) (some 0) fs w none sn) = mk t 19 pos hd (lp 0 b) (some 0) fs w (some false) sn' := by
  by_cases hp : pos ≥ t.size
  · apply Exists.intro
    show (if pos ≥ t.size then _ else _) = _
    rw [if_pos hp]
    rfl
  · apply Exists.intro
    show (if pos ≥ t.size then _ else _) = _
    rw [if_neg hp]
    show (match (Except.ok (t.getD pos 0 == 35, _) : Except String (Bool × Seen)) with | .error why => _ | .ok (false, seen) => _ | .ok (true, seen) => _) = _
    have : (t.getD pos 0 == 35) = false := by
      rw [beq_eq_false_iff_ne]; exact fun e => h ⟨by omega, e⟩
    rw [this]
    rfl
/-- at the end -/
def atEnd (t : Array Nat) (pos : Nat) : Bool := pos == t.size || (pos + 1 == t.size && t.getD pos 0 == 10)
theorem s32 : ∃ sn', step (mk t 32 pos hd l none fs w none sn) = if atEnd t pos then mk t 34 pos hd l none fs w none sn' else mk t 32 pos hd l none fs w (some false) sn' := by
  apply Exists.intro
  show (if (pos == t.size || (pos + 1 == t.size && t.getD pos 0 == 10)) = true then _ else _) = _
  unfold atEnd
  split <;> rfl
theorem s34 : ∃ sn', step (mk t 34 pos hd l none fs w none sn) = mk t 34 pos pos l none fs w (some true) sn' := ⟨_, rfl⟩
/-- the number of white signs from p on, n at most -/
def whites (t : Array Nat) : (n p : Nat) → Nat
  | 0, _ => 0
  | n + 1, p => if Unicode.isSpace (t.getD p 0) then whites t n (p + 1) + 1 else 0
theorem whites_le (t : Array Nat) : ∀ n p, whites t n p ≤ n
  | 0, _ => Nat.le_refl _
  | n + 1, p => by
    unfold whites
    split
    · have := whites_le t n (p + 1); omega
    · omega
theorem acc9 (c : Nat) (sn : Seen) : ∃ sn', accepts code 9 c sn = .ok (Unicode.isSpace c, sn') := by
  show ∃ sn', inSet code c 35 11 true sn = _
  unfold inSet
  show ∃ sn', (do if ← (Except.ok (Unicode.isSpace c)).map (· != (12 % 2 == 1)) then pure (true, _) else _ : Except String (Bool × Seen)) = _
  cases h : Unicode.isSpace c
  · apply Exists.intro
    show inSet code c 34 13 true _ = _
    rfl
  · exact ⟨_, rfl⟩
theorem acc25 (c : Nat) (sn : Seen) : ∃ sn', accepts code 25 c sn = .ok (Unicode.isSpace c, sn') := by
  show ∃ sn', inSet code c 35 27 true sn = _
  unfold inSet
  show ∃ sn', (do if ← (Except.ok (Unicode.isSpace c)).map (· != (12 % 2 == 1)) then pure (true, _) else _ : Except String (Bool × Seen)) = _
  cases h : Unicode.isSpace c
  · apply Exists.intro
    show inSet code c 34 29 true _ = _
    rfl
  · exact ⟨_, rfl⟩
theorem run_eq {i : Nat} (ha : ∀ c sn, ∃ sn', accepts code i c sn = .ok (Unicode.isSpace c, sn')) : ∀ (n p f : Nat) (sn : Seen), ∃ sn', PySem.Sre.run code t i n p f sn = .ok (f + whites t n p, sn')
  | 0, p, f, sn => ⟨sn, rfl⟩
  | n + 1, p, f, sn => by
    obtain ⟨sn', h⟩ := ha (t.getD p 0) sn
    unfold PySem.Sre.run whites
    rw [h]
    cases hs : Unicode.isSpace (t.getD p 0)
    · exact ⟨sn', rfl⟩
    · obtain ⟨sn2, h2⟩ := run_eq ha n (p + 1) (f + 1) sn'
      refine ⟨sn2, ?_⟩
      show PySem.Sre.run code t i n (p + 1) (f + 1) sn' = _
      rw [h2]
      show Except.ok _ = Except.ok _
      congr 2
      simp only [if_true]
      omega
theorem s5 (ht : t.size ≤ 4294967295) : ∃ sn', step (mk t 5 0 hd #[] none [] 0 none sn) = mk t 15 (0 + whites t t.size 0) (0 + whites t t.size 0) #[] none [gb (0 + whites t t.size 0) (0 + whites t t.size 0)] 1 none sn' := by
  obtain ⟨sn2, h2⟩ := run_eq (t := t) acc9 (min 4294967295 t.size) 0 0 ((sn.add 24).add 13)
  rw [Nat.min_eq_right ht] at h2
  apply Exists.intro
  show (match PySem.Sre.run code t 9 (min 4294967295 ((t.size : Int) - 0).toNat) 0 0 ((sn.add 24).add 13) with | .error why => _ | .ok (n, seen) => _) = _
  rw [show ((t.size : Int) - 0).toNat = t.size by omega, Nat.min_eq_right ht, h2]
  generalize 0 + whites t t.size 0 = n
  show (if n < 0 then _ else _) = _
  rw [if_neg (Nat.not_lt_zero _)]
  show M.attempt _ _ _ _ _ = mk t 15 n n _ _ _ _ _ _
  unfold M.attempt
  rw [if_neg (by show ¬ (0 + 1 + 0 > 16777216); omega)]
  have e : mk t 15 n n #[] none [gb n n] 1 none sn2 = mk t 15 (0 + n) (0 + n) #[] none [gb (0 + n) n] 1 none sn2 := by rw [Nat.zero_add]
  rw [show mk t 15 n n #[] none [gb n n] 1 none = fun x => mk t 15 (0 + n) (0 + n) #[] none [gb (0 + n) n] 1 none x by rw [Nat.zero_add]]
  rfl
theorem s21 {b : Option Nat} (ht : t.size ≤ 4294967295) (hp : pos ≤ t.size) (hw : w + 1 ≤ 16777216) : ∃ sn', step (mk t 21 pos hd (lp 0 b) (some 0) fs w none sn) = mk t 31 (pos + (0 + whites t (t.size - pos) pos)) (pos + (0 + whites t (t.size - pos) pos)) (lp 0 b) (some 0) (gb2 (pos + (0 + whites t (t.size - pos) pos)) (0 + whites t (t.size - pos) pos) :: fs) (w + 1) none sn' := by
  obtain ⟨sn2, h2⟩ := run_eq (t := t) acc25 (min 4294967295 (t.size - pos)) pos 0 ((sn.add 24).add 13)
  rw [Nat.min_eq_right (by omega)] at h2
  apply Exists.intro
  show (if (((0 : Nat) : Int) > (t.size : Int) - pos) then _ else _) = _
  rw [if_neg (by omega)]
  show (match PySem.Sre.run code t 25 (min 4294967295 ((t.size : Int) - pos).toNat) pos 0 ((sn.add 24).add 13) with | .error why => _ | .ok (n, seen) => _) = _
  rw [show ((t.size : Int) - pos).toNat = t.size - pos by omega, Nat.min_eq_right (by omega), h2]
  generalize 0 + whites t (t.size - pos) pos = n
  show (if n < 0 then _ else _) = _
  rw [if_neg (Nat.not_lt_zero _)]
  show M.attempt _ _ _ _ _ = _
  unfold M.attempt
  rw [if_neg (by show ¬ (w + 1 + 0 > 16777216); omega)]
  rfl

/-! the answers -/
theorem r_mt {yes : Bool} {p' k pc : Nat} : step (mk t pc pos hd l none (mt p' k :: fs) w (some yes) sn) = mk t 32 p' hd l (some 0) fs (w - 1) (some yes) sn := rfl
theorem r_cl {yes : Bool} {p' pc : Nat} {c : Int} {b : Option Nat} : step (mk t pc pos hd (lp c b) (some 0) (cl p' :: fs) w (some yes) sn) = mk t 15 p' hd #[] none fs (w - 1) (some yes) sn := rfl
theorem r_mm_y {p' pc : Nat} {b : Option Nat} : step (mk t pc pos hd (lp 0 b) (some 0) (mm p' :: fs) w (some true) sn) = mk t 32 p' hd (lp 0 none) (some 0) fs (w - 1) (some true) sn := rfl
theorem r_mm_n {p' pc : Nat} {b : Option Nat} (hw : w - 1 + 1 ≤ 16777216) : step (mk t pc pos hd (lp 0 b) (some 0) (mm p' :: fs) w (some false) sn) = mk t 32 p' p' (lp (-1) none) none (mt p' 0 :: fs) (w - 1 + 1) none sn := by
  show M.attempt _ _ _ _ _ = _
  unfold M.attempt
  rw [if_neg (by show ¬ (w - 1 + 1 + 0 > 16777216); omega)]
  rfl
theorem r_gb_y {p' n pc : Nat} : step (mk t pc pos hd #[] none (gb p' n :: fs) w (some true) sn) = mk t 5 p' hd #[] none fs (w - 1) (some true) sn := rfl
theorem r_gb_0 {p' pc : Nat} : step (mk t pc pos hd #[] none (gb p' 0 :: fs) w (some false) sn) = mk t 5 p' hd #[] none fs (w - 1) (some false) sn := rfl
theorem r_gb_s {p' n pc : Nat} (hw : w - 1 + 1 ≤ 16777216) : step (mk t pc pos hd #[] none (gb p' (n + 1) :: fs) w (some false) sn) = mk t 15 (p' - 1) (p' - 1) #[] none (gb (p' - 1) n :: fs) (w - 1 + 1) none sn := by
  show (if (((n + 1 : Nat) : Int) - 1 < ((0 : Nat) : Int)) then _ else M.attempt _ _ _ _ _) = _
  rw [if_neg (by omega)]
  unfold M.attempt
  rw [if_neg (by show ¬ (w - 1 + 1 + 0 > 16777216); omega)]
  have e : gb (p' - 1) n = { gb (p' - 1) n with count := ((n + 1 : Nat) : Int) - 1 } := by
    unfold gb; congr 1; omega
  rw [e]
  rfl
theorem r_gb2_y {p' n pc : Nat} {b : Option Nat} : step (mk t pc pos hd (lp 0 b) (some 0) (gb2 p' n :: fs) w (some true) sn) = mk t 21 p' hd (lp 0 b) (some 0) fs (w - 1) (some true) sn := rfl
theorem r_gb2_0 {p' pc : Nat} {b : Option Nat} : step (mk t pc pos hd (lp 0 b) (some 0) (gb2 p' 0 :: fs) w (some false) sn) = mk t 21 p' hd (lp 0 b) (some 0) fs (w - 1) (some false) sn := rfl
theorem r_gb2_s {p' n pc : Nat} {b : Option Nat} (hw : w - 1 + 1 ≤ 16777216) : step (mk t pc pos hd (lp 0 b) (some 0) (gb2 p' (n + 1) :: fs) w (some false) sn) = mk t 31 (p' - 1) (p' - 1) (lp 0 b) (some 0) (gb2 (p' - 1) n :: fs) (w - 1 + 1) none sn := by
  show (if (((n + 1 : Nat) : Int) - 1 < ((0 : Nat) : Int)) then _ else M.attempt _ _ _ _ _) = _
  rw [if_neg (by omega)]
  unfold M.attempt
  rw [if_neg (by show ¬ (w - 1 + 1 + 0 > 16777216); omega)]
  have e : gb2 (p' - 1) n = { gb2 (p' - 1) n with count := ((n + 1 : Nat) : Int) - 1 } := by
    unfold gb2; congr 1; omega
  rw [e]
  rfl

/-- within k steps the answer is there, m' being the machine then -/
def Fin (k : Nat) (m : M) (yes : Bool) : Prop := ∃ j, j ≤ k ∧ (Nat.repeat step j m).outcome = some (if yes then .matched else .failed)
theorem rep_step : ∀ (j : Nat) (m : M), Nat.repeat step j (step m) = Nat.repeat step (j + 1) m
  | 0, m => rfl
  | j + 1, m => by
    show step (Nat.repeat step j (step m)) = step (Nat.repeat step (j + 1) m)
    rw [rep_step j m]
theorem Fin.step {k : Nat} {m m' : M} {yes : Bool} (h : Fin k m' yes) (e : PySem.Sre.M.step m = m') : Fin (k + 1) m yes := by
  obtain ⟨j, hj, h⟩ := h
  subst e
  rw [rep_step] at h
  exact ⟨j + 1, by omega, h⟩
theorem Fin.mono {k k' : Nat} {m : M} {yes : Bool} (h : Fin k m yes) (hk : k ≤ k') : Fin k' m yes := let ⟨j, hj, h⟩ := h; ⟨j, by omega, h⟩
theorem fin_end {yes : Bool} {pc : Nat} {inn : Option Nat} : Fin 1 (mk t pc pos hd l inn [] w (some yes) sn) yes := ⟨1, Nat.le_refl _, by cases yes <;> rfl⟩
theorem fin_gb_y {p' n pc : Nat} : Fin 2 (mk t pc pos hd #[] none [gb p' n] w (some true) sn) true := fin_end.step r_gb_y
theorem fin_cl_y {p' p'' n pc : Nat} {c : Int} {b : Option Nat} : Fin 3 (mk t pc pos hd (lp c b) (some 0) [cl p', gb p'' n] w (some true) sn) true := fin_gb_y.step r_cl
theorem fin_32_y {p' p'' n q k : Nat} {c : Int} {b : Option Nat} (he : atEnd t pos = true) : Fin 6 (mk t 32 pos hd (lp c b) none [mt q k, cl p', gb p'' n] w none sn) true := by
  obtain ⟨sn', h⟩ := s32 (t := t) (pos := pos) (hd := hd) (l := lp c b) (fs := [mt q k, cl p', gb p'' n]) (w := w) (sn := sn)
  rw [he, if_pos rfl] at h
  obtain ⟨sn2, h2⟩ := s34 (t := t) (pos := pos) (hd := hd) (l := lp c b) (fs := [mt q k, cl p', gb p'' n]) (w := w) (sn := sn')
  exact ((fin_cl_y.step r_mt).step h2).step h
/-- the try behind p whites, no # there, not at the end -/
def bad (t : Array Nat) (q : Nat) : Prop := ¬ (q < t.size ∧ t.getD q 0 = 35) ∧ atEnd t q = false
theorem fin_tail_n {k q p' : Nat} {n : Nat} {c : Int} {b : Option Nat} {sn : Seen} (hq : atEnd t pos = false) (hn : ∀ sn, Fin k (mk t 15 p' hd #[] none [gb p' n] (w - 1 - 1) (some false) sn) false) : Fin (k + 3) (mk t 32 pos hd (lp c b) none [mt q 0, cl p', gb p' n] w none sn) false := by
  obtain ⟨sn', h⟩ := s32 (t := t) (pos := pos) (hd := hd) (l := lp c b) (fs := [mt q 0, cl p', gb p' n]) (w := w) (sn := sn)
  rw [hq] at h
  exact (((hn sn').step r_cl).step r_mt).step h
theorem fin_A : ∀ (n hd : Nat) (sn : Seen), (∀ q, q ≤ n → bad t q) → Fin (8 * n + 9) (mk t 15 n hd #[] none [gb n n] 1 none sn) false
  | n, hd, sn, hb => by
    have key : ∀ (sn : Seen) (hd : Nat), Fin (8 * n + 2) (mk t 15 n hd #[] none [gb n n] 1 (some false) sn) false := by
      intro sn hd
      cases n with
      | zero => exact fin_end.step r_gb_0
      | succ n => exact ((fin_A n n sn fun q hq => hb q (by omega)).step (r_gb_s (by omega))).mono (by omega)
    obtain ⟨sn1, h1⟩ := s15 (t := t) (pos := n) (hd := hd) (fs := [gb n n]) (w := 1) (sn := sn) (by omega)
    obtain ⟨sn2, h2⟩ := s31a (t := t) (pos := n) (hd := n) (fs := [cl n, gb n n]) (w := 2) (sn := sn1) (by omega)
    obtain ⟨sn3, h3⟩ := s19n (t := t) (pos := n) (hd := n) (fs := [mm n, cl n, gb n n]) (w := 3) (sn := sn2) (b := some n) (hb n (Nat.le_refl _)).1
    have h4 := r_mm_n (t := t) (pos := n) (hd := n) (p' := n) (pc := 19) (b := some n) (fs := [cl n, gb n n]) (w := 3) (sn := sn3) (by omega)
    have h5 := fin_tail_n (w := 3) (hd := n) (q := n) (c := -1) (b := none) (sn := sn3) (hb n (Nat.le_refl _)).2 fun sn => key sn n
    exact ((((h5.step h4).step h3).step h2).step h1).mono (by omega)
theorem fin_B {k q0 p n : Nat} {b : Option Nat} (hw1 : w < 16777216) (hw0 : 1 ≤ w) (hn : ∀ sn hd, Fin k (mk t 21 q0 hd (lp 0 b) (some 0) [mm p, cl p, gb p n] (w - 1) (some false) sn) false) : ∀ (m hd : Nat) (sn : Seen), (∀ j, j ≤ m → atEnd t (q0 + j) = false) →
    Fin (k + 4 * m + 4) (mk t 31 (q0 + m) hd (lp 0 b) (some 0) [gb2 (q0 + m) m, mm p, cl p, gb p n] w none sn) false
  | m, hd, sn, he => by
    obtain ⟨sn1, h1⟩ := s31b (t := t) (pos := q0 + m) (hd := hd) (fs := [gb2 (q0 + m) m, mm p, cl p, gb p n]) (w := w) (sn := sn) (b := b) (by omega)
    obtain ⟨sn2, h2⟩ := s32 (t := t) (pos := q0 + m) (hd := q0 + m) (l := lp 0 b) (fs := [mt (q0 + m) 1, gb2 (q0 + m) m, mm p, cl p, gb p n]) (w := w + 1) (sn := sn1)
    rw [he m (Nat.le_refl _)] at h2
    have h3 := r_mt (t := t) (pos := q0 + m) (hd := q0 + m) (l := lp 0 b) (yes := false) (p' := q0 + m) (k := 1) (pc := 32) (fs := [gb2 (q0 + m) m, mm p, cl p, gb p n]) (w := w + 1) (sn := sn2)
    have key : Fin (k + 4 * m + 1) (mk t 32 (q0 + m) (q0 + m) (lp 0 b) (some 0) [gb2 (q0 + m) m, mm p, cl p, gb p n] (w + 1 - 1) (some false) sn2) false := by
      rw [Nat.add_sub_cancel]
      cases m with
      | zero => exact ((hn sn2 q0).step r_gb2_0).mono (by omega)
      | succ m =>
        have h4 := r_gb2_s (t := t) (pos := q0 + (m + 1)) (hd := q0 + (m + 1)) (p' := q0 + (m + 1)) (n := m) (pc := 32) (b := b) (fs := [mm p, cl p, gb p n]) (w := w) (sn := sn2) (by omega)
        rw [show w - 1 + 1 = w by omega, show q0 + (m + 1) - 1 = q0 + m by omega] at h4
        exact ((fin_B hw1 hw0 hn m (q0 + m) sn2 fun j hj => he j (by omega)).step h4).mono (by omega)
    exact (((key.step h3).step h2).step h1).mono (by omega)

/-- what the filter answers -/
def J (t : Array Nat) : Bool :=
  let n := whites t t.size 0
  n == t.size || (t.getD n 0 == 35 && n + 1 + whites t (t.size - (n + 1)) (n + 1) == t.size)
theorem whites_white : ∀ (n p j : Nat), j < whites t n p → Unicode.isSpace (t.getD (p + j) 0) = true
  | 0, p, j, h => absurd h (Nat.not_lt_zero _)
  | n + 1, p, j, h => by
    unfold whites at h
    split at h
    · rename_i hs
      cases j with
      | zero => exact hs
      | succ j =>
        have := whites_white n (p + 1) j (by omega)
        rw [show p + (j + 1) = p + 1 + j by omega]; exact this
    · omega
theorem whites_stop : ∀ (n p : Nat), whites t n p < n → Unicode.isSpace (t.getD (p + whites t n p) 0) = false
  | 0, p, h => absurd h (Nat.not_lt_zero _)
  | n + 1, p, h => by
    unfold whites at h ⊢
    split
    · rename_i hs
      rw [if_pos hs] at h
      have := whites_stop n (p + 1) (by omega)
      rw [show p + (whites t n (p + 1) + 1) = p + 1 + whites t n (p + 1) by omega]; exact this
    · rename_i hs
      simpa using hs
theorem white_35 : Unicode.isSpace 35 = false := by decide +kernel
theorem white_10 : Unicode.isSpace 10 = true := by decide +kernel
theorem atEnd_no {q : Nat} (h1 : q < t.size) (h2 : q + 1 = t.size → t.getD q 0 ≠ 10) : atEnd t q = false := by
  unfold atEnd
  rw [Bool.or_eq_false_iff, Bool.and_eq_false_iff]
  refine ⟨by simp; omega, ?_⟩
  by_cases e : q + 1 = t.size
  · right; simpa using h2 e
  · left; simpa using e
theorem fin_all (ht : t.size ≤ 4294967295) : Fin (20 * t.size + 40) (mk t 5 0 hd #[] none [] 0 none sn) (J t) := by
  obtain ⟨sn0, h0⟩ := s5 (t := t) (hd := hd) (sn := sn) ht
  rw [Nat.zero_add] at h0
  have hle := whites_le t t.size 0
  have hwh : ∀ j, j < whites t t.size 0 → Unicode.isSpace (t.getD j 0) = true := fun j hj => by have := whites_white _ _ _ hj; rwa [Nat.zero_add] at this
  have hst : whites t t.size 0 < t.size → Unicode.isSpace (t.getD (whites t t.size 0) 0) = false := fun h => by have := whites_stop _ _ h; rwa [Nat.zero_add] at this
  unfold J
  dsimp only
  generalize whites t t.size 0 = n at *
  have bads : n < t.size → ∀ q, q < n → bad t q := fun hn q hq => ⟨fun ⟨_, e⟩ => (by have := hwh q hq; rw [e, white_35] at this; cases this), atEnd_no (by omega) (by omega)⟩
  obtain ⟨sn1, h1⟩ := s15 (t := t) (pos := n) (hd := n) (fs := [gb n n]) (w := 1) (sn := sn0) (by omega)
  obtain ⟨sn2, h2⟩ := s31a (t := t) (pos := n) (hd := n) (fs := [cl n, gb n n]) (w := 2) (sn := sn1) (by omega)
  have key : ∀ (sn : Seen) (hd : Nat), n < t.size → Fin (8 * n + 2) (mk t 15 n hd #[] none [gb n n] 1 (some false) sn) false := by
    intro sn hd hlt
    cases n with
    | zero => exact fin_end.step r_gb_0
    | succ n => exact ((fin_A n n sn fun q hq => bads hlt q (by omega)).step (r_gb_s (by omega))).mono (by omega)
  by_cases hn : n = t.size
  · have hJ : (n == t.size || (t.getD n 0 == 35 && n + 1 + whites t (t.size - (n + 1)) (n + 1) == t.size)) = true := by simp [hn]
    rw [hJ]
    obtain ⟨sn3, h3⟩ := s19n (t := t) (pos := n) (hd := n) (fs := [mm n, cl n, gb n n]) (w := 3) (sn := sn2) (b := some n) (by omega)
    have h4 := r_mm_n (t := t) (pos := n) (hd := n) (p' := n) (pc := 19) (b := some n) (fs := [cl n, gb n n]) (w := 3) (sn := sn3) (by omega)
    have h5 := fin_32_y (t := t) (pos := n) (hd := n) (p' := n) (p'' := n) (n := n) (q := n) (k := 0) (c := -1) (b := none) (w := 3) (sn := sn3) (by unfold atEnd; simp [hn])
    exact (((((h5.step h4).step h3).step h2).step h1).step h0).mono (by omega)
  · have hlt : n < t.size := by omega
    by_cases h35 : t.getD n 0 = 35
    · obtain ⟨sn3, h3⟩ := s19y (t := t) (pos := n) (hd := n) (fs := [mm n, cl n, gb n n]) (w := 3) (sn := sn2) (b := some n) hlt h35
      obtain ⟨sn4, h4⟩ := s21 (t := t) (pos := n + 1) (hd := n) (fs := [mm n, cl n, gb n n]) (w := 3) (sn := sn3) (b := some n) ht (by omega) (by omega)
      rw [Nat.zero_add] at h4
      have hle2 := whites_le t (t.size - (n + 1)) (n + 1)
      have hwh2 := fun j hj => whites_white (t := t) (t.size - (n + 1)) (n + 1) j hj
      have hst2 := whites_stop (t := t) (t.size - (n + 1)) (n + 1)
      generalize whites t (t.size - (n + 1)) (n + 1) = m at *
      by_cases hm : n + 1 + m = t.size
      · have hJ : (n == t.size || (t.getD n 0 == 35 && n + 1 + m == t.size)) = true := by simp [h35, hm]
        rw [hJ]
        obtain ⟨sn5, h5⟩ := s31b (t := t) (pos := n + 1 + m) (hd := n + 1 + m) (fs := [gb2 (n + 1 + m) m, mm n, cl n, gb n n]) (w := 4) (sn := sn4) (b := some n) (by omega)
        obtain ⟨sn6, h6⟩ := s32 (t := t) (pos := n + 1 + m) (hd := n + 1 + m) (l := lp 0 (some n)) (fs := [mt (n + 1 + m) 1, gb2 (n + 1 + m) m, mm n, cl n, gb n n]) (w := 5) (sn := sn5)
        have he : atEnd t (n + 1 + m) = true := by unfold atEnd; simp [hm]
        rw [he, if_pos rfl] at h6
        obtain ⟨sn7, h7⟩ := s34 (t := t) (pos := n + 1 + m) (hd := n + 1 + m) (l := lp 0 (some n)) (fs := [mt (n + 1 + m) 1, gb2 (n + 1 + m) m, mm n, cl n, gb n n]) (w := 5) (sn := sn6)
        have f1 : Fin 3 (mk t 32 n (n + 1 + m) (lp 0 none) (some 0) [cl n, gb n n] (5 - 1 - 1 - 1) (some true) sn7) true := fin_cl_y
        have f2 := ((f1.step (r_mm_y (pc := 21) (pos := n + 1 + m) (b := some n))).step (r_gb2_y (p' := n + 1 + m) (n := m) (pc := 32) (pos := n + 1 + m))).step (r_mt (p' := n + 1 + m) (k := 1) (pc := 34) (pos := n + 1 + m))
        exact ((((((((f2.step h7).step h6).step h5).step h4).step h3).step h2).step h1).step h0).mono (by omega)
      · have hJ : (n == t.size || (t.getD n 0 == 35 && n + 1 + m == t.size)) = false := by simp [hn, hm]
        rw [hJ]
        have hend : atEnd t n = false := atEnd_no hlt (fun _ e => by rw [h35] at e; cases e)
        have f0 : ∀ sn hd, Fin (8 * n + 6) (mk t 21 (n + 1) hd (lp 0 (some n)) (some 0) [mm n, cl n, gb n n] (4 - 1) (some false) sn) false := fun sn hd => by
          have h4 := r_mm_n (t := t) (pos := n + 1) (hd := hd) (p' := n) (pc := 21) (b := some n) (fs := [cl n, gb n n]) (w := 3) (sn := sn) (by omega)
          have h5 := fin_tail_n (w := 3) (hd := n) (q := n) (c := -1) (b := none) (sn := sn) hend fun sn => key sn n hlt
          exact (h5.step h4).mono (by omega)
        have f1 := fin_B (t := t) (w := 4) (by omega) (by omega) f0 m (n + 1 + m) sn4 fun j hj => atEnd_no (by omega) fun e1 e2 => by
          have : j = m := by omega
          subst this
          have := hst2 (by omega)
          rw [e2, white_10] at this; cases this
        exact (((((f1.step h4).step h3).step h2).step h1).step h0).mono (by omega)
    · have hJ : (n == t.size || (t.getD n 0 == 35 && n + 1 + whites t (t.size - (n + 1)) (n + 1) == t.size)) = false := by
        have : (t.getD n 0 == 35) = false := by simpa using h35
        rw [this]; simp [hn]
      rw [hJ]
      refine ((fin_A n n sn0 fun q hq => ?_).step h0).mono (by omega)
      by_cases e : q = n
      · subst e
        refine ⟨fun h => h35 h.2, atEnd_no hlt fun _ e2 => ?_⟩
        have := hst hlt
        rw [e2, white_10] at this; cases this
      · exact bads hlt q (by omega)
end
end Mine.Re
end

section
open PySem PySem.W PyProof.Rows
set_option maxRecDepth 100000
set_option Elab.async false
set_option linter.unusedVariables false
namespace Mine
open Builtin

/-- the five places of a zip over two iterators of their own -/
structure ZApart (z TI TO i1 i2 : Addr) : Prop where
  TIz : TI ≠ z
  TOz : TO ≠ z
  i1z : i1 ≠ z
  i2z : i2 ≠ z
  TITO : TI ≠ TO
  TIi1 : TI ≠ i1
  TIi2 : TI ≠ i2
  TOi1 : TO ≠ i1
  TOi2 : TO ≠ i2
  i12 : i1 ≠ i2

section
variable {prog : Program} {w : World} {A : Around} {E : Value → Shared → Prop} {s : Shared} {z TI TO i1 i2 : Addr} {n1 n2 : Nat} {P1 P2 : Nat → Value → Prop} {S1 S2 : Nat → Heap → Prop}

theorem zip_next_itemD {k : Nat} {a b : Value} {Q : Value → Shared → Prop} (D : ZApart z TI TO i1 i2) (D1 : Draws prog w A i1 [i1] n1 P1 S1) (D2 : Draws prog w A i2 [i2] n2 P2 S2)
    (hz : IsZip s.heap z TI TO .none) (hTI : IsPair s.heap TI (.ref i1) (.ref i2)) (hTO : IsPair s.heap TO a b) (h1 : S1 k s.heap) (h2 : S2 k s.heap) (k1 : k < n1) (k2 : k < n2)
    (hQ : ∀ x y h' tk, P1 k x → P2 k y → IsZip h' z TI TO (rawInt s.heap.objs.size) → IsPair h' TO x y → S1 (k + 1) h' → S2 (k + 1) h' → IsPair h' s.heap.objs.size x y → h'.objs.size = s.heap.objs.size + 1 →
      (∀ c o, c ≠ z → c ≠ TO → c ≠ i1 → c ≠ i2 → s.heap.get? c = some o → h'.get? c = some o) → Q (.ref s.heap.objs.size) { s with heap := h', toks := tk }) :
    wpAny (model prog w) A (Builtin.«zip.__next__» ⟨[.ref z], []⟩) (fun fin s' => ∃ v, fin = .done (.ret v) ∧ Q v s') E s := by
  have mv1 : ∀ {i h h'} {c : Addr}, S1 i h → Heap.SameBut c h h' → i1 ≠ c → S1 i h' := fun st hs hne => D1.frame _ _ _ st fun b hb o e => by rw [List.mem_singleton.mp hb] at e ⊢; exact hs.extBut _ _ hne e
  have mv2 : ∀ {i h h'} {c : Addr}, S2 i h → Heap.SameBut c h h' → i2 ≠ c → S2 i h' := fun st hs hne => D2.frame _ _ _ st fun b hb o e => by rw [List.mem_singleton.mp hb] at e ⊢; exact hs.extBut _ _ hne e
  show wpAny _ _ (field (.ref z) 2 >>= _) _ _ _
  refine wpAny_bind (wpAny_field hz rfl (x := .bool false) rfl ?_)
  show wpAny _ _ (field (.ref z) 3 >>= _) _ _ _
  refine wpAny_bind (wpAny_field hz rfl (x := .ref TI) rfl ?_)
  refine wpAny_bind (wpAny_seqItems hTI rfl ?_)
  show wpAny _ _ (Builtin.SmallTypes.ownedTupleIsFree (.ref z) >>= _) _ _ _
  refine wpAny_bind ?_
  unfold Builtin.SmallTypes.ownedTupleIsFree
  refine wpAny_bind (wpAny_field hz rfl (x := .none) rfl (wpAny_pure ?_))
  simp only [if_true]
  refine wpAny_bind (wpAny_rule ?_)
  refine wpAny_bind (wpAny_field hz rfl (x := .ref TO) rfl ?_)
  refine wpAny_bind (wpAny_setField_rec hz (by simp) fun h₁ hz₁ hs₁ => ?_)
  replace hz₁ : IsZip h₁ z TI TO .ellipsis := hz₁
  refine wpAny_bind ?_
  simp only [List.zipIdx_cons, List.zipIdx_nil, List.forIn_cons, List.forIn_nil]
  refine wpAny_bind (wpAny_bind (wpAny_onRaise ?_))
  show wpAny _ _ (Builtin.SmallTypes.nextOf (.ref i1) >>= _) _ _ _
  refine wpAny_bind (D1.item k _ _ _ k1 (mv1 h1 hs₁ D.i1z) fun x h₂ tk₂ hx h1₂ hs₂ => wpAny_pure ?_)
  have hTO₂ : IsPair h₂ TO a b := hs₂.extBut _ _ D.TOi1 (hs₁.extBut _ _ D.TOz hTO)
  refine wpAny_bind (wpAny_seqItems hTO₂ rfl ?_)
  refine wpAny_bind (wpAny_updateSeq_pair hTO₂ fun h₃ hTO₃ hs₃ => ?_)
  replace hTO₃ : IsPair h₃ TO x b := hTO₃
  refine wpAny_bind (wpAny_letGo (wpAny_pure ?_))
  refine wpAny_bind (wpAny_bind (wpAny_onRaise ?_))
  show wpAny _ _ (Builtin.SmallTypes.nextOf (.ref i2) >>= _) _ _ _
  refine wpAny_bind (D2.item k _ _ _ k2 (mv2 (mv2 (mv2 h2 hs₁ D.i2z) hs₂ D.i12.symm) hs₃ D.TOi2.symm) fun y h₄ tk₄ hy h2₄ hs₄ => wpAny_pure ?_)
  have hTO₄ : IsPair h₄ TO x b := hs₄.extBut _ _ D.TOi2 hTO₃
  refine wpAny_bind (wpAny_seqItems hTO₄ rfl ?_)
  refine wpAny_bind (wpAny_updateSeq_pair hTO₄ fun h₅ hTO₅ hs₅ => ?_)
  replace hTO₅ : IsPair h₅ TO x y := hTO₅
  refine wpAny_bind (wpAny_letGo (wpAny_pure (wpAny_pure ?_)))
  refine wpAny_bind (wpAny_seqItems hTO₅ rfl ?_)
  refine wpAny_bind (wpAny_newTuple ?_)
  have hsz : h₅.objs.size = s.heap.objs.size := by rw [hs₅.1, hs₄.1, hs₃.1, hs₂.1, hs₁.1]
  have hz₅ : IsZip h₅ z TI TO .ellipsis := hs₅.extBut _ _ D.TOz.symm (hs₄.extBut _ _ D.i2z.symm (hs₃.extBut _ _ D.TOz.symm (hs₂.extBut _ _ D.i1z.symm hz₁)))
  have hk₅ : ∀ c o, c ≠ z → c ≠ TO → c ≠ i1 → c ≠ i2 → s.heap.get? c = some o → h₅.get? c = some o := fun c o c1 c2 c3 c4 e =>
    hs₅.extBut _ _ c2 (hs₄.extBut _ _ c4 (hs₃.extBut _ _ c2 (hs₂.extBut _ _ c3 (hs₁.extBut _ _ c1 e))))
  have h1₅ : S1 (k + 1) h₅ := mv1 (mv1 (mv1 h1₂ hs₃ D.TOi1.symm) hs₄ D.i12) hs₅ D.TOi1.symm
  have h2₅ : S2 (k + 1) h₅ := mv2 h2₄ hs₅ D.TOi2.symm
  have hzlt : z < h₅.objs.size := Heap.lt_size hz₅
  show wpAny _ _ (Builtin.SmallTypes.ownedTupleHandOut (.ref z) (.ref h₅.objs.size) >>= _) _ _ _
  refine wpAny_bind ?_
  unfold Builtin.SmallTypes.ownedTupleHandOut
  have hz₆ : IsZip (h₅.push { cls := .type "tuple", data := .seq #[x, y] }) z TI TO .ellipsis := Heap.get?_push_of_some _ hz₅
  refine wpAny_bind (wpAny_setField_rec hz₆ (by simp) fun h₇ hz₇ hs₇ => ?_)
  replace hz₇ : IsZip h₇ z TI TO (rawInt h₅.objs.size) := hz₇
  refine wpAny_setField_rec hz₇ (by simp) fun h₈ hz₈ hs₈ => ?_
  replace hz₈ : IsZip h₈ z TI TO (rawInt h₅.objs.size) := hz₈
  have up : ∀ c o, c ≠ z → h₅.get? c = some o → h₈.get? c = some o := fun c o c1 e => hs₈.extBut _ _ c1 (hs₇.extBut _ _ c1 (Heap.get?_push_of_some _ e))
  have hT₈ : IsPair h₈ h₅.objs.size x y := hs₈.extBut _ _ (Nat.ne_of_gt hzlt) (hs₇.extBut _ _ (Nat.ne_of_gt hzlt) (Heap.get?_push_size _ rfl))
  have hz8 : h₈.objs.size = h₅.objs.size + 1 := by rw [hs₈.1, hs₇.1, Heap.size_push]
  rw [hsz] at hz₈ hT₈ hz8
  refine wpAny_pure ⟨_, rfl, ?_⟩
  show Q (.ref h₅.objs.size) _
  rw [hsz]
  exact hQ x y h₈ _ hx hy hz₈ (up _ _ D.TOz hTO₅) (D1.frame _ _ _ h1₅ fun b hb o e => by rw [List.mem_singleton.mp hb] at e ⊢; exact up _ o D.i1z e) (D2.frame _ _ _ h2₅ fun b hb o e => by rw [List.mem_singleton.mp hb] at e ⊢; exact up _ o D.i2z e) hT₈ hz8 fun c o c1 c2 c3 c4 e => up c o c1 (hk₅ c o c1 c2 c3 c4 e)
theorem zip_next_endD {k : Nat} {a b : Value} {Q : Fin → Shared → Prop} (D : ZApart z TI TO i1 i2) (D1 : Draws prog w A i1 [i1] n1 P1 S1) (D2 : Draws prog w A i2 [i2] n2 P2 S2)
    (hz : IsZip s.heap z TI TO .none) (hTI : IsPair s.heap TI (.ref i1) (.ref i2)) (hTO : IsPair s.heap TO a b) (h1 : S1 k s.heap) (h2 : S2 k s.heap) (hend : k = n1 ∨ (k < n1 ∧ k = n2))
    (hE : ∀ h' e tk, (∀ c o, c ≠ z → c ≠ TO → c ≠ i1 → c ≠ i2 → s.heap.get? c = some o → h'.get? c = some o) → (∃ o, h'.get? e = some o ∧ o.cls = .type "StopIteration") → E (.ref e) { s with heap := h', toks := tk }) :
    wpAny (model prog w) A (Builtin.«zip.__next__» ⟨[.ref z], []⟩) Q E s := by
  have mv1 : ∀ {i h h'} {c : Addr}, S1 i h → Heap.SameBut c h h' → i1 ≠ c → S1 i h' := fun st hs hne => D1.frame _ _ _ st fun b hb o e => by rw [List.mem_singleton.mp hb] at e ⊢; exact hs.extBut _ _ hne e
  have mv2 : ∀ {i h h'} {c : Addr}, S2 i h → Heap.SameBut c h h' → i2 ≠ c → S2 i h' := fun st hs hne => D2.frame _ _ _ st fun b hb o e => by rw [List.mem_singleton.mp hb] at e ⊢; exact hs.extBut _ _ hne e
  show wpAny _ _ (field (.ref z) 2 >>= _) _ _ _
  refine wpAny_bind (wpAny_field hz rfl (x := .bool false) rfl ?_)
  show wpAny _ _ (field (.ref z) 3 >>= _) _ _ _
  refine wpAny_bind (wpAny_field hz rfl (x := .ref TI) rfl ?_)
  refine wpAny_bind (wpAny_seqItems hTI rfl ?_)
  show wpAny _ _ (Builtin.SmallTypes.ownedTupleIsFree (.ref z) >>= _) _ _ _
  refine wpAny_bind ?_
  unfold Builtin.SmallTypes.ownedTupleIsFree
  refine wpAny_bind (wpAny_field hz rfl (x := .none) rfl (wpAny_pure ?_))
  simp only [if_true]
  refine wpAny_bind (wpAny_rule ?_)
  refine wpAny_bind (wpAny_field hz rfl (x := .ref TO) rfl ?_)
  refine wpAny_bind (wpAny_setField_rec hz (by simp) fun h₁ hz₁ hs₁ => ?_)
  replace hz₁ : IsZip h₁ z TI TO .ellipsis := hz₁
  refine wpAny_bind ?_
  simp only [List.zipIdx_cons, List.zipIdx_nil, List.forIn_cons, List.forIn_nil]
  refine wpAny_bind (wpAny_bind (wpAny_onRaise ?_))
  show wpAny _ _ (Builtin.SmallTypes.nextOf (.ref i1) >>= _) _ _ _
  rcases hend with e | ⟨k1, e⟩
  · subst e
    refine wpAny_bind (D1.done _ _ _ (mv1 h1 hs₁ D.i1z) fun h₂ e hs₂ he => ?_)
    obtain ⟨oe, hoe, hce⟩ := he
    have hz₂ : IsZip h₂ z TI TO .ellipsis := hs₂ _ _ D.i1z.symm hz₁
    have hez : e ≠ z := fun x => by subst x; rw [hz₂] at hoe; cases hoe; simp at hce
    exact wpAny_setField_rec hz₂ (by simp) fun h₃ _ hs₃ => hE h₃ e s.toks (fun c o c1 _ c3 _ x => hs₃.extBut _ _ c1 (hs₂ _ _ c3 (hs₁.extBut _ _ c1 x))) ⟨oe, hs₃.extBut _ _ hez hoe, hce⟩
  · subst e
    refine wpAny_bind (D1.item k _ _ _ k1 (mv1 h1 hs₁ D.i1z) fun x h₂ tk₂ hx h1₂ hs₂ => wpAny_pure ?_)
    have hTO₂ : IsPair h₂ TO a b := hs₂.extBut _ _ D.TOi1 (hs₁.extBut _ _ D.TOz hTO)
    refine wpAny_bind (wpAny_seqItems hTO₂ rfl ?_)
    refine wpAny_bind (wpAny_updateSeq_pair hTO₂ fun h₃ hTO₃ hs₃ => ?_)
    refine wpAny_bind (wpAny_letGo (wpAny_pure ?_))
    refine wpAny_bind (wpAny_bind (wpAny_onRaise ?_))
    show wpAny _ _ (Builtin.SmallTypes.nextOf (.ref i2) >>= _) _ _ _
    refine wpAny_bind (D2.done _ _ _ (mv2 (mv2 (mv2 h2 hs₁ D.i2z) hs₂ D.i12.symm) hs₃ D.TOi2.symm) fun h₄ e hs₄ he => ?_)
    obtain ⟨oe, hoe, hce⟩ := he
    have hz₄ : IsZip h₄ z TI TO .ellipsis := hs₄ _ _ D.i2z.symm (hs₃.extBut _ _ D.TOz.symm (hs₂.extBut _ _ D.i1z.symm hz₁))
    have hez : e ≠ z := fun x => by subst x; rw [hz₄] at hoe; cases hoe; simp at hce
    exact wpAny_setField_rec hz₄ (by simp) fun h₅ _ hs₅ => hE h₅ e tk₂ (fun c o c1 c2 c3 c4 x => hs₅.extBut _ _ c1 (hs₄ _ _ c4 (hs₃.extBut _ _ c2 (hs₂.extBut _ _ c3 (hs₁.extBut _ _ c1 x))))) ⟨oe, hs₅.extBut _ _ hez hoe, hce⟩

theorem WalksT_zipD (D : ZApart z TI TO i1 i2) (D1 : Draws prog w A.in1 i1 [i1] n1 P1 S1) (D2 : Draws prog w A.in1 i2 [i2] n2 P2 S2) :
    WalksT prog w A z [z, TI, TO, i1, i2] [z, TO, i1, i2] (min n1 n2)
      (fun i vals => ∃ x y, P1 i x ∧ P2 i y ∧ vals = #[x, y])
      (fun i h => IsZip h z TI TO .none ∧ IsPair h TI (.ref i1) (.ref i2) ∧ (∃ a b, IsPair h TO a b) ∧ S1 i h ∧ S2 i h)
      (fun i T h => IsZip h z TI TO (rawInt T) ∧ IsPair h TI (.ref i1) (.ref i2) ∧ (∃ a b, IsPair h TO a b) ∧ S1 (i + 1) h ∧ S2 (i + 1) h ∧ T ≠ z ∧ T ≠ TO ∧ T ≠ i1 ∧ T ≠ i2) where
  sub := fun c hc => by simp at hc ⊢; rcases hc with rfl | rfl | rfl | rfl <;> simp
  frame := fun i h h' hst hk => by
    obtain ⟨hz, hTI, ⟨a, b, hTO⟩, h1, h2⟩ := hst
    exact ⟨hk z (by simp) _ hz, hk TI (by simp) _ hTI, ⟨a, b, hk TO (by simp) _ hTO⟩, D1.frame _ _ _ h1 fun c hc o e => hk c (by rw [List.mem_singleton.mp hc]; simp) o e, D2.frame _ _ _ h2 fun c hc o e => hk c (by rw [List.mem_singleton.mp hc]; simp) o e⟩
  item := fun i s Q E hi hst hQ => by
    obtain ⟨hz, hTI, ⟨a, b, hTO⟩, h1, h2⟩ := hst
    have k1 : i < n1 := Nat.lt_of_lt_of_le hi (Nat.min_le_left ..)
    have k2 : i < n2 := Nat.lt_of_lt_of_le hi (Nat.min_le_right ..)
    have hT : s.TypeIs (.ref z) "zip" := ⟨_, hz, rfl⟩
    have lt : ∀ {c o}, s.heap.get? c = some o → s.heap.objs.size ≠ c := fun e => Nat.ne_of_gt (Heap.lt_size e)
    unfold pyNext
    refine wpAny_bind (wpAny_attempt (wpAny_callSpecial?_slot (name := Str.ofString "__next__") hT PySem.F.slot_zip_next
      (wpAny_call_entry PySem.F.slot_zip_next hT PySem.F.entry_zip_next (zip_next_itemD D D1 D2 hz hTI hTO h1 h2 k1 k2 fun x y h' tk hx hy a1 a2 a3 a4 a5 a6 hk => wpAny_pure ?_) (PySem.F.args_zip_next_1 _))))
    exact hQ s.heap.objs.size #[x, y] h' tk ⟨x, y, hx, hy, rfl⟩ (Nat.le_refl _) ⟨_, a5, rfl, _, rfl⟩
      ⟨a1, hk _ _ D.TIz D.TITO D.TIi1 D.TIi2 hTI, ⟨_, _, a2⟩, a3, a4, lt hz, lt hTO, (let ⟨_, e⟩ := D1.live _ _ h1; lt e), (let ⟨_, e⟩ := D2.live _ _ h2; lt e)⟩
      fun c o hc e => hk c o (fun x => hc (by simp [x])) (fun x => hc (by simp [x])) (fun x => hc (by simp [x])) (fun x => hc (by simp [x])) e
  go := fun elts k pos i T s Q E hm hQ => by
    obtain ⟨hz, hTI, ⟨a, b, hTO⟩, h1, h2, _⟩ := hm
    refine wpAny_letOwnedTupleGo_zip hz fun h' hz' hs' => hQ h' ⟨hz', hs'.extBut _ _ D.TIz hTI, ⟨a, b, hs'.extBut _ _ D.TOz hTO⟩, D1.frame _ _ _ h1 fun c hc o e => ?_, D2.frame _ _ _ h2 fun c hc o e => ?_⟩ fun c o hc e => hs'.extBut _ _ (fun x => hc (by simp [x])) e
    · rw [List.mem_singleton.mp hc] at e ⊢; exact hs'.extBut _ _ D.i1z e
    · rw [List.mem_singleton.mp hc] at e ⊢; exact hs'.extBut _ _ D.i2z e
  apart := fun i T h hm hT => by
    obtain ⟨_, _, _, _, _, t1, t2, t3, t4⟩ := hm
    simp at hT
    rcases hT with rfl | rfl | rfl | rfl
    · exact t1 rfl
    · exact t2 rfl
    · exact t3 rfl
    · exact t4 rfl
  done := fun s Q E hst hQ => by
    obtain ⟨hz, hTI, ⟨a, b, hTO⟩, h1, h2⟩ := hst
    have hend : min n1 n2 = n1 ∨ (min n1 n2 < n1 ∧ min n1 n2 = n2) := by omega
    have hT : s.TypeIs (.ref z) "zip" := ⟨_, hz, rfl⟩
    unfold pyNext
    refine wpAny_bind (wpAny_attempt (wpAny_callSpecial?_slot (name := Str.ofString "__next__") hT PySem.F.slot_zip_next
      (wpAny_call_entry PySem.F.slot_zip_next hT PySem.F.entry_zip_next (zip_next_endD D D1 D2 hz hTI hTO h1 h2 hend fun h' e tk hk he => ?_) (PySem.F.args_zip_next_1 _))))
    obtain ⟨o, ho, hc⟩ := he
    refine wpAny_bind (wpAny_isInstance (T := "StopIteration") (b := true) ⟨o, ho, hc⟩ isSubtype_stop ?_)
    exact wpAny_pure (hQ h' tk fun c o hc e => hk c o (fun x => hc (by simp [x])) (fun x => hc (by simp [x])) (fun x => hc (by simp [x])) (fun x => hc (by simp [x])) e)
  self := fun i s Q E hst hQ => wpAny_pyIter_zip hst.1 hQ
end
end Mine
end

section
open PySem PySem.W PyProof.Rows
set_option maxRecDepth 100000
set_option Elab.async false
namespace Mine

/-- a value without its token -/
def norm : Value → Value
  | .int i _ => .int i 0
  | .float b _ => .float b 0
  | .str s _ => .str s 0
  | .bytes b _ => .bytes b 0
  | v => v
theorem norm_int {v : Value} {i : Int} {t : Tok} (h : norm v = .int i t) : ∃ u, v = .int i u := by
  cases v <;> simp only [norm, reduceCtorEq, Value.int.injEq] at h
  obtain ⟨rfl, _⟩ := h; exact ⟨_, rfl⟩
theorem norm_str {v : Value} {x : Str} {t : Tok} (h : norm v = .str x t) : ∃ u, v = .str x u := by
  cases v <;> simp only [norm, reduceCtorEq, Value.str.injEq] at h
  obtain ⟨rfl, _⟩ := h; exact ⟨_, rfl⟩
theorem norm_float {v : Value} {x : UInt64} {t : Tok} (h : norm v = .float x t) : ∃ u, v = .float x u := by
  cases v <;> simp only [norm, reduceCtorEq, Value.float.injEq] at h
  obtain ⟨rfl, _⟩ := h; exact ⟨_, rfl⟩
theorem norm_bool {v : Value} {b : Bool} (h : norm v = .bool b) : v = .bool b := by
  cases v <;> simp only [norm, reduceCtorEq, Value.bool.injEq] at h
  rw [h]
theorem norm_none {v : Value} (h : norm v = .none) : v = .none := by
  cases v <;> simp only [norm, reduceCtorEq] at h <;> rfl
theorem norm_ref {v : Value} {a : Addr} (h : norm v = .ref a) : v = .ref a := by
  cases v <;> simp only [norm, reduceCtorEq, Value.ref.injEq] at h
  rw [h]
theorem norm_type {v : Value} {a : String} (h : norm v = .type a) : v = .type a := by
  cases v <;> simp only [norm, reduceCtorEq, Value.type.injEq] at h
  rw [h]
theorem norm_builtin {v : Value} {a : String} (h : norm v = .builtin a) : v = .builtin a := by
  cases v <;> simp only [norm, reduceCtorEq, Value.builtin.injEq] at h
  rw [h]
theorem norm_norm (v : Value) : norm (norm v) = norm v := by cases v <;> rfl

/-- what a call may lean on: the world, the text, the heap at the law's call, the module's names -/
structure Wd where
  w : World
  prog : Program
  h₁ : Heap
  os₁ : OsState
  mg : Str → Option Value
  mb : Str → Option Value
  tabs : List (Addr × Addr)

/-- the code tables that grow -/
def Tabs (W : Wd) (s : Shared) : Prop := ∀ x ∈ W.tabs, x.1 < W.h₁.objs.size ∧ x.2 < W.h₁.objs.size ∧ ∃ ps, s.heap.TableAt x.1 x.2 ps ∧ s.heap.IsCode x.1 x.2 ps
theorem Tabs.keep {W : Wd} {s s' : Shared} (t : Tabs W s) (k : ∀ b o, b < W.h₁.objs.size → s.heap.get? b = some o → s'.heap.get? b = some o) : Tabs W s' := by
  intro x hx
  obtain ⟨h1, h2, ps, ⟨⟨o, vs, ho, r⟩, hp⟩, hc⟩ := t x hx
  refine ⟨h1, h2, ps, ⟨⟨o, vs, k _ _ h1 ho, r⟩, k _ _ h2 hp⟩, ?_⟩
  obtain ⟨o', vs', file, tf, flags, tg, inF, text, tt, op, a, r1, r2, r3, r4, r5, r6, b, r⟩ := hc
  exact ⟨o', vs', file, tf, flags, tg, inF, text, tt, op, k _ _ h1 a, r1, r2, r3, r4, r5, r6, k _ _ h2 b, r⟩

structure Inv (W : Wd) (s : Shared) : Prop where
  old : OldK W.h₁ s.heap
  stat : ∀ o, W.h₁.get? cStatics = some o → s.heap.get? cStatics = some o
  os : s.os = W.os₁
  bare : AllBare s.gens
  size : W.h₁.objs.size ≤ s.heap.objs.size
  tabs : Tabs W s

/-- all objects but the code tables -/
def Solid (o : Obj) : Prop := o.cls ≠ .none ∨ (∃ es ep, o.data = .dict es ep) ∨ ∃ v, o.data = .cell v

/-- objects that the text sees and may change -/
inductive AObj where
  | list (own : Bool) (l : List Value)
  | tuple (l : List Value)
  | raw (o : Obj)
  | gone
  | gen (g : Nat) (c : Code)
  | frm (ρ : Str → Option Value)
  | ns (ρ : Str → Option Value)
/-- these stay as they are -/
def AObj.frozen : AObj → Bool
  | .tuple _ => true
  | .raw _ => true
  | _ => false

abbrev AHeap := Addr → Option AObj
def AHeap.put (H : AHeap) (a : Addr) (o : AObj) : AHeap := fun x => if x = a then some o else H x
theorem AHeap.put_self (H : AHeap) (a : Addr) (o : AObj) : H.put a o a = some o := if_pos rfl
theorem AHeap.put_ne {H : AHeap} {a b : Addr} {o : AObj} (h : b ≠ a) : H.put a o b = H b := if_neg h

def AObj.At (W : Wd) (s : Shared) (a : Addr) : AObj → Prop
  | .list own l => ∃ vs : Array Value, s.heap.IsList a vs ∧ vs.toList.map norm = l ∧ vs.size ≤ sizeLine ∧ (own = true → W.h₁.objs.size ≤ a ∧ ∃ n, s.heap.get? a = some { cls := .type "list", data := .seq vs n })
  | .tuple l => ∃ (vs : Array Value) (n : Nat), s.heap.get? a = some { cls := .type "tuple", data := .seq vs n } ∧ vs.toList.map norm = l ∧ vs.size ≤ sizeLine
  | .raw o => s.heap.get? a = some o ∧ Solid o
  | .gone => ∃ o, s.heap.get? a = some o ∧ Solid o
  | .gen g c => s.heap.IsGen a g ∧ s.gens[g]? = some (.fresh c)
  | .frm ρ => W.h₁.objs.size ≤ a ∧ ∃ m, s.heap.Ns a m ∧ ∀ x, (m x).map norm = ρ x
  | .ns ρ => W.h₁.objs.size ≤ a ∧ ∃ m, s.heap.Ns1 a m ∧ ∀ x, (m x).map norm = ρ x

theorem solid_cls {o : Obj} {T : String} (h : o.cls = .type T) : Solid o := .inl (by rw [h]; intro q; cases q)
theorem solid_ns {h : Heap} {a : Addr} {m : Str → Option Value} (hn : h.Ns a m) {o : Obj} (ho : h.get? a = some o) : Solid o := by
  obtain ⟨o', es, ep, h1, h2, _⟩ := hn
  rw [ho] at h1; cases h1
  exact .inr (.inl ⟨es, ep, h2⟩)
theorem AObj.At.cls {W : Wd} {s : Shared} {a : Addr} {x : AObj} (e : x.At W s a) : ∃ o, s.heap.get? a = some o ∧ Solid o := by
  cases x with
  | list own l => obtain ⟨vs, ⟨o, ho, hc, _⟩, _⟩ := e; exact ⟨o, ho, solid_cls hc⟩
  | tuple l => obtain ⟨vs, n, ho, _⟩ := e; exact ⟨_, ho, solid_cls rfl⟩
  | raw o => exact ⟨o, e.1, e.2⟩
  | gone => exact e
  | gen g c => obtain ⟨⟨o, nm, qn, ho, hc, _⟩, _⟩ := e; exact ⟨o, ho, solid_cls hc⟩
  | frm ρ => obtain ⟨_, m, hm, _⟩ := e; have hm' := hm; obtain ⟨o, es, ep, ho, _⟩ := hm'; exact ⟨o, ho, solid_ns hm ho⟩
  | ns ρ => obtain ⟨_, m, hm, _⟩ := e; have hm' := hm.ns; obtain ⟨o, es, ep, ho, _⟩ := hm'; exact ⟨o, ho, solid_ns hm.ns ho⟩
theorem AObj.At.moves {W : Wd} {s s' : Shared} {a : Addr} {x : AObj} (e : x.At W s a) (k : ∀ o, s.heap.get? a = some o → Solid o → s'.heap.get? a = some o) (kg : ∀ g c, x = .gen g c → s.gens[g]? = some (.fresh c) → s'.gens[g]? = some (.fresh c)) : x.At W s' a := by
  cases x with
  | list own l =>
    obtain ⟨vs, ⟨o, ho, hc, hd⟩, e1, e2, ow⟩ := e
    exact ⟨vs, ⟨o, k o ho (solid_cls hc), hc, hd⟩, e1, e2, fun q => ⟨(ow q).1, let ⟨n, hn⟩ := (ow q).2; ⟨n, k _ hn (solid_cls rfl)⟩⟩⟩
  | tuple l => obtain ⟨vs, n, ho, r⟩ := e; exact ⟨vs, n, k _ ho (solid_cls rfl), r⟩
  | raw o => exact ⟨k o e.1 e.2, e.2⟩
  | gone => obtain ⟨o, h1, h2⟩ := e; exact ⟨o, k o h1 h2, h2⟩
  | gen g c => obtain ⟨⟨o, nm, qn, ho, hc, r⟩, hg⟩ := e; exact ⟨⟨o, nm, qn, k o ho (solid_cls hc), hc, r⟩, kg g c rfl hg⟩
  | frm ρ => obtain ⟨h1, m, hm, h2⟩ := e; exact ⟨h1, m, hm.at fun o ho => k o ho (solid_ns hm ho), h2⟩
  | ns ρ => obtain ⟨h1, m, hm, h2⟩ := e; exact ⟨h1, m, hm.at fun o ho => k o ho (solid_ns hm.ns ho), h2⟩
theorem AObj.At.keeps {W : Wd} {s s' : Shared} {a : Addr} {x : AObj} (e : x.At W s a) (k : ∀ o, s.heap.get? a = some o → Solid o → s'.heap.get? a = some o) (hg : s'.gens = s.gens) : x.At W s' a :=
  e.moves k fun g c _ h => by rw [hg]; exact h

def HRel (W : Wd) (H : AHeap) (s : Shared) : Prop := ∀ a x, H a = some x → x.At W s a
theorem HRel.none_of {W : Wd} {H : AHeap} {s : Shared} (r : HRel W H s) {a : Addr} (ha : s.heap.get? a = none) : H a = none := by
  cases e : H a with
  | none => rfl
  | some x => obtain ⟨o, ho, _⟩ := (r a x e).cls; rw [ha] at ho; cases ho

/-- what is seen, before (n objects, m generators) and behind -/
structure View (X : Addr → Prop) (n m : Nat) (H H' : AHeap) : Prop where
  dom : ∀ b, H' b ≠ none → H b ≠ none ∨ n ≤ b ∨ X b
  mono : ∀ b, H b ≠ none → H' b ≠ none
  frz : ∀ b x, H b = some x → x.frozen = true → H' b = some x
  gdom : ∀ a g c, H' a = some (.gen g c) → (∃ a' c', H a' = some (.gen g c')) ∨ m ≤ g
theorem View.refl {X : Addr → Prop} {n m : Nat} {H : AHeap} : View X n m H H := ⟨fun _ h => .inl h, fun _ h => h, fun _ _ h _ => h, fun a _ c h => .inl ⟨a, c, h⟩⟩
theorem View.trans {X : Addr → Prop} {n m n' m' : Nat} {H H₁ H₂ : AHeap} (x : View X n m H H₁) (y : View X n' m' H₁ H₂) (hn : n ≤ n') (hm : m ≤ m') : View X n m H H₂ := by
  refine ⟨fun b h => ?_, fun b h => y.mono b (x.mono b h), fun b q h hf => y.frz b q (x.frz b q h hf) hf, fun a g c h => ?_⟩
  · rcases y.dom b h with q | q | q
    · exact x.dom b q
    · exact .inr (.inl (Nat.le_trans hn q))
    · exact .inr (.inr q)
  · rcases y.gdom a g c h with ⟨a', c', q⟩ | q
    · exact x.gdom a' g c' q
    · exact .inr (Nat.le_trans hm q)
theorem View.wk {X Y : Addr → Prop} {n m : Nat} {H H' : AHeap} (x : View X n m H H') (h : ∀ b, X b → Y b) : View Y n m H H' :=
  ⟨fun b hb => (x.dom b hb).imp id (Or.imp id (h b)), x.mono, x.frz, x.gdom⟩
theorem View.put {X : Addr → Prop} {n m : Nat} {H : AHeap} {a : Addr} {x : AObj} (ha : n ≤ a ∨ H a ≠ none ∨ X a) (hf : ∀ y, H a = some y → y.frozen = false ∨ x = y) (hg : ∀ g c, x = .gen g c → m ≤ g ∨ ∃ a' c', H a' = some (.gen g c')) : View X n m H (H.put a x) := by
  refine ⟨fun b hb => ?_, fun b hb => ?_, fun b y hy hfy => ?_, fun b g c hb => ?_⟩
  · by_cases e : b = a
    · subst e; rcases ha with q | q | q
      · exact .inr (.inl q)
      · exact .inl q
      · exact .inr (.inr q)
    · rw [AHeap.put_ne e] at hb; exact .inl hb
  · by_cases e : b = a
    · subst e; rw [AHeap.put_self]; intro q; cases q
    · rw [AHeap.put_ne e]; exact hb
  · by_cases e : b = a
    · subst e; rw [AHeap.put_self]
      rcases hf y hy with q | q
      · rw [q] at hfy; cases hfy
      · rw [q]
    · rw [AHeap.put_ne e]; exact hy
  · by_cases e : b = a
    · subst e; rw [AHeap.put_self] at hb
      rcases hg g c (Option.some.inj hb) with q | q
      · exact .inr q
      · exact .inl q
    · rw [AHeap.put_ne e] at hb; exact .inl ⟨b, c, hb⟩

/-- from s (seen as H) to s' (seen as H'); the hidden objects of X may turn -/
structure StepX (W : Wd) (X : Addr → Prop) (H : AHeap) (s : Shared) (H' : AHeap) (s' : Shared) : Prop where
  inv : Inv W s'
  rel : HRel W H' s'
  keep : ∀ b o, s.heap.get? b = some o → Solid o → H b = none → ¬ X b → s'.heap.get? b = some o
  vw : View X s.heap.objs.size s.gens.size H H'
  grow : s.heap.objs.size ≤ s'.heap.objs.size
  gkeep : ∀ g st, s.gens[g]? = some st → (∀ a c, H a ≠ some (.gen g c)) → s'.gens[g]? = some st
  ggrow : s.gens.size ≤ s'.gens.size
def noX (_ : Addr) : Prop := False
abbrev Step (W : Wd) := StepX W noX

theorem StepX.refl {W : Wd} {X : Addr → Prop} {H : AHeap} {s : Shared} (i : Inv W s) (r : HRel W H s) : StepX W X H s H s :=
  ⟨i, r, fun _ _ h _ _ _ => h, .refl, Nat.le_refl _, fun _ _ h _ => h, Nat.le_refl _⟩
theorem Step.refl {W : Wd} {H : AHeap} {s : Shared} (i : Inv W s) (r : HRel W H s) : Step W H s H s := StepX.refl i r
/-- a hidden object stays hidden and as it is -/
theorem StepX.hid {W : Wd} {X : Addr → Prop} {H H' : AHeap} {s s' : Shared} (x : StepX W X H s H' s') {b : Addr} (hb : b < s.heap.objs.size) (hn : H b = none) (hX : ¬ X b) : H' b = none := by
  cases e : H' b with
  | none => rfl
  | some q =>
    rcases x.vw.dom b (by rw [e]; intro q; cases q) with u | u | u
    · exact absurd hn u
    · exact absurd hb (Nat.not_lt.mpr u)
    · exact absurd u hX
theorem StepX.trans {W : Wd} {X : Addr → Prop} {H H₁ H₂ : AHeap} {s s₁ s₂ : Shared} (x : StepX W X H s H₁ s₁) (y : StepX W X H₁ s₁ H₂ s₂) : StepX W X H s H₂ s₂ := by
  refine ⟨y.inv, y.rel, fun b o h hc hn hX => y.keep b o (x.keep b o h hc hn hX) hc (x.hid (Heap.lt_size h) hn hX) hX, x.vw.trans y.vw x.grow x.ggrow, Nat.le_trans x.grow y.grow, fun g st h hn => y.gkeep g st (x.gkeep g st h hn) fun a c e => ?_, Nat.le_trans x.ggrow y.ggrow⟩
  rcases x.vw.gdom a g c e with ⟨a', c', q⟩ | q
  · exact hn a' c' q
  · have : g < s.gens.size := (Array.getElem?_eq_some_iff.mp h).1
    omega
theorem StepX.wk {W : Wd} {X Y : Addr → Prop} {H H' : AHeap} {s s' : Shared} (x : StepX W X H s H' s') (h : ∀ b, X b → Y b) : StepX W Y H s H' s' :=
  ⟨x.inv, x.rel, fun b o hb hc hn hy => x.keep b o hb hc hn fun q => hy (h b q), x.vw.wk h, x.grow, x.gkeep, x.ggrow⟩
theorem StepX.toX {W : Wd} {X : Addr → Prop} {H H' : AHeap} {s s' : Shared} (x : Step W H s H' s') : StepX W X H s H' s' := x.wk fun _ h => h.elim
/-- what was not there at the start may be forgotten -/
theorem StepX.fresh {W : Wd} {X Y : Addr → Prop} {H H' : AHeap} {s s' : Shared} (x : StepX W X H s H' s') (h : ∀ b, X b → Y b ∨ s.heap.objs.size ≤ b) : StepX W Y H s H' s' := by
  refine ⟨x.inv, x.rel, fun b o hb hc hn hy => x.keep b o hb hc hn fun q => ?_, ⟨fun b hb => ?_, x.vw.mono, x.vw.frz, x.vw.gdom⟩, x.grow, x.gkeep, x.ggrow⟩
  · rcases h b q with u | u
    · exact hy u
    · exact absurd (Heap.lt_size hb) (Nat.not_lt.mpr u)
  · rcases x.vw.dom b hb with u | u | u
    · exact .inl u
    · exact .inr (.inl u)
    · exact .inr ((h b u).symm)

structure Frm where
  env : Env
abbrev Frm.L (F : Frm) : Addr := F.env.locals
abbrev Frm.scope (F : Frm) : Scope := F.env.scope

abbrev Loc := Str → Option Value
def Loc.put (ρ : Loc) (x : Str) (v : Value) : Loc := fun y => if y = x then some v else ρ y

/-- the objects that a frame's own stores turn -/
def Frm.own (F : Frm) (b : Addr) : Prop := b = F.L ∨ ∃ x, F.env.cells.lookup x = some b ∧ F.scope.names.lookup x = some .cell
abbrev StepL (W : Wd) (F : Frm) := StepX W F.own

structure FRel (W : Wd) (F : Frm) (ρ : Loc) (H : AHeap) (s : Shared) : Prop where
  above : W.h₁.objs.size ≤ F.L
  ns : ∃ m, s.heap.Ns F.L m ∧ ∀ x, F.scope.names.lookup x = some .local → (m x).map norm = ρ x
  apart : H F.L = none
  kind : F.scope.kind = .function
  glob : F.env.globals = mainGlobals
  bi : F.env.builtins = builtinsNs
  cells : ∀ x c, F.env.cells.lookup x = some c → (∃ v, s.heap.IsCell c v ∧ v.map norm = ρ x ∧ (H c = none ∨ ∃ o, H c = some (.raw o) ∧ o.data = .cell v)) ∧ W.h₁.objs.size ≤ c ∧ c ≠ F.L
  cinj : ∀ x y c, F.env.cells.lookup x = some c → F.env.cells.lookup y = some c → x = y
  cdis : ∀ x c, F.env.cells.lookup x = some c → F.scope.names.lookup x ≠ some .local

/-- a frame stays as it is along a step that does not turn it -/
theorem FRel.stepX {W : Wd} {X : Addr → Prop} {F : Frm} {ρ : Loc} {H H' : AHeap} {s s' : Shared} (f : FRel W F ρ H s) (x : StepX W X H s H' s') (hL : ¬ X F.L) (hC : ∀ y c, F.env.cells.lookup y = some c → ¬ X c) : FRel W F ρ H' s' := by
  obtain ⟨m, hm, hv⟩ := f.ns
  have hk : ∀ o, s.heap.get? F.L = some o → s'.heap.get? F.L = some o := fun o ho => x.keep _ o ho (solid_ns hm ho) f.apart hL
  refine ⟨f.above, ⟨m, hm.at hk, hv⟩, x.hid hm.lt f.apart hL, f.kind, f.glob, f.bi, fun y c hc => ?_, f.cinj, f.cdis⟩
  obtain ⟨⟨v, ⟨o, h0, h1⟩, h2, h3⟩, h4, h5⟩ := f.cells y c hc
  refine ⟨⟨v, ?_, h2, ?_⟩, h4, h5⟩
  · rcases h3 with h3 | ⟨o', h3, h6⟩
    · exact ⟨o, x.keep c _ h0 (.inr (.inr ⟨v, h1⟩)) h3 (hC y c hc), h1⟩
    · exact ⟨o', (x.rel c _ (x.vw.frz c _ h3 rfl)).1, h6⟩
  · rcases h3 with h3 | ⟨o', h3, h6⟩
    · exact .inl (x.hid (Heap.lt_size h0) h3 (hC y c hc))
    · exact .inr ⟨o', x.vw.frz c _ h3 rfl, h6⟩
theorem FRel.step {W : Wd} {F : Frm} {ρ : Loc} {H H' : AHeap} {s s' : Shared} (f : FRel W F ρ H s) (x : Step W H s H' s') : FRel W F ρ H' s' := f.stepX x (fun h => h) fun _ _ _ h => h
end Mine
end

section
open PySem PySem.W PyProof.Rows
set_option maxRecDepth 100000
set_option Elab.async false
namespace Mine

/-- what the text knows of its top at the law's call -/
structure TopOk (W : Wd) : Prop where
  g : W.h₁.Ns mainGlobals W.mg
  b : W.h₁.Ns builtinsNs W.mb
  nolimit : W.h₁.NoLimit
  bmod : ∃ bm ob, W.mg "__builtins__" = some (.ref bm) ∧ bm ≠ builtinsNs ∧ W.h₁.get? bm = some ob ∧ ob.cls = .type "module" ∧ ob.dict = some builtinsNs ∧ ob.data = .plain

theorem ns_keep {h₀ h : Heap} {a : Addr} {m : Str → Option Value} (K : OldK h₀ h) (hn : h₀.Ns a m) (ha : a ≠ cStatics) : h.Ns a m := hn.at fun o ho => by
  obtain ⟨o', es, ep, h1, h2, _⟩ := hn
  rw [ho] at h1; cases h1
  rcases K.old a o ho with x | ⟨_, _, vs, more, hv, _⟩ | ⟨e, _⟩
  · exact x
  · rw [h2] at hv; cases hv
  · exact absurd e ha
theorem Inv.glob {W : Wd} {s : Shared} (T : TopOk W) (i : Inv W s) : s.heap.Ns mainGlobals W.mg := ns_keep i.old T.g (by decide)
theorem Inv.blt {W : Wd} {s : Shared} (T : TopOk W) (i : Inv W s) : s.heap.Ns builtinsNs W.mb := ns_keep i.old T.b (by decide)
theorem Inv.nolimit {W : Wd} {s : Shared} (T : TopOk W) (i : Inv W s) : s.heap.NoLimit := by
  obtain ⟨mc, h, e⟩ := T.nolimit
  exact ⟨mc, h.at i.stat, e⟩
theorem Inv.toks {W : Wd} {s : Shared} (i : Inv W s) (k : Nat) : Inv W { s with toks := k } := ⟨i.old, i.stat, i.os, i.bare, i.size, i.tabs⟩

theorem StepX.toks {W : Wd} {X : Addr → Prop} {H H' : AHeap} {s s' : Shared} (x : StepX W X H s H' s') (k : Nat) : StepX W X H s H' { s' with toks := k } :=
  ⟨x.inv.toks k, x.rel, x.keep, x.vw, x.grow, x.gkeep, x.ggrow⟩

section
variable (W : Wd) (A : Around)
/-- a tree of values, from what is seen -/
def TW (t : Sem Value) (H : AHeap) (s : Shared) (Q : Value → AHeap → Prop) : Prop :=
  wpAny (model W.prog W.w) A t (fun v s' => ∃ H', Step W H s H' s' ∧ Q (norm v) H') (fun _ _ => False) s
/-- an expression in a frame -/
def EvW (F : Frm) (e : Expr) (ρ : Loc) (H : AHeap) (Q : Value → AHeap → Prop) : Prop :=
  ∀ s, Inv W s → HRel W H s → FRel W F ρ H s → TW W A (eval e F.env) H s Q
end

section
variable {W : Wd} {A : Around} {F : Frm} {ρ : Loc} {H : AHeap} {Q : Value → AHeap → Prop} {s : Shared}

theorem TW.mono {t : Sem Value} {Q' : Value → AHeap → Prop} (h : TW W A t H s Q) (k : ∀ v H', Q v H' → Q' v H') : TW W A t H s Q' :=
  wpAny_mono h (fun _ _ ⟨H', st, q⟩ => ⟨H', st, k _ _ q⟩) fun _ _ x => x
theorem EvW.mono {e : Expr} {Q' : Value → AHeap → Prop} (h : EvW W A F e ρ H Q) (k : ∀ v H', Q v H' → Q' v H') : EvW W A F e ρ H Q' :=
  fun s i r f => (h s i r f).mono k

theorem tw_pure {v : Value} (i : Inv W s) (r : HRel W H s) (h : Q (norm v) H) : TW W A (pure v) H s Q := wpAny_pure ⟨H, .refl i r, h⟩
/-- the rest of a tree behind a step -/
theorem tw_then {t : Sem Value} {H₁ : AHeap} {s₁ : Shared} (x : Step W H s H₁ s₁) (h : TW W A t H₁ s₁ Q) :
    wpAny (model W.prog W.w) A t (fun v s' => ∃ H', Step W H s H' s' ∧ Q (norm v) H') (fun _ _ => False) s₁ :=
  wpAny_mono h (fun _ _ ⟨H', st, q⟩ => ⟨H', x.trans st, q⟩) fun _ _ x => x

theorem ev_int {i : Int} {k : Nat} {pos : Pos} (h : Q (.int i 0) H) : EvW W A F (.Constant (.int i) k pos) ρ H Q :=
  fun _ i r _ => wpAny_Constant_int ⟨H, (Step.refl i r).toks _, h⟩
theorem ev_str {x : Str} {k : Nat} {pos : Pos} (h : Q (.str x 0) H) : EvW W A F (.Constant (.str x) k pos) ρ H Q :=
  fun _ i r _ => wpAny_Constant_str ⟨H, (Step.refl i r).toks _, h⟩
theorem ev_none {k : Nat} {pos : Pos} (h : Q .none H) : EvW W A F (.Constant .none k pos) ρ H Q :=
  fun _ i r _ => wpAny_Constant_none ⟨H, Step.refl i r, h⟩
theorem ev_bool {b : Bool} {k : Nat} {pos : Pos} (h : Q (.bool b) H) : EvW W A F (.Constant (.bool b) k pos) ρ H Q :=
  fun _ i r _ => wpAny_Constant_bool ⟨H, Step.refl i r, h⟩
theorem ev_local {x : Str} {pos : Pos} {v : Value} (hk : F.scope.names.lookup x = some .local) (hd : (x == ("__debug__" : Str)) = false) (hv : ρ x = some v) (h : Q v H) : EvW W A F (.Name x pos) ρ H Q := by
  intro s i r f
  obtain ⟨m, hm, hρ⟩ := f.ns
  have e := hρ x hk
  rw [hv] at e
  obtain ⟨v', h1, h2⟩ := Option.map_eq_some_iff.mp e
  exact wpAny_Name (wpAny_loadName_local f.kind hk hm h1 ⟨H, Step.refl i r, by rw [h2]; exact h⟩) hd
theorem ev_global {x : Str} {pos : Pos} {v : Value} (T : TopOk W) (hk : F.scope.names.lookup x = some .globalImplicit) (hd : (x == ("__debug__" : Str)) = false) (hv : W.mg x = some v) (h : Q (norm v) H) : EvW W A F (.Name x pos) ρ H Q :=
  fun _ i r f => Calls.Name_function_global f.kind hk (Calls.loadGlobal_global (by rw [f.glob]; exact i.glob T) hv ⟨H, Step.refl i r, h⟩) hd
theorem ev_builtin {x : Str} {pos : Pos} {v : Value} (T : TopOk W) (hk : F.scope.names.lookup x = some .globalImplicit) (hd : (x == ("__debug__" : Str)) = false) (hm : W.mg x = none) (hv : W.mb x = some v) (h : Q (norm v) H) : EvW W A F (.Name x pos) ρ H Q :=
  fun _ i r f => Calls.Name_function_global f.kind hk (Calls.loadGlobal_builtin (by rw [f.glob]; exact i.glob T) hm (by rw [f.bi]; exact i.blt T) hv ⟨H, Step.refl i r, h⟩) hd

/-- an operation on two values -/
def BopW (W : Wd) (A : Around) (t : Value → Value → Sem Value) (a b : Value) (H : AHeap) (Q : Value → AHeap → Prop) : Prop :=
  ∀ s va vb, norm va = a → norm vb = b → Inv W s → HRel W H s → TW W A (t va vb) H s Q
theorem ev_binop {l r : Expr} {op : PySem.Operator} {pos : Pos} (h : EvW W A F l ρ H fun a H₁ => EvW W A F r ρ H₁ fun b H₂ => BopW W A (binaryOp op) a b H₂ Q) : EvW W A F (.BinOp l op r pos) ρ H Q :=
  fun s i rl f => wpAny_BinOp (wpAny_mono (h s i rl f) (fun va s₁ ⟨H₁, x₁, h₁⟩ => wpAny_mono (h₁ s₁ x₁.inv x₁.rel (f.step x₁)) (fun vb s₂ ⟨H₂, x₂, h₂⟩ =>
    tw_then (x₁.trans x₂) (h₂ s₂ va vb rfl rfl x₂.inv x₂.rel)) fun _ _ x => x) fun _ _ x => x)
theorem ev_compare {l r : Expr} {op : CmpOp} {pos : Pos} (hm : behindInMarks op r = false) (h : EvW W A F l ρ H fun a H₁ => EvW W A F r ρ H₁ fun b H₂ => BopW W A (compareOp op) a b H₂ Q) : EvW W A F (.Compare l [op] [r] pos) ρ H Q :=
  fun s i rl f => wpAny_Compare1 (wpAny_mono (h s i rl f) (fun va s₁ ⟨H₁, x₁, h₁⟩ => wpAny_mono (h₁ s₁ x₁.inv x₁.rel (f.step x₁)) (fun vb s₂ ⟨H₂, x₂, h₂⟩ =>
    tw_then (x₁.trans x₂) (h₂ s₂ va vb rfl rfl x₂.inv x₂.rel)) fun _ _ x => x) fun _ _ x => x) hm

theorem bop_add_int {a b : Int} (h : Q (.int (a + b) 0) H) : BopW W A (binaryOp .Add) (.int a 0) (.int b 0) H Q := by
  intro s va vb ha hb i r
  obtain ⟨t, rfl⟩ := norm_int ha; obtain ⟨u, rfl⟩ := norm_int hb
  exact add_int ⟨H, (Step.refl i r).toks _, h⟩
theorem bop_sub_int {a b : Int} (h : Q (.int (a - b) 0) H) : BopW W A (binaryOp .Sub) (.int a 0) (.int b 0) H Q := by
  intro s va vb ha hb i r
  obtain ⟨t, rfl⟩ := norm_int ha; obtain ⟨u, rfl⟩ := norm_int hb
  exact sub_int ⟨H, (Step.refl i r).toks _, h⟩
theorem bop_mul_int {a b : Int} (hm : IntMulOk a b) (h : Q (.int (a * b) 0) H) : BopW W A (binaryOp .Mult) (.int a 0) (.int b 0) H Q := by
  intro s va vb ha hb i r
  obtain ⟨t, rfl⟩ := norm_int ha; obtain ⟨u, rfl⟩ := norm_int hb
  exact mul_int ⟨H, (Step.refl i r).toks _, h⟩ hm
theorem bop_mod_int {a b : Int} (h0 : b ≠ 0) (h : Q (.int (a.fmod b) 0) H) : BopW W A (binaryOp .Mod) (.int a 0) (.int b 0) H Q := by
  intro s va vb ha hb i r
  obtain ⟨t, rfl⟩ := norm_int ha; obtain ⟨u, rfl⟩ := norm_int hb
  exact mod_int h0 ⟨H, (Step.refl i r).toks _, h⟩
theorem bop_div_int {a b : Int} (h0 : b ≠ 0) (hp : Builtin.divisionGoesByPylong a b = false) (h : Q (.int (a.fdiv b) 0) H) : BopW W A (binaryOp .FloorDiv) (.int a 0) (.int b 0) H Q := by
  intro s va vb ha hb i r
  obtain ⟨t, rfl⟩ := norm_int ha; obtain ⟨u, rfl⟩ := norm_int hb
  exact floordiv_int h0 ⟨H, (Step.refl i r).toks _, h⟩ (.inl hp)
theorem bop_add_str {a b : Str} (hz : a.length + b.length ≤ sizeLine) (h : Q (.str (a ++ b) 0) H) : BopW W A (binaryOp .Add) (.str a 0) (.str b 0) H Q := by
  intro s va vb ha hb i r
  obtain ⟨t, rfl⟩ := norm_str ha; obtain ⟨u, rfl⟩ := norm_str hb
  exact add_str (fun t' tk => ⟨H, (Step.refl i r).toks _, h⟩) hz
theorem bop_eq_int {a b : Int} (h : Q (.bool (a == b)) H) : BopW W A (compareOp .Eq) (.int a 0) (.int b 0) H Q := by
  intro s va vb ha hb i r
  obtain ⟨t, rfl⟩ := norm_int ha; obtain ⟨u, rfl⟩ := norm_int hb
  exact eq_int ⟨H, .refl i r, h⟩
theorem bop_lt_int {a b : Int} (h : Q (.bool (decide (a < b))) H) : BopW W A (compareOp .Lt) (.int a 0) (.int b 0) H Q := by
  intro s va vb ha hb i r
  obtain ⟨t, rfl⟩ := norm_int ha; obtain ⟨u, rfl⟩ := norm_int hb
  exact lt_int ⟨H, .refl i r, h⟩
theorem bop_gt_int {a b : Int} (h : Q (.bool (decide (b < a))) H) : BopW W A (compareOp .Gt) (.int a 0) (.int b 0) H Q := by
  intro s va vb ha hb i r
  obtain ⟨t, rfl⟩ := norm_int ha; obtain ⟨u, rfl⟩ := norm_int hb
  exact gt_int ⟨H, .refl i r, h⟩
theorem bop_eq_str {a b : Str} (h : Q (.bool (a == b)) H) : BopW W A (compareOp .Eq) (.str a 0) (.str b 0) H Q := by
  intro s va vb ha hb i r
  obtain ⟨t, rfl⟩ := norm_str ha; obtain ⟨u, rfl⟩ := norm_str hb
  exact eq_str ⟨H, .refl i r, h⟩
theorem bop_ne_str {a b : Str} (h : Q (.bool (a != b)) H) : BopW W A (compareOp .NotEq) (.str a 0) (.str b 0) H Q := by
  intro s va vb ha hb i r
  obtain ⟨t, rfl⟩ := norm_str ha; obtain ⟨u, rfl⟩ := norm_str hb
  exact ne_str ⟨H, .refl i r, h⟩
end
end Mine
end

section
open PySem PySem.W PyProof.Rows
set_option maxRecDepth 100000
set_option Elab.async false
set_option linter.unusedVariables false
namespace Mine

section
variable (W : Wd) (A : Around)
/-- the truth of a value -/
def TrW (a : Value) (H : AHeap) (Q : Bool → AHeap → Prop) : Prop :=
  ∀ s v, norm v = a → Inv W s → HRel W H s → wpAny (model W.prog W.w) A (truthy v) (fun b s' => ∃ H', Step W H s H' s' ∧ Q b H') (fun _ _ => False) s
/-- a test in a frame -/
def TsW (F : Frm) (e : Expr) (ρ : Loc) (H : AHeap) (Q : Bool → AHeap → Prop) : Prop :=
  ∀ s, Inv W s → HRel W H s → FRel W F ρ H s → wpAny (model W.prog W.w) A (isTrue e F.env (eval e F.env)) (fun b s' => ∃ H', Step W H s H' s' ∧ Q b H') (fun _ _ => False) s
end

section
variable {W : Wd} {A : Around} {F : Frm} {ρ : Loc} {H : AHeap} {s : Shared} {Q : Bool → AHeap → Prop}

theorem tr_bool {b : Bool} (h : Q b H) : TrW W A (.bool b) H Q := by
  intro s v hv i r
  rw [norm_bool hv]
  exact wpAny_truthy_bool ⟨H, .refl i r, h⟩
theorem tr_none (h : Q false H) : TrW W A .none H Q := by
  intro s v hv i r
  rw [norm_none hv]
  exact truthy_none ⟨H, .refl i r, h⟩

/-- a test behind a step -/
theorem ts_then {F : Frm} {e : Expr} {H₁ : AHeap} {s₁ : Shared} (x : Step W H s H₁ s₁) (f : FRel W F ρ H s) (h : TsW W A F e ρ H₁ Q) :
    wpAny (model W.prog W.w) A (isTrue e F.env (eval e F.env)) (fun b s' => ∃ H', Step W H s H' s' ∧ Q b H') (fun _ _ => False) s₁ :=
  wpAny_mono (h s₁ x.inv x.rel (f.step x)) (fun _ _ ⟨H', st, q⟩ => ⟨H', x.trans st, q⟩) fun _ _ x => x
theorem tr_then {v : Value} {H₁ : AHeap} {s₁ : Shared} (x : Step W H s H₁ s₁) (h : TrW W A (norm v) H₁ Q) :
    wpAny (model W.prog W.w) A (truthy v) (fun b s' => ∃ H', Step W H s H' s' ∧ Q b H') (fun _ _ => False) s₁ :=
  wpAny_mono (h s₁ v rfl x.inv x.rel) (fun _ _ ⟨H', st, q⟩ => ⟨H', x.trans st, q⟩) fun _ _ x => x

theorem ts_plain {e : Expr} (he : isTrue e F.env (eval e F.env) = (do let v ← eval e F.env; standAt e.pos; holding [v] (truthy v))) (h : EvW W A F e ρ H fun v H₁ => TrW W A v H₁ Q) : TsW W A F e ρ H Q :=
  fun s i r f => isTrue_plain (wpAny_mono (h s i r f) (fun v s₁ ⟨H₁, x₁, h₁⟩ => tr_then x₁ h₁) fun _ _ x => x) he
theorem ts_not {e : Expr} {pos : Pos} (h : TsW W A F e ρ H fun b => Q (!b)) : TsW W A F (.UnaryOp .Not e pos) ρ H Q :=
  fun s i r f => isTrue_not (wpAny_mono (h s i r f) (fun b s₁ ⟨H₁, x₁, h₁⟩ => ⟨H₁, x₁, h₁⟩) fun _ _ x => x)
theorem ts_compare {l r : Expr} {op : CmpOp} {pos : Pos} (hm : behindInMarks op r = false) (h : EvW W A F l ρ H fun a H₁ => EvW W A F r ρ H₁ fun b H₂ => BopW W A (compareOp op) a b H₂ fun c H₃ => TrW W A c H₃ Q) : TsW W A F (.Compare l [op] [r] pos) ρ H Q :=
  fun s i rl f => wpAny_isTrue_Compare1 (wpAny_mono (h s i rl f) (fun va s₁ ⟨H₁, x₁, h₁⟩ => wpAny_mono (h₁ s₁ x₁.inv x₁.rel (f.step x₁)) (fun vb s₂ ⟨H₂, x₂, h₂⟩ =>
    wpAny_mono (h₂ s₂ va vb rfl rfl x₂.inv x₂.rel) (fun c s₃ ⟨H₃, x₃, h₃⟩ => tr_then ((x₁.trans x₂).trans x₃) h₃) fun _ _ x => x) fun _ _ x => x) fun _ _ x => x) hm

/-- all of, one of -/
def AllW (W : Wd) (A : Around) (F : Frm) (op : BoolOp) (es : List Expr) (ρ : Loc) (H : AHeap) (Q : Bool → AHeap → Prop) : Prop :=
  ∀ s, Inv W s → HRel W H s → FRel W F ρ H s → wpAny (model W.prog W.w) A (allTrue op es F.env) (fun b s' => ∃ H', Step W H s H' s' ∧ Q b H') (fun _ _ => False) s
theorem all_then {op : BoolOp} {es : List Expr} {H₁ : AHeap} {s₁ : Shared} (x : Step W H s H₁ s₁) (f : FRel W F ρ H s) (h : AllW W A F op es ρ H₁ Q) :
    wpAny (model W.prog W.w) A (allTrue op es F.env) (fun b s' => ∃ H', Step W H s H' s' ∧ Q b H') (fun _ _ => False) s₁ :=
  wpAny_mono (h s₁ x.inv x.rel (f.step x)) (fun _ _ ⟨H', st, q⟩ => ⟨H', x.trans st, q⟩) fun _ _ x => x
theorem all_and_nil (h : Q true H) : AllW W A F .And [] ρ H Q := fun s i r f => wpAny_allTrue_And_nil ⟨H, .refl i r, h⟩
theorem all_or_nil (h : Q false H) : AllW W A F .Or [] ρ H Q := fun s i r f => wpAny_allTrue_Or_nil ⟨H, .refl i r, h⟩
theorem all_and {e : Expr} {es : List Expr} (h : TsW W A F e ρ H fun b H₁ => if b then AllW W A F .And es ρ H₁ Q else Q false H₁) : AllW W A F .And (e :: es) ρ H Q :=
  fun s i r f => wpAny_allTrue_And_cons (wpAny_mono (h s i r f) (fun b s₁ ⟨H₁, x₁, h₁⟩ => by
    cases b
    · exact ⟨H₁, x₁, h₁⟩
    · exact all_then x₁ f h₁) fun _ _ x => x)
theorem all_or {e : Expr} {es : List Expr} (h : TsW W A F e ρ H fun b H₁ => if b then Q true H₁ else AllW W A F .Or es ρ H₁ Q) : AllW W A F .Or (e :: es) ρ H Q :=
  fun s i r f => wpAny_allTrue_Or_cons (wpAny_mono (h s i r f) (fun b s₁ ⟨H₁, x₁, h₁⟩ => by
    cases b
    · exact all_then x₁ f h₁
    · exact ⟨H₁, x₁, h₁⟩) fun _ _ x => x)
theorem ts_bool {op : BoolOp} {es : List Expr} {pos : Pos} (h : AllW W A F op es ρ H Q) : TsW W A F (.BoolOp op es pos) ρ H Q :=
  fun s i r f => wpAny_isTrue_BoolOp (h s i r f)
end

section
variable {W : Wd} {A : Around} {F : Frm} {ρ : Loc} {H : AHeap} {s : Shared} {Q : Value → AHeap → Prop}
theorem ev_ifexp {test body orelse : Expr} {pos : Pos} (h : TsW W A F test ρ H fun b H₁ => if b then EvW W A F body ρ H₁ Q else EvW W A F orelse ρ H₁ Q) : EvW W A F (.IfExp test body orelse pos) ρ H Q :=
  fun s i r f => wpAny_IfExp (wpAny_mono (h s i r f) (fun b s₁ ⟨H₁, x₁, h₁⟩ => by
    cases b
    · exact tw_then x₁ (h₁ s₁ x₁.inv x₁.rel (f.step x₁))
    · exact tw_then x₁ (h₁ s₁ x₁.inv x₁.rel (f.step x₁))) fun _ _ x => x)
theorem ev_and {x y : Expr} {pos : Pos} (h : EvW W A F x ρ H fun v H₁ => TrW W A v H₁ fun b H₂ => if b then EvW W A F y ρ H₂ Q else Q v H₂) : EvW W A F (.BoolOp .And [x, y] pos) ρ H Q :=
  fun s i r f => wpAny_And2 (wpAny_mono (h s i r f) (fun v s₁ ⟨H₁, x₁, h₁⟩ => wpAny_mono (h₁ s₁ v rfl x₁.inv x₁.rel) (fun b s₂ ⟨H₂, x₂, h₂⟩ => by
    cases b
    · exact ⟨H₂, x₁.trans x₂, h₂⟩
    · exact tw_then (x₁.trans x₂) (h₂ s₂ x₂.inv x₂.rel (f.step (x₁.trans x₂)))) fun _ _ x => x) fun _ _ x => x)
theorem ev_or {x y : Expr} {pos : Pos} (h : EvW W A F x ρ H fun v H₁ => TrW W A v H₁ fun b H₂ => if b then Q v H₂ else EvW W A F y ρ H₂ Q) : EvW W A F (.BoolOp .Or [x, y] pos) ρ H Q :=
  fun s i r f => wpAny_Or2 (wpAny_mono (h s i r f) (fun v s₁ ⟨H₁, x₁, h₁⟩ => wpAny_mono (h₁ s₁ v rfl x₁.inv x₁.rel) (fun b s₂ ⟨H₂, x₂, h₂⟩ => by
    cases b
    · exact tw_then (x₁.trans x₂) (h₂ s₂ x₂.inv x₂.rel (f.step (x₁.trans x₂)))
    · exact ⟨H₂, x₁.trans x₂, h₂⟩) fun _ _ x => x) fun _ _ x => x)
end

/-- a step inside a frame -/
theorem StepX.toL {W : Wd} {F : Frm} {H H' : AHeap} {s s' : Shared} (x : Step W H s H' s') : StepL W F H s H' s' := x.toX

def normF : Flow → Flow
  | .ret v => .ret (norm v)
  | f => f

section
variable (W : Wd) (A : Around)
def PostF (F : Frm) (H : AHeap) (s : Shared) (Q : Flow → Loc → AHeap → Prop) (f : Flow) (s' : Shared) : Prop :=
  ∃ ρ' H', StepL W F H s H' s' ∧ FRel W F ρ' H' s' ∧ Q (normF f) ρ' H'
def ExW (F : Frm) (st : Stmt) (ρ : Loc) (H : AHeap) (Q : Flow → Loc → AHeap → Prop) : Prop :=
  ∀ s, Inv W s → HRel W H s → FRel W F ρ H s → wpAny (model W.prog W.w) A (exec st F.env) (PostF W F H s Q) (fun _ _ => False) s
def ExsW (F : Frm) (l : List Stmt) (ρ : Loc) (H : AHeap) (Q : Flow → Loc → AHeap → Prop) : Prop :=
  ∀ s, Inv W s → HRel W H s → FRel W F ρ H s → wpAny (model W.prog W.w) A (execs l F.env) (PostF W F H s Q) (fun _ _ => False) s
/-- a name is stored -/
def StW (F : Frm) (x : Str) (v : Value) (ρ : Loc) (H : AHeap) (Q : Loc → AHeap → Prop) : Prop :=
  ∀ s va, norm va = v → Inv W s → HRel W H s → FRel W F ρ H s →
    wpAny (model W.prog W.w) A (storeName F.env x va) (fun _ s' => ∃ ρ' H', StepL W F H s H' s' ∧ FRel W F ρ' H' s' ∧ Q ρ' H') (fun _ _ => False) s
end

section
variable {W : Wd} {A : Around} {F : Frm} {ρ : Loc} {H : AHeap} {s : Shared} {Q : Flow → Loc → AHeap → Prop}

theorem PostF.then {H₁ : AHeap} {s₁ s₂ : Shared} {f : Flow} (x : StepL W F H s H₁ s₁) (p : PostF W F H₁ s₁ Q f s₂) : PostF W F H s Q f s₂ :=
  let ⟨ρ', H', y, fr, q⟩ := p
  ⟨ρ', H', x.trans y, fr, q⟩

theorem exs_nil (h : Q .next ρ H) : ExsW W A F [] ρ H Q := fun s i r f => wpAny_execs_nil ⟨ρ, H, (Step.refl i r).toL, f, h⟩
theorem exs_cons {st : Stmt} {l : List Stmt} (h : ExW W A F st ρ H fun f ρ₁ H₁ => match f with | .next => ExsW W A F l ρ₁ H₁ Q | f => Q f ρ₁ H₁) : ExsW W A F (st :: l) ρ H Q :=
  fun s i r f => wpAny_execs_cons (wpAny_mono (h s i r f) (fun fl s₁ ⟨ρ₁, H₁, x, fr, q⟩ => by
    cases fl with
    | next => exact wpAny_mono (q s₁ x.inv x.rel fr) (fun _ _ p => p.then x) fun _ _ x => x
    | brk => exact ⟨ρ₁, H₁, x, fr, q⟩
    | cont => exact ⟨ρ₁, H₁, x, fr, q⟩
    | ret v => exact ⟨ρ₁, H₁, x, fr, q⟩) fun _ _ x => x)

theorem Inv.lt_stat (T : TopOk W) : cStatics < W.h₁.objs.size := by
  obtain ⟨mc, h, _⟩ := T.nolimit
  exact h.lt
/-- one object is turned, which is hidden or a thing of one's own -/
theorem step_same {X : Addr → Prop} {a : Addr} {h' : Heap} {k : Nat} (T : TopOk W) (i : Inv W s) (r : HRel W H s) (ha : W.h₁.objs.size ≤ a) (hH : H a = none) (hX : X a) (hs : Heap.SameBut a s.heap h') : StepX W X H s H { s with heap := h', toks := k } := by
  have hlt := Inv.lt_stat T
  refine ⟨⟨i.old.step_same ha hs, fun o ho => (hs.2 _ (Nat.ne_of_lt (Nat.lt_of_lt_of_le hlt ha))).trans (i.stat o ho), i.os, i.bare, by show W.h₁.objs.size ≤ h'.objs.size; rw [hs.1]; exact i.size, i.tabs.keep fun b o hb e => (hs.2 b (Nat.ne_of_lt (Nat.lt_of_lt_of_le hb ha))).trans e⟩, fun b x hx => ?_, fun b o hb _ _ hne => (hs.2 b (fun e => hne (e ▸ hX))).trans hb, .refl, by show s.heap.objs.size ≤ h'.objs.size; rw [hs.1]; exact Nat.le_refl _, fun _ _ h _ => h, Nat.le_refl _⟩
  have hne : b ≠ a := by rintro rfl; rw [hH] at hx; cases hx
  exact (r b x hx).keeps (fun o ho _ => (hs.2 b hne).trans ho) rfl
theorem st_local {x : Str} {v : Value} {Q : Loc → AHeap → Prop} (T : TopOk W) (hk : F.scope.names.lookup x = some .local) (h : Q (ρ.put x v) H) : StW W A F x v ρ H Q := by
  intro s va hv i r f
  obtain ⟨m, hm, hρ⟩ := f.ns
  refine wpAny_storeName_local hk hm (fun h' hn hs => ?_) (by show (F.scope.kind == .class || (F.scope.kind == .module && F.L != F.env.globals)) = false; rw [f.kind]; rfl)
  refine ⟨ρ.put x v, H, step_same (X := F.own) (k := s.toks + 1) T i r f.above f.apart (.inl rfl) hs, ⟨f.above, ⟨_, hn, fun y hy => ?_⟩, f.apart, f.kind, f.glob, f.bi, fun y c hc => ?_, f.cinj, f.cdis⟩, h⟩
  · show Option.map norm (if y = x then some va else m y) = if y = x then some v else ρ y
    split
    · rw [Option.map_some, hv]
    · exact hρ y hy
  · obtain ⟨⟨u, h1, h2, h3⟩, h4, h5⟩ := f.cells y c hc
    refine ⟨⟨u, h1.sameBut hs h5, ?_, h3⟩, h4, h5⟩
    have : y ≠ x := by rintro rfl; exact f.cdis y c hc hk
    show _ = if y = x then some v else ρ y
    rw [if_neg this]; exact h2
end
end Mine
end

section
open PySem PySem.W PyProof.Rows
set_option maxRecDepth 100000
set_option Elab.async false
set_option linter.unusedVariables false
namespace Mine
section
variable {W : Wd} {A : Around} {F : Frm} {ρ : Loc} {H : AHeap} {s : Shared} {Q : Flow → Loc → AHeap → Prop}

theorem st_then {x : Str} {v : Value} {va : Value} {H₁ : AHeap} {s₁ : Shared} (st : Step W H s H₁ s₁) (f : FRel W F ρ H s) (hv : norm va = v) (h : StW W A F x v ρ H₁ fun ρ' H' => Q .next ρ' H') :
    wpAny (model W.prog W.w) A (storeName F.env x va) (fun _ s' => PostF W F H s Q .next s') (fun _ _ => False) s₁ :=
  wpAny_mono (h s₁ va hv st.inv st.rel (f.step st)) (fun _ _ ⟨ρ', H', y, fr, q⟩ => ⟨ρ', H', st.toL.trans y, fr, q⟩) fun _ _ x => x

theorem ex_assign {x : Str} {p' pos : Pos} {value : Expr} (hs : swapsWith value (some (.Name x p')) pos.line F.env = pure false)
    (h : EvW W A F value ρ H fun v H₁ => StW W A F x v ρ H₁ fun ρ' H' => Q .next ρ' H') : ExW W A F (.Assign [.Name x p'] value pos) ρ H Q :=
  fun s i r f => wpAny_Assign_Name (wpAny_mono (h s i r f) (fun va s₁ ⟨H₁, x₁, h₁⟩ => st_then x₁ f rfl h₁) fun _ _ x => x) hs
theorem ex_aug {x : Str} {p' pos : Pos} {op : PySem.Operator} {value : Expr} {v₀ : Value} (hk : F.scope.names.lookup x = some .local) (hv : ρ x = some v₀)
    (h : EvW W A F value ρ H fun v H₁ => BopW W A (inplaceOp op) v₀ v H₁ fun u H₂ => StW W A F x u ρ H₂ fun ρ' H' => Q .next ρ' H') : ExW W A F (.AugAssign (.Name x p') op value pos) ρ H Q := by
  intro s i r f
  obtain ⟨m, hm, hρ⟩ := f.ns
  have e := hρ x hk
  rw [hv] at e
  obtain ⟨v', h1, h2⟩ := Option.map_eq_some_iff.mp e
  exact wpAny_AugAssign_Name (wpAny_loadName_local f.kind hk hm h1 (wpAny_mono (h s i r f) (fun va s₁ ⟨H₁, x₁, h₁⟩ =>
    wpAny_mono (h₁ s₁ v' va h2 rfl x₁.inv x₁.rel) (fun vu s₂ ⟨H₂, x₂, h₃⟩ => st_then (x₁.trans x₂) f rfl h₃) fun _ _ x => x) fun _ _ x => x))
theorem ex_return {e : Expr} {pos : Pos} (h : EvW W A F e ρ H fun v H₁ => Q (.ret v) ρ H₁) : ExW W A F (.Return (some e) pos) ρ H Q :=
  fun s i r f => wpAny_Return_some (wpAny_mono (h s i r f) (fun v s₁ ⟨H₁, x₁, h₁⟩ => ⟨ρ, H₁, x₁.toL, f.step x₁, h₁⟩) fun _ _ x => x)
theorem ex_return_none {pos : Pos} (h : Q (.ret .none) ρ H) : ExW W A F (.Return none pos) ρ H Q :=
  fun s i r f => wpAny_Return_none ⟨ρ, H, (Step.refl i r).toL, f, h⟩
theorem ex_pass {pos : Pos} (h : Q .next ρ H) : ExW W A F (.Pass pos) ρ H Q := fun s i r f => wpAny_Pass ⟨ρ, H, (Step.refl i r).toL, f, h⟩
theorem ex_break {pos : Pos} (h : Q .brk ρ H) : ExW W A F (.Break pos) ρ H Q := fun s i r f => wpAny_Break ⟨ρ, H, (Step.refl i r).toL, f, h⟩
theorem ex_continue {pos : Pos} (h : Q .cont ρ H) : ExW W A F (.Continue pos) ρ H Q := fun s i r f => wpAny_Continue ⟨ρ, H, (Step.refl i r).toL, f, h⟩
theorem ex_if {test : Expr} {body orelse : List Stmt} {pos : Pos} (h : TsW W A F test ρ H fun b H₁ => if b then ExsW W A F body ρ H₁ Q else ExsW W A F orelse ρ H₁ Q) : ExW W A F (.If test body orelse pos) ρ H Q :=
  fun s i r f => wpAny_If (wpAny_mono (h s i r f) (fun b s₁ ⟨H₁, x₁, h₁⟩ => by
    cases b
    · exact wpAny_mono (h₁ s₁ x₁.inv x₁.rel (f.step x₁)) (fun _ _ p => p.then x₁.toL) fun _ _ x => x
    · exact wpAny_mono (h₁ s₁ x₁.inv x₁.rel (f.step x₁)) (fun _ _ p => p.then x₁.toL) fun _ _ x => x) fun _ _ x => x)
end
end Mine
end

section
open PySem PySem.W PyProof.Rows
set_option maxRecDepth 100000
set_option Elab.async false
set_option linter.unusedVariables false
namespace Mine
def plainE : Expr → Bool
  | .Starred .. => false
  | _ => true
theorem star_plain (pos : Pos) (env : Env) : ∀ {es : List Expr}, es.all plainE = true → backTo pos (starEach es env) = es.map fun e => (false, eval e env)
  | [], _ => rfl
  | e :: es, h => by
    simp only [List.all_cons, Bool.and_eq_true] at h
    have ih := star_plain pos env h.2
    have he : starEach (e :: es) env = (false, eval e env) :: starEach es env := by
      cases e <;> first | rfl | (exfalso; exact Bool.noConfusion (h.1 : false = true))
    rw [he, List.map_cons, ← ih]
    rfl

section
variable (W : Wd) (A : Around)
/-- values one behind the other -/
def ArgsW (F : Frm) (es : List Expr) (ρ : Loc) (H : AHeap) (Q : List Value → AHeap → Prop) : Prop :=
  ∀ s, Inv W s → HRel W H s → FRel W F ρ H s → wpAny (model W.prog W.w) A (spliced (es.map fun e => (false, eval e F.env))) (fun vs s' => ∃ H', Step W H s H' s' ∧ Q (vs.map norm) H') (fun _ _ => False) s
/-- a call on values -/
def CallW (f : Value) (args : List Value) (H : AHeap) (Q : Value → AHeap → Prop) : Prop :=
  ∀ s vs, vs.map norm = args → Inv W s → HRel W H s → TW W A (PySem.call f vs) H s Q
def Callee (f : Value) : Prop := (∃ id, f = .builtin id) ∨ (∃ T, f = .type T) ∨ ∃ a o fd, f = .ref a ∧ W.h₁.get? a = some o ∧ o.cls ≠ .none ∧ o.data = .func fd
end

section
variable {W : Wd} {A : Around} {F : Frm} {ρ : Loc} {H : AHeap} {s : Shared} {Q : Value → AHeap → Prop}
theorem args_nil {Q : List Value → AHeap → Prop} (h : Q [] H) : ArgsW W A F [] ρ H Q := fun s i r f => Calls.spliced_nil ⟨H, .refl i r, h⟩
theorem args_cons {e : Expr} {es : List Expr} {Q : List Value → AHeap → Prop} (h : EvW W A F e ρ H fun v H₁ => ArgsW W A F es ρ H₁ fun vs H₂ => Q (v :: vs) H₂) : ArgsW W A F (e :: es) ρ H Q :=
  fun s i r f => Calls.spliced_cons (wpAny_mono (h s i r f) (fun v s₁ ⟨H₁, x₁, h₁⟩ => wpAny_mono (h₁ s₁ x₁.inv x₁.rel (f.step x₁)) (fun vs s₂ ⟨H₂, x₂, h₂⟩ => ⟨H₂, x₁.trans x₂, h₂⟩) fun _ _ x => x) fun _ _ x => x)
theorem any_false (es : List Expr) (env : Env) : (es.map fun e => (false, eval e env)).any (·.1) = false := by
  induction es with
  | nil => rfl
  | cons e es ih => simpa using ih
theorem args_ev {f : Value} {es : List Expr} {Q : List Value → AHeap → Prop} {P : Args → Shared → Prop} (h : ArgsW W A F es ρ H Q) (i : Inv W s) (r : HRel W H s) (fr : FRel W F ρ H s)
    (k : ∀ vs s' H', Step W H s H' s' → Q (vs.map norm) H' → P ⟨vs, []⟩ s') : wpAny (model W.prog W.w) A (evalArgs f true (es.map fun e => (false, eval e F.env)) []) P (fun _ _ => False) s := by
  have z := wpAny_mono (h s i r fr) (fun vs s' ⟨H', x, q⟩ => k vs s' H' x q) fun _ _ x => x
  cases es with
  | nil =>
    unfold evalArgs
    show wpAny _ _ (spliced [] >>= _) _ _ _
    refine wpAny_bind (wpAny_mono z (fun vs s' h' => wpAny_bind (wpAny_pure ?_)) fun _ _ x => x)
    refine wpAny_holding ?_
    exact wpAny_bind (wpAny_pure (wpAny_bind (wpAny_pure (wpAny_pure h'))))
  | cons e es => exact Calls.evalArgs_plain z
theorem call_with {fv : Value} {es : List Expr} {pos : Pos} (hc : Callee W fv) (i : Inv W s) (r : HRel W H s) (fr : FRel W F ρ H s) (h : ArgsW W A F es ρ H fun vs H₂ => CallW W A fv vs H₂ Q) :
    TW W A (callWith pos fv [] (es.map fun e => (false, eval e F.env)) []) H s Q := by
  rcases hc with ⟨id, rfl⟩ | ⟨T, rfl⟩ | ⟨a, o, fd, rfl, ho, hcls, hd⟩
  · exact Calls.callWith_builtin (any_false _ _) (args_ev h i r fr fun vs s' H' x q => tw_then x (q s' vs rfl x.inv x.rel))
  · exact PyProof.Rows.callWith_type (any_false _ _) (args_ev h i r fr fun vs s' H' x q => tw_then x (q s' vs rfl x.inv x.rel))
  · exact Calls.callWith_function (o := o) (fd := fd) (args_ev h i r fr fun vs s' H' x q => ⟨⟨x.inv.old.get_of_cls ho hcls, hd⟩, tw_then x (q s' vs rfl x.inv x.rel)⟩)
theorem ev_call {f : Str} {es : List Expr} {p pos : Pos} (hp : es.all plainE = true) (h : EvW W A F (.Name f p) ρ H fun fv H₁ => Callee W fv ∧ ArgsW W A F es ρ H₁ fun vs H₂ => CallW W A fv vs H₂ Q) :
    EvW W A F (.Call (.Name f p) es [] pos) ρ H Q := by
  intro s i r fr
  refine wpAny_Call_NameR (wpAny_mono (h s i r fr) (fun fv s₁ ⟨H₁, x₁, hc, h₁⟩ => ?_) fun _ _ x => x)
  rw [star_plain pos F.env hp]
  have hn : norm fv = fv := by
    rcases hc with ⟨id, e⟩ | ⟨T, e⟩ | ⟨a, o, fd, e, _⟩
    · rw [norm_builtin e]; rfl
    · rw [norm_type e]; rfl
    · rw [norm_ref e]; rfl
  rw [hn] at hc h₁
  exact tw_then x₁ (call_with hc x₁.inv x₁.rel (fr.step x₁) h₁)

/-- what the top holds of one of its defs -/
structure FnAt (W : Wd) (a : Addr) (q : Str) (params : Arguments) (body : List Stmt) (scope : Scope) (cd dflt : Value) : Prop where
  at_ : ∃ o fd, W.h₁.get? a = some o ∧ o.cls ≠ .none ∧ o.data = .func fd ∧ fd.qualname = q ∧ fd.params = params ∧ fd.body = .stmts body ∧ fd.scope = scope ∧ fd.globals = mainGlobals ∧ fd.closure = [] ∧
    fd.defaults = dflt ∧ fd.kwdefaults = .none ∧ fd.code = cd ∧ fd.builtins = builtinsNs
  code : W.h₁.CodeRec cd q
  codeCls : ∀ c o, cd = .ref c → W.h₁.get? c = some o → o.cls ≠ .none
  kind : scope.kind = .function
  cells : ∀ x ∈ scope.names, x.2 ≠ .cell

theorem FnAt.callee {a : Addr} {q : Str} {params : Arguments} {body : List Stmt} {scope : Scope} {cd dflt : Value} (f : FnAt W a q params body scope cd dflt) : Callee W (.ref a) := by
  obtain ⟨o, fd, h1, h2, h3, _⟩ := f.at_
  exact .inr (.inr ⟨a, o, fd, rfl, h1, h2, h3⟩)
theorem FnAt.codeAt {a : Addr} {q : Str} {params : Arguments} {body : List Stmt} {scope : Scope} {cd dflt : Value} (f : FnAt W a q params body scope cd dflt) (i : Inv W s) : s.heap.CodeRec cd q := by
  obtain ⟨c, o, vs, t, e, g, r⟩ := f.code
  exact ⟨c, o, vs, t, e, i.old.get_of_cls g (f.codeCls c o e g), r⟩

def locOf (binds : List (Str × Value)) : Loc := fun x => binds.reverse.lookup x

theorem norm_lookup (x : Str) : ∀ l : List (Str × Value), (l.lookup x).map norm = (l.map fun y => (y.1, norm y.2)).lookup x
  | [] => rfl
  | (y, v) :: l => by
    simp only [List.lookup_cons, List.map_cons]
    cases h : x == y
    · exact norm_lookup x l
    · rfl

/-- new hidden objects -/
theorem step_ext {h' : Heap} {k : Nat} (i : Inv W s) (r : HRel W H s) (hk : ∀ b o, s.heap.get? b = some o → h'.get? b = some o) (hz : s.heap.objs.size ≤ h'.objs.size) : Step W H s H { s with heap := h', toks := k } :=
  ⟨⟨i.old.step_keeps hk, fun o ho => hk _ _ (i.stat o ho), i.os, i.bare, Nat.le_trans i.size hz, i.tabs.keep fun b o _ e => hk b o e⟩, fun a x hx => (r a x hx).keeps (fun o ho _ => hk _ _ ho) rfl, fun b o hb _ _ _ => hk _ _ hb, .refl, hz, fun _ _ h _ => h, Nat.le_refl _⟩
theorem fn_call {a : Addr} {q : Str} {params : Arguments} {body : List Stmt} {scope : Scope} {cd dflt : Value} {args : List Value} {nb : List (Str × Value)} (T : TopOk W) (f : FnAt W a q params body scope cd dflt)
    (hco : scope.isCoroutine = false) (hgen : scope.isGenerator = false) (hroom : A.depth < recursionLimit)
    (hb : ∀ (s : Shared) (vs : List Value) (fd : FuncData), Inv W s → vs.map norm = args → fd.params = params → fd.defaults = dflt → fd.kwdefaults = .none →
      ∃ bs, BindsTo s fd ⟨vs, []⟩ bs ∧ bs.map (fun x => (x.1, norm x.2)) = nb ∧ ∀ x ∈ bs, scope.names.lookup x.1 = some .local)
    (h : ∀ L, ExsW W (A.deeper (envOf q scope L a cd)) ⟨envOf q scope L a cd⟩ body (locOf nb) H fun fl _ H' => Q (match fl with | .ret v => v | _ => .none) H') : CallW W A (.ref a) args H Q := by
  intro s vs hvs i r
  obtain ⟨o, fd, h1, h2, h3, e1, e2, e3, e4, e5, e6, e7, e8, e9, e10⟩ := f.at_
  obtain ⟨bs, hbs, hn, hl⟩ := hb s vs fd i hvs e2 e7 e8
  refine wpAny_call (codeAny_call_function hroom (i.old.get_of_cls h1 h2) h3 (e4 ▸ hco) (e4 ▸ hgen) e3 (by rw [e9, e1]; exact f.codeAt i) (hbs _ _ _ _ ?_))
  rw [e4, e5, e6, e9, e10, e1]
  refine wpAny_newFunctionEnv f.cells hl (fun h' hns hsb => ?_) f.kind
  have hfresh : s.heap.get? s.heap.objs.size = none := Heap.get?_none_of_le (Nat.le_refl _)
  have hup : ∀ b o, s.heap.get? b = some o → h'.get? b = some o := fun b o e => (hsb.2 b (Nat.ne_of_lt (Heap.lt_size e))).trans (Heap.get?_push_of_some _ e)
  have hgrow : s.heap.objs.size ≤ h'.objs.size := by rw [hsb.1, Heap.size_push]; omega
  have st := step_ext (k := s.toks + bs.length) i r hup hgrow
  have hH : H s.heap.objs.size = none := r.none_of hfresh
  refine ⟨st.inv.nolimit T, ?_⟩
  have fr : FRel W ⟨envOf q scope s.heap.objs.size a cd⟩ (locOf nb) H { s with heap := h', toks := s.toks + bs.length } := by
    refine ⟨i.size, ⟨_, hns, fun x _ => ?_⟩, hH, f.kind, rfl, rfl, fun x c hc => (by cases hc), fun x y c hc => (by cases hc), fun x c hc => (by cases hc)⟩
    show Option.map norm (List.lookup x bs.reverse) = nb.reverse.lookup x
    rw [norm_lookup, ← hn, List.map_reverse]
  refine codeAny_func (wpAny_mono (h s.heap.objs.size _ st.inv st.rel fr) (fun fl s' ⟨ρ', H', x, fr', q'⟩ => ?_) fun _ _ x => x.elim)
  refine ⟨H', (st.toX.trans x).fresh fun b hb => ?_, ?_⟩
  · rcases hb with e | ⟨x, e, _⟩
    · right; rw [e]; exact Nat.le_refl _
    · cases e
  · cases fl <;> exact q'
end
end Mine
end

section
open PySem PySem.W PyProof.Rows
set_option maxRecDepth 100000
set_option Elab.async false
set_option linter.unusedVariables false
namespace Mine

/-- one hidden object at I is turned, new ones may be made -/
structure Touch (I : Addr) (s s' : Shared) : Prop where
  keep : ∀ b o, s.heap.get? b = some o → b ≠ I → s'.heap.get? b = some o
  gens : s'.gens = s.gens
  os : s'.os = s.os
  size : s.heap.objs.size ≤ s'.heap.objs.size
theorem Touch.stepX {W : Wd} {I : Addr} {X : Addr → Prop} {H : AHeap} {s s' : Shared} (t : Touch I s s') (T : TopOk W) (i : Inv W s) (r : HRel W H s) (hI : W.h₁.objs.size ≤ I) (hH : H I = none) (hX : X I) : StepX W X H s H s' := by
  have hlt := Inv.lt_stat T
  have ho : OldK W.h₁ s'.heap := by
    have ne : ∀ b o, W.h₁.get? b = some o → b ≠ I := fun b o e => Nat.ne_of_lt (Nat.lt_of_lt_of_le (Heap.lt_size e) hI)
    refine ⟨fun b o e => ?_, fun b o e => let ⟨o', ho'⟩ := i.old.there b o e; ⟨o', t.keep b o' ho' (ne b o e)⟩⟩
    rcases i.old.old b o e with x | ⟨tt, hc, vs, more, hv, x⟩ | ⟨rfl, hc, ⟨o', es, n, ho', q⟩, z⟩
    · exact .inl (t.keep _ _ x (ne b o e))
    · exact .inr (.inl ⟨tt, hc, vs, more, hv, t.keep _ _ x (ne b o e)⟩)
    · exact .inr (.inr ⟨rfl, hc, ⟨o', es, n, t.keep _ _ ho' (ne _ o e), q⟩, fun key => by rw [OldK.staticOf_congr ((t.keep _ _ ho' (ne _ o e)).trans ho'.symm) key]; exact z key⟩)
  refine ⟨⟨ho, fun o h => t.keep _ _ (i.stat o h) (Nat.ne_of_lt (Nat.lt_of_lt_of_le hlt hI)), t.os.trans i.os, by rw [t.gens]; exact i.bare, Nat.le_trans i.size t.size, i.tabs.keep fun b o hb e => t.keep b o e (Nat.ne_of_lt (Nat.lt_of_lt_of_le hb hI))⟩, fun a x hx => ?_, fun b o hb _ _ hn => t.keep b o hb (fun e => hn (e ▸ hX)), .refl, t.size, fun g st h _ => by rw [t.gens]; exact h, by rw [t.gens]; exact Nat.le_refl _⟩
  · have hne : a ≠ I := by rintro rfl; rw [hH] at hx; cases hx
    exact (r a x hx).keeps (fun o ho _ => t.keep a o ho hne) t.gens

theorem FRel.touch {W : Wd} {F : Frm} {ρ : Loc} {H : AHeap} {I : Addr} {s s' : Shared} (f : FRel W F ρ H s) (t : Touch I s s') (hL : F.L ≠ I) (hC : ∀ x, F.env.cells.lookup x ≠ some I) : FRel W F ρ H s' := by
  obtain ⟨m, hm, hv⟩ := f.ns
  refine ⟨f.above, ⟨m, hm.at fun o ho => t.keep _ _ ho hL, hv⟩, f.apart, f.kind, f.glob, f.bi, fun x c hc => ?_, f.cinj, f.cdis⟩
  obtain ⟨⟨v, ⟨o, h0, h1⟩, h2, h3⟩, h4, h5⟩ := f.cells x c hc
  exact ⟨⟨v, ⟨o, t.keep c _ h0 (fun e => hC x (e ▸ hc)), h1⟩, h2, h3⟩, h4, h5⟩

/-- an iterator at I: St rest h says that rest is what it will give; dep what it leans on -/
structure Itr (W : Wd) (A : Around) (I : Addr) (dep : AHeap → Prop) (St : List Value → Heap → Prop) : Prop where
  above : W.h₁.objs.size ≤ I
  solid : ∀ l h, St l h → ∃ o, h.get? I = some o ∧ Solid o
  frame : ∀ l h h', St l h → (∀ o, h.get? I = some o → h'.get? I = some o) → St l h'
  next : ∀ v l H s, St (v :: l) s.heap → dep H → Inv W s → HRel W H s →
    wpAny (model W.prog W.w) A (pyNext (.ref I)) (fun r s' => ∃ x, r = some x ∧ norm x = v ∧ St l s'.heap ∧ Touch I s s') (fun _ _ => False) s
  stop : ∀ H s, St [] s.heap → dep H → Inv W s → HRel W H s → wpAny (model W.prog W.w) A (pyNext (.ref I)) (fun r s' => r = none ∧ Touch I s s') (fun _ _ => False) s
  self : ∀ l s (P : Value → Shared → Prop) (E : Value → Shared → Prop), St l s.heap → P (.ref I) s → wpAny (model W.prog W.w) A (pyIter (.ref I)) P E s

section
variable {W : Wd} {A : Around} {F : Frm} {ρ : Loc} {H : AHeap} {s : Shared}

/-- the turns of a loop over l -/
def TurnsW (W : Wd) (A : Around) (F : Frm) (dep : AHeap → Prop) (x : Str) (body : List Stmt) (Q : Flow → Loc → AHeap → Prop) : List Value → Loc → AHeap → Prop
  | [], ρ, H => dep H ∧ Q .next ρ H
  | v :: l, ρ, H => dep H ∧ StW W A F x v ρ H fun ρ₁ H₁ => ExsW W A F body ρ₁ H₁ fun f ρ₂ H₂ => match f with
    | .next => TurnsW W A F dep x body Q l ρ₂ H₂
    | .cont => TurnsW W A F dep x body Q l ρ₂ H₂
    | .brk => Q .next ρ₂ H₂
    | .ret u => Q (.ret u) ρ₂ H₂

theorem loop_turns {I : Addr} {dep : AHeap → Prop} {St : List Value → Heap → Prop} {x : Str} {px : Pos} {body : List Stmt} {Q : Flow → Loc → AHeap → Prop} (T : TopOk W) (it : Itr W A I dep St) (hL : F.L ≠ I) (hC : ∀ x, F.env.cells.lookup x ≠ some I)
    (s₀ : Shared) (H₀ : AHeap) :
    ∀ (l : List Value) (ρ : Loc) (H : AHeap) (s : Shared), TurnsW W A F dep x body Q l ρ H → St l s.heap → HRel W H s → Inv W s → FRel W F ρ H s → H I = none → StepX W (fun b => F.own b ∨ b = I) H₀ s₀ H s →
      codeAny (model W.prog W.w) A (.forLoop (.Name x px) (.ref I) body [] F.env) (fun r s' => match r with
        | .ok f => ∃ ρ' H', StepX W (fun b => F.own b ∨ b = I) H₀ s₀ H' s' ∧ FRel W F ρ' H' s' ∧ Q (normF f) ρ' H'
        | .error _ => False) s := by
  intro l ρ H s ht hst hr hi hf hI hx
  refine codeAny_forLoop_any (I := fun n s => ∃ l ρ H, l.length = n ∧ TurnsW W A F dep x body Q l ρ H ∧ St l s.heap ∧ HRel W H s ∧ Inv W s ∧ FRel W F ρ H s ∧ H I = none ∧ StepX W (fun b => F.own b ∨ b = I) H₀ s₀ H s)
    (fun n s hI => ?_) l.length ⟨l, ρ, H, rfl, ht, hst, hr, hi, hf, hI, hx⟩
  obtain ⟨l, ρ, H, rfl, ht, hst, hr, hi, hf, hI, hx⟩ := hI
  have noE : ∀ {P : Value → Shared → Prop} (e : Value) (s : Shared), False → P e s := fun _ _ h => h.elim
  cases l with
  | nil =>
    refine wpAny_mono (it.stop H s hst ht.1 hi hr) (fun r s' ⟨e, t⟩ => ?_) fun _ _ h => h.elim
    subst e
    have y := t.stepX (X := fun b => F.own b ∨ b = I) T hi hr it.above hI (.inr rfl)
    refine wpAny_execs_nil ⟨ρ, H, hx.trans y, hf.touch t hL hC, ht.2⟩
  | cons v l =>
    refine wpAny_mono (it.next v l H s hst ht.1 hi hr) (fun r s' ⟨xv, e, hv, hst', t⟩ => ?_) fun _ _ h => h.elim
    subst e
    have y := t.stepX (X := fun b => F.own b ∨ b = I) T hi hr it.above hI (.inr rfl)
    have hf' : FRel W F ρ H s' := hf.touch t hL hC
    show wpAny _ _ (pure ()) _ _ _
    refine wpAny_pure (wpAny_assign_Name (wpAny_mono (ht.2 s' xv hv y.inv y.rel hf') (fun _ s₁ ⟨ρ₁, H₁, z, fr, q⟩ => ?_) fun _ _ h => h.elim))
    have keepI : ∀ {H₁ H₂ : AHeap} {s₁ s₂ : Shared}, StepL W F H₁ s₁ H₂ s₂ → H₁ I = none → St l s₁.heap → H₂ I = none ∧ St l s₂.heap := fun {H₁ H₂ s₁ s₂} z hn hs => by
      obtain ⟨o, ho, hso⟩ := it.solid _ _ hs
      have hno : ¬ F.own I := by rintro (e | ⟨x, e, _⟩); exact hL e.symm; exact hC x e
      refine ⟨z.hid (Heap.lt_size ho) hn hno, it.frame _ _ _ hs fun o' ho' => ?_⟩
      rw [ho] at ho'; cases ho'
      exact z.keep I o ho hso hn hno
    obtain ⟨hI₁, hst₁⟩ := keepI z hI hst'
    refine wpAny_mono (q s₁ z.inv z.rel fr) (fun f s₂ ⟨ρ₂, H₂, z₂, fr₂, q₂⟩ => ?_) fun _ _ h => h.elim
    obtain ⟨hI₂, hst₂⟩ := keepI z₂ hI₁ hst₁
    have w := (hx.trans y).trans ((z.wk fun b hb => .inl hb).trans (z₂.wk fun b hb => .inl hb))
    cases f with
    | next => exact ⟨l.length, Nat.lt_succ_self _, l, ρ₂, H₂, rfl, q₂, hst₂, z₂.rel, z₂.inv, fr₂, hI₂, w⟩
    | cont => exact ⟨l.length, Nat.lt_succ_self _, l, ρ₂, H₂, rfl, q₂, hst₂, z₂.rel, z₂.inv, fr₂, hI₂, w⟩
    | brk => exact ⟨ρ₂, H₂, w, fr₂, q₂⟩
    | ret u => exact ⟨ρ₂, H₂, w, fr₂, q₂⟩
end
end Mine
end

section
open PySem PySem.W PyProof.Rows
set_option maxRecDepth 100000
set_option Elab.async false
set_option linter.unusedVariables false
namespace Mine
section
variable {W : Wd} {A : Around} {F : Frm} {ρ : Loc} {H : AHeap} {s : Shared}

/-- v can be gone through: items, leaning on dep -/
def IterW (W : Wd) (A : Around) (v : Value) (H : AHeap) (dep : AHeap → Prop) (items : List Value) : Prop :=
  ∀ s va, norm va = v → Inv W s → HRel W H s → wpAny (model W.prog W.w) A (pyIter va) (fun it s' => ∃ I St, it = .ref I ∧ Itr W A I dep St ∧ St items s'.heap ∧ s.heap.objs.size ≤ I ∧ H I = none ∧ Step W H s H s') (fun _ _ => False) s

theorem ex_for {x : Str} {px pos : Pos} {iter : Expr} {body : List Stmt} {Q : Flow → Loc → AHeap → Prop} (T : TopOk W) (hs : ∀ v, foldedSetIterable iter F.env v = pure v)
    (h : EvW W A F iter ρ H fun v H₁ => ∃ dep items, IterW W A v H₁ dep items ∧ TurnsW W A F dep x body Q items ρ H₁) : ExW W A F (.For (.Name x px) iter body [] pos) ρ H Q := by
  intro s i r f
  refine wpAny_For (wpAny_mono (h s i r f) (fun va s₁ ⟨H₁, x₁, dep, items, hit, ht⟩ => ?_) fun _ _ x => x) hs
  refine wpAny_mono (hit s₁ va rfl x₁.inv x₁.rel) (fun it s₂ ⟨I, St, e, itr, hst, hfr, hHI, x₂⟩ => ?_) fun _ _ h => h.elim
  subst e
  have f₁ := f.step x₁
  have f₂ := f₁.step x₂
  have hL : F.L ≠ I := by
    rintro e
    obtain ⟨m, hm, _⟩ := f₁.ns
    exact absurd hm.lt (by rw [e]; exact Nat.not_lt.mpr hfr)
  have hC : ∀ x, F.env.cells.lookup x ≠ some I := fun x hc => by
    obtain ⟨⟨v, h1, _⟩, _⟩ := f₁.cells x I hc
    exact absurd h1.lt (Nat.not_lt.mpr hfr)
  refine codeAny_mono (loop_turns T itr hL hC s H items ρ H₁ s₂ ht hst x₂.rel x₂.inv f₂ hHI ((x₁.trans x₂).toX)) (fun rr s' hh => ?_)
  cases rr with
  | error e => exact hh.elim
  | ok fl =>
    obtain ⟨ρ', H', y, fr, q⟩ := hh
    refine ⟨ρ', H', y.fresh (Y := F.own) fun b hX => ?_, fr, q⟩
    rcases hX with e | e
    · exact .inl e
    · rw [e]; exact .inr (Nat.le_trans x₁.grow hfr)

/-- a new hidden object -/
theorem step_push {o : Obj} (i : Inv W s) (r : HRel W H s) : Step W H s H { s with heap := s.heap.push o } :=
  step_ext (k := s.toks) i r (fun b o' e => Heap.get?_push_of_some _ e) (by rw [Heap.size_push]; omega)
/-- what is newly seen -/
theorem StepX.put {X : Addr → Prop} {H' : AHeap} {s' : Shared} {a : Addr} {x : AObj} (st : StepX W X H s H' s') (ha : s.heap.objs.size ≤ a ∨ H' a ≠ none) (hf : ∀ y, H' a = some y → y.frozen = false ∨ x = y) (hg : ∀ g c, x = .gen g c → s.gens.size ≤ g) (hx : x.At W s' a) : StepX W X H s (H'.put a x) s' := by
  refine ⟨st.inv, fun b y hy => ?_, st.keep, ?_, st.grow, st.gkeep, st.ggrow⟩
  · by_cases e : b = a
    · subst e; rw [AHeap.put_self] at hy; cases hy; exact hx
    · rw [AHeap.put_ne e] at hy; exact st.rel b y hy
  · have v : View X s.heap.objs.size s.gens.size H' (H'.put a x) := View.put (ha.imp id .inl) hf fun g c e => .inl (hg g c e)
    exact st.vw.trans v (Nat.le_refl _) (Nat.le_refl _)
/-- a new object that the text sees -/
theorem step_new {o : Obj} {x : AObj} (i : Inv W s) (r : HRel W H s) (hx : x.At W { s with heap := s.heap.push o } s.heap.objs.size) (hg : ∀ g c, x = .gen g c → s.gens.size ≤ g := by intro _ _ q; cases q) : Step W H s (H.put s.heap.objs.size x) { s with heap := s.heap.push o } :=
  (step_push (o := o) i r).put (.inl (Nat.le_refl _)) (fun y hy => by rw [r.none_of (Heap.get?_none_of_le (Nat.le_refl _))] at hy; cases hy) hg hx

theorem touch_of_same {I : Addr} {h' : Heap} {k : Nat} (hs : Heap.SameBut I s.heap h') : Touch I s { s with heap := h', toks := k } :=
  ⟨fun b o hb hn => (hs.2 b hn).trans hb, rfl, rfl, by show s.heap.objs.size ≤ h'.objs.size; rw [hs.1]; exact Nat.le_refl _⟩

theorem iter_list {l : Addr} {own : Bool} {items : List Value} (hA : A.handled = none) (hl : H l = some (.list own items)) : IterW W A (.ref l) H (fun H' => H' l = some (.list own items)) items := by
  intro s va hv i r
  rw [norm_ref hv]
  obtain ⟨vs, hli, hvs, _⟩ := r l _ hl
  refine wpAny_pyIter_list hli ⟨s.heap.objs.size, fun rest h => ∃ k, h.IsListIter s.heap.objs.size l k ∧ rest = items.drop k ∧ k ≤ items.length, rfl, ?_, ⟨0, ⟨_, Heap.get?_push_size _ rfl, rfl, rfl⟩, rfl, Nat.zero_le _⟩, Nat.le_refl _, r.none_of (Heap.get?_none_of_le (Nat.le_refl _)), step_push i r⟩
  refine ⟨i.size, fun rest h ⟨k, ⟨o, ho, hc, _⟩, _⟩ => ⟨o, ho, .inl (by rw [hc]; intro q; cases q)⟩, fun rest h h' ⟨k, ⟨o, ho, hc, hd⟩, e⟩ hk => ⟨k, ⟨o, hk o ho, hc, hd⟩, e⟩, fun v rest H' s' ⟨k, hit, e, hk⟩ hdep i' r' => ?_, fun H' s' ⟨k, hit, e, hk⟩ hdep i' r' => ?_, fun rest s' P E ⟨k, hit, _⟩ hP => wpAny_pyIter_listiter hit hP⟩
  · obtain ⟨vs', hli', hvs', _⟩ := r' l _ hdep
    have hlt : k < items.length := by
      rcases Nat.lt_or_ge k items.length with q | q
      · exact q
      · rw [List.drop_eq_nil_of_le q] at e; cases e
    have hx : ∃ xv, vs'[k]? = some xv ∧ norm xv = v := by
      have e2 : items[k]? = some v := by
        rw [List.drop_eq_getElem_cons hlt] at e
        cases e
        exact List.getElem?_eq_getElem hlt
      rw [← hvs', List.getElem?_map, Option.map_eq_some_iff] at e2
      obtain ⟨xv, h1, h2⟩ := e2
      exact ⟨xv, by rw [← Array.getElem?_toList]; exact h1, h2⟩
    obtain ⟨xv, hxv, hn⟩ := hx
    refine wpAny_pyNext_list_item hit hli' hxv (fun h' hit' hsb => ⟨xv, rfl, hn, ⟨k + 1, hit', ?_, hlt⟩, touch_of_same hsb⟩)
    rw [List.drop_eq_getElem_cons hlt] at e
    exact (List.cons.inj e).2
  · obtain ⟨vs', hli', hvs', _⟩ := r' l _ hdep
    have hge : items.length ≤ k := by
      rcases Nat.lt_or_ge k items.length with q | q
      · rw [List.drop_eq_getElem_cons q] at e; cases e
      · exact q
    have hx : vs'[k]? = none := by
      have : vs'.toList.length = items.length := by rw [← hvs', List.length_map]
      rw [Array.getElem?_eq_none_iff, ← Array.length_toList]; omega
    exact wpAny_grows (wpAny_pyNext_list_end hA hit hli' hx (fun h' hx' hz => ⟨rfl, fun b o hb hn => hx' b o hn hb, rfl, rfl, hz⟩))
end
end Mine
end

section
open PySem PySem.W PyProof.Rows
set_option maxRecDepth 100000
set_option Elab.async false
set_option linter.unusedVariables false
namespace Mine
section
variable {W : Wd} {A : Around} {F : Frm} {ρ : Loc} {H : AHeap} {s : Shared} {Q : Value → AHeap → Prop}

theorem itr_of_walks {I : Addr} {n : Nat} {P : Nat → Value → Prop} {St : Nat → Heap → Prop} {items : List Value} (hW : Walks W.prog W.w A I [I] [I] n P St) (hP : ∀ i v, i < n → P i v → items[i]? = some (norm v)) (hn : items.length = n)
    (hsol : ∀ i h, St i h → ∃ o, h.get? I = some o ∧ Solid o) (ha : W.h₁.objs.size ≤ I) : Itr W A I (fun _ => True) (fun l h => ∃ i, St i h ∧ i ≤ n ∧ l = items.drop i) := by
  refine ⟨ha, fun l h ⟨i, st, _⟩ => hsol i h st, fun l h h' ⟨i, st, r⟩ hk => ⟨i, hW.frame i h h' st fun b hb o ho => ?_, r⟩, fun v l H s ⟨i, st, hi, e⟩ _ _ _ => ?_, fun H s ⟨i, st, hi, e⟩ _ _ _ => ?_, fun l s P E ⟨i, st, _⟩ hP => hW.self i s P E st hP⟩
  · rw [List.mem_singleton.mp hb] at ho ⊢; exact hk o ho
  · have hlt : i < items.length := by
      rcases Nat.lt_or_ge i items.length with q | q
      · exact q
      · rw [List.drop_eq_nil_of_le q] at e; cases e
    rw [List.drop_eq_getElem_cons hlt] at e
    obtain ⟨e1, e2⟩ := List.cons.inj e
    refine wpAny_grows (hW.item i s _ _ (by omega) st fun x h' tk hx st' hk hz => ⟨x, rfl, ?_, ⟨i + 1, st', by omega, e2⟩, fun b o hb hne => hk b o (by simpa using hne) hb, rfl, rfl, hz⟩)
    have := hP i x (by omega) hx
    rw [List.getElem?_eq_getElem hlt] at this
    rw [← Option.some.inj this]; exact e1.symm
  · have hge : items.length ≤ i := by
      rcases Nat.lt_or_ge i items.length with q | q
      · rw [List.drop_eq_getElem_cons q] at e; cases e
      · exact q
    have : i = n := by omega
    subst this
    exact wpAny_grows (hW.done s _ _ st fun h' tk hk hz => ⟨rfl, fun b o hb hne => hk b o (by simpa using hne) hb, rfl, rfl, hz⟩)

/-- a text's signs -/
def signs (x : Str) : List Value := x.cps.toList.map fun c => .str ⟨#[c]⟩ 0
theorem iter_str {x : Str} (hA : A.handled = none) : IterW W A (.str x 0) H (fun _ => True) (signs x) := by
  intro s va hv i r
  obtain ⟨t, rfl⟩ := norm_str hv
  have hP : ∀ (i : Nat) (v : Value), i < x.cps.size → SignAt x i v → (signs x)[i]? = some (norm v) := fun i v _ ⟨c, u, h1, h2⟩ => by
    subst h2
    unfold signs
    rw [List.getElem?_map, Array.getElem?_toList, h1]; rfl
  have hl : (signs x).length = x.cps.size := by unfold signs; rw [List.length_map, Array.length_toList]
  have key : ∀ (T : String), Walks W.prog W.w A s.heap.objs.size [s.heap.objs.size] [s.heap.objs.size] x.cps.size (SignAt x) (fun i h => h.IsStrIter s.heap.objs.size T x t i) →
      ∃ I St, (Value.ref s.heap.objs.size) = .ref I ∧ Itr W A I (fun _ => True) St ∧ St (signs x) (s.heap.push { cls := .type T, data := .fields #[.str x t, .int 0 0] }) ∧ s.heap.objs.size ≤ I ∧ H I = none ∧
        Step W H s H { s with heap := s.heap.push { cls := .type T, data := .fields #[.str x t, .int 0 0] } } := fun T hW =>
    ⟨s.heap.objs.size, _, rfl, itr_of_walks hW hP hl (fun i h ⟨o, ho, hc, _⟩ => ⟨o, ho, .inl (by rw [hc]; intro q; cases q)⟩) i.size, ⟨0, ⟨_, Heap.get?_push_size _ rfl, rfl, rfl⟩, Nat.zero_le _, rfl⟩, Nat.le_refl _, r.none_of (Heap.get?_none_of_le (Nat.le_refl _)), step_push i r⟩
  cases ha : x.cps.all (· < 128)
  · exact wpAny_pyIter_wide ha (key _ (Walks.strWide hA _ x t))
  · exact wpAny_pyIter_ascii ha (key _ (Walks.strAscii hA _ x t))

def rangeObj (a b : Int) (t u v : Tok) : Obj := { cls := .type "range", data := .fields #[.int a t, .int b u, .int 1 v] }
theorem solid_range (a b : Int) (t u v : Tok) : Solid (rangeObj a b t u v) := .inl (by intro q; cases q)
/-- the ints from a up to b -/
def upTo (a b : Int) : List Value := (List.range (b - a).toNat).map fun (k : Nat) => .int (a + k) 0
theorem args1 {vs : List Value} {a : Value} (h : vs.map norm = [a]) : ∃ x, vs = [x] ∧ norm x = a := by
  obtain ⟨x, l, rfl, h1, h2⟩ := List.map_eq_cons_iff.mp h
  rw [List.map_eq_nil_iff.mp h2]; exact ⟨x, rfl, h1⟩
theorem args2 {vs : List Value} {a b : Value} (h : vs.map norm = [a, b]) : ∃ x y, vs = [x, y] ∧ norm x = a ∧ norm y = b := by
  obtain ⟨x, l, rfl, h1, h2⟩ := List.map_eq_cons_iff.mp h
  obtain ⟨y, rfl, h3⟩ := args1 h2
  exact ⟨x, y, rfl, h1, h3⟩
theorem args3 {vs : List Value} {a b c : Value} (h : vs.map norm = [a, b, c]) : ∃ x y z, vs = [x, y, z] ∧ norm x = a ∧ norm y = b ∧ norm z = c := by
  obtain ⟨x, l, rfl, h1, h2⟩ := List.map_eq_cons_iff.mp h
  obtain ⟨y, z, rfl, h3, h4⟩ := args2 h2
  exact ⟨x, y, z, rfl, h1, h3, h4⟩
theorem call_range1 {n : Int} (h : ∀ r t u v, H r = none → Q (.ref r) (H.put r (.raw (rangeObj 0 n t u v)))) : CallW W A (.type "range") [.int n 0] H Q := by
  intro s vs hvs i r
  obtain ⟨x, rfl, hx⟩ := args1 hvs
  obtain ⟨t, rfl⟩ := norm_int hx
  exact call_range_1 ⟨_, (step_new (x := .raw (rangeObj 0 n s.toks t (s.toks + 1))) i r ⟨Heap.get?_push_size _ rfl, solid_range ..⟩).toks _, h _ _ _ _ (r.none_of (Heap.get?_none_of_le (Nat.le_refl _)))⟩
theorem call_range2 {a b : Int} (h : ∀ r t u v, H r = none → Q (.ref r) (H.put r (.raw (rangeObj a b t u v)))) : CallW W A (.type "range") [.int a 0, .int b 0] H Q := by
  intro s vs hvs i r
  obtain ⟨x, y, rfl, hx, hy⟩ := args2 hvs
  obtain ⟨t, rfl⟩ := norm_int hx; obtain ⟨u, rfl⟩ := norm_int hy
  exact call_range_2 ⟨_, (step_new (x := .raw (rangeObj a b t u s.toks)) i r ⟨Heap.get?_push_size _ rfl, solid_range ..⟩).toks _, h _ _ _ _ (r.none_of (Heap.get?_none_of_le (Nat.le_refl _)))⟩
theorem iter_range {p : Addr} {a b : Int} {t u v : Tok} (hA : A.handled = none) (hp : H p = some (.raw (rangeObj a b t u v))) (h1 : -(2 ^ 62) ≤ a) (h2 : a < 2 ^ 62) (h3 : -(2 ^ 62) ≤ b) (h4 : b < 2 ^ 62) :
    IterW W A (.ref p) H (fun _ => True) (upTo a b) := by
  intro s va hv i r
  rw [norm_ref hv]
  obtain ⟨ho, _⟩ := r p _ hp
  refine wpAny_pyIter_range ho (small_one h1 h2 h3 h4) ?_
  have hsz : Builtin.Range.rangeSize a b 1 = ((b - a).toNat : Int) := by rw [rangeSize_one]; split <;> omega
  refine ⟨s.heap.objs.size, _, rfl, itr_of_walks (items := upTo a b) (Walks.range hA s.heap.objs.size a 1 (b - a).toNat) (fun k v hk ⟨t, e⟩ => ?_) (by unfold upTo; simp) (fun k h st => ⟨_, st, .inl (by intro q; cases q)⟩) i.size, ⟨0, ?_, Nat.zero_le _, rfl⟩, Nat.le_refl _, r.none_of (Heap.get?_none_of_le (Nat.le_refl _)), step_push i r⟩
  · subst e
    unfold upTo
    rw [List.getElem?_map, List.getElem?_range hk, Int.mul_one]
    rfl
  · rw [hsz]
    have e1 : a + ((0 : Nat) : Int) * 1 = a := by simp
    have e2 : (((b - a).toNat : Nat) : Int) - ((0 : Nat) : Int) = ((b - a).toNat : Int) := by simp
    rw [e1, e2]
    exact Heap.get?_push_size _ rfl
end
end Mine
end

section
open PySem PySem.W PyProof.Rows
set_option maxRecDepth 100000
set_option Elab.async false
set_option linter.unusedVariables false
namespace Mine
section
variable {W : Wd} {A : Around} {F : Frm} {ρ : Loc} {H : AHeap} {s : Shared} {Q : Value → AHeap → Prop}

theorem sizeLine_lt : (sizeLine : Int) < 2 ^ 63 := by decide
theorem call_len_s {x : Str} (hz : x.length ≤ sizeLine) (h : Q (.int x.length 0) H) : CallW W A (.builtin "len") [.str x 0] H Q := by
  intro s vs hvs i r
  obtain ⟨v, rfl, hv⟩ := args1 hvs
  obtain ⟨t, rfl⟩ := norm_str hv
  exact P.len_str (by have := sizeLine_lt; omega) ⟨H, (Step.refl i r).toks _, h⟩
theorem call_len_l {l : Addr} {own : Bool} {items : List Value} (hl : H l = some (.list own items)) (h : Q (.int items.length 0) H) : CallW W A (.builtin "len") [.ref l] H Q := by
  intro s vs hvs i r
  obtain ⟨v, rfl, hv⟩ := args1 hvs
  rw [norm_ref hv]
  obtain ⟨ws, hli, hws, hsz, _⟩ := r l _ hl
  have e : ws.size = items.length := by rw [← hws, List.length_map, Array.length_toList]
  refine Calls.call_len_list hli (by have := sizeLine_lt; omega) ⟨H, (Step.refl i r).toks _, ?_⟩
  show Q (.int ws.size 0) H
  rw [e]; exact h
theorem call_chr {i : Int} (h0 : 0 ≤ i) (h1 : i ≤ 0x10FFFF) (h : Q (.str ⟨#[i.toNat]⟩ 0) H) : CallW W A (.builtin "chr") [.int i 0] H Q := by
  intro s vs hvs iv r
  obtain ⟨v, rfl, hv⟩ := args1 hvs
  obtain ⟨t, rfl⟩ := norm_int hv
  exact P.chr_of_int (by simp; omega) ⟨H, (Step.refl iv r).toks _, h⟩
theorem call_ord {c : Nat} (h : Q (.int c 0) H) : CallW W A (.builtin "ord") [.str ⟨#[c]⟩ 0] H Q := by
  intro s vs hvs iv r
  obtain ⟨v, rfl, hv⟩ := args1 hvs
  obtain ⟨t, rfl⟩ := norm_str hv
  exact P.ord_of_char ⟨H, (Step.refl iv r).toks _, h⟩

/-- a fresh place -/
theorem fresh_none (r : HRel W H s) : H s.heap.objs.size = none := r.none_of (Heap.get?_none_of_le (Nat.le_refl _))
theorem at_new_list {s : Shared} {a : Addr} {vs : Array Value} {n : Nat} {l : List Value} (ho : s.heap.get? a = some { cls := .type "list", data := .seq vs n }) (hl : vs.toList.map norm = l) (hz : vs.size ≤ sizeLine) (ha : W.h₁.objs.size ≤ a) : (AObj.list true l).At W s a :=
  ⟨vs, ⟨_, ho, rfl, n, rfl⟩, hl, hz, fun _ => ⟨ha, n, ho⟩⟩
theorem ev_list {es : List Expr} {pos : Pos} (hp : es.all plainE = true) (hz : es.length ≤ sizeLine) (h : ArgsW W A F es ρ H fun vs H₁ => vs.length ≤ sizeLine ∧ ∀ a, H₁ a = none → Q (.ref a) (H₁.put a (.list true vs))) : EvW W A F (.List es pos) ρ H Q := by
  intro s i r f
  refine wpAny_List ?_
  rw [star_plain pos F.env hp]
  refine wpAny_mono (h s i r f) (fun vs s₁ ⟨H₁, x₁, hlen, q⟩ => ⟨by simpa using hlen, _, x₁.trans (step_new x₁.inv x₁.rel (at_new_list (Heap.get?_push_size _ rfl) (by simp) (by simpa using hlen) x₁.inv.size)), q _ (fresh_none x₁.rel)⟩) fun _ _ x => x
theorem ev_tuple {es : List Expr} {k : Nat} {pos : Pos} (hp : es.all plainE = true) (h : ArgsW W A F es ρ H fun vs H₁ => vs.length ≤ sizeLine ∧ ∀ a, H₁ a = none → Q (.ref a) (H₁.put a (.tuple vs))) : EvW W A F (.Tuple es k pos) ρ H Q := by
  intro s i r f
  refine wpAny_Tuple ?_
  rw [star_plain pos F.env hp]
  refine wpAny_mono (h s i r f) (fun vs s₁ ⟨H₁, x₁, hlen, q⟩ => ⟨by simpa using hlen, _, x₁.trans (step_new (x := .tuple (vs.map norm)) x₁.inv x₁.rel ⟨vs.toArray, 0, Heap.get?_push_size _ rfl, by simp, by simpa using hlen⟩), q _ (fresh_none x₁.rel)⟩) fun _ _ x => x

/-- an object of one's own is turned -/
theorem step_turn {a : Addr} {x : AObj} {h' : Heap} (T : TopOk W) (i : Inv W s) (r : HRel W H s) (ha : W.h₁.objs.size ≤ a) (hf : ∃ y, H a = some y ∧ y.frozen = false) (hs : Heap.SameBut a s.heap h') (k : Nat) (hx : x.At W { s with heap := h', toks := k } a) (hg : ∀ g c, x ≠ .gen g c) :
    Step W H s (H.put a x) { s with heap := h', toks := k } := by
  have hlt := Inv.lt_stat T
  obtain ⟨y, hy, hfy⟩ := hf
  refine ⟨⟨i.old.step_same ha hs, fun o ho => (hs.2 _ (Nat.ne_of_lt (Nat.lt_of_lt_of_le hlt ha))).trans (i.stat o ho), i.os, i.bare, by show W.h₁.objs.size ≤ h'.objs.size; rw [hs.1]; exact i.size, i.tabs.keep fun b o hb e => (hs.2 b (Nat.ne_of_lt (Nat.lt_of_lt_of_le hb ha))).trans e⟩, fun b z hz => ?_, fun b o hb _ hn _ => (hs.2 b (fun e => by rw [e, hy] at hn; cases hn)).trans hb, .put (.inr (.inl (by rw [hy]; intro q; cases q))) (fun z hz => .inl (by rw [hy] at hz; cases hz; exact hfy)) (fun g c e => absurd e (hg g c)), by show s.heap.objs.size ≤ h'.objs.size; rw [hs.1]; exact Nat.le_refl _, fun _ _ h _ => h, Nat.le_refl _⟩
  by_cases e : b = a
  · subst e; rw [AHeap.put_self] at hz; cases hz; exact hx
  · rw [AHeap.put_ne e] at hz; exact (r b z hz).keeps (fun o ho _ => (hs.2 b e).trans ho) rfl
theorem call_append {l : Addr} {items : List Value} {v : Value} (T : TopOk W) (hl : H l = some (.list true items)) (hz : items.length < sizeLine) (h : Q .none (H.put l (.list true (items ++ [v])))) : CallW W A (.builtin "list.append") [.ref l, v] H Q := by
  intro s vs hvs i r
  obtain ⟨x, y, rfl, hx, hy⟩ := args2 hvs
  rw [norm_ref hx]
  obtain ⟨ws, hli, hws, hsz, ow⟩ := r l _ hl
  obtain ⟨ha, n, hn⟩ := ow rfl
  have e : ws.size = items.length := by rw [← hws, List.length_map, Array.length_toList]
  refine wpAny_list_append_plain ⟨n, hn⟩ (fun h' ⟨n', hn'⟩ hs => ⟨_, step_turn T i r ha ⟨_, hl, rfl⟩ hs s.toks (at_new_list (l := items ++ [v]) hn' (by rw [Array.toList_push, List.map_append, hws, ← hy]; rfl) (by rw [Array.size_push]; omega) ha) (by intro _ _ q; cases q), h⟩) (by omega)
end
end Mine
end

section
open PySem PySem.W PyProof.Rows
set_option maxRecDepth 100000
set_option Elab.async false
set_option linter.unusedVariables false
namespace Mine
section
variable {W : Wd} {A : Around} {F : Frm} {ρ : Loc} {H : AHeap} {s : Shared} {Q : Value → AHeap → Prop}

/-- the value is of the built-in type T -/
def TypeW (W : Wd) (T : String) (a : Value) (H : AHeap) : Prop := ∀ (s : Shared) (v : Value), norm v = a → HRel W H s → s.TypeIs v T ∧ ∀ b, v = .ref b → ∃ ob, s.heap.get? b = some ob ∧ ob.dict = none
theorem typ_str {x : Str} : TypeW W "str" (.str x 0) H := by
  intro s v hv r
  obtain ⟨t, rfl⟩ := norm_str hv
  exact ⟨typeIs_str s x t, fun b e => by cases e⟩
theorem typ_list {l : Addr} {items : List Value} (hl : H l = some (.list true items)) : TypeW W "list" (.ref l) H := by
  intro s v hv r
  rw [norm_ref hv]
  obtain ⟨ws, hli, _, _, ow⟩ := r l _ hl
  obtain ⟨_, n, hn⟩ := ow rfl
  exact ⟨hli.typeIs, fun b e => by cases e; exact ⟨_, hn, rfl⟩⟩
theorem all_plain (es : List Expr) (env : Env) : (es.map fun e => (false, eval e env)).all (fun x => !x.1) = true := by
  induction es with
  | nil => rfl
  | cons e es ih => simpa using ih
theorem ev_meth {o : Expr} {args : List Expr} {name : Str} {apos pos : Pos} {T id : String} (hbase : attributeBase o name F.env (eval o F.env) = eval o F.env) (hp : args.all plainE = true) (hfew : args.length < 30) (hline : (apos.endLine == pos.line) = true)
    (pa : PlainAttrs T) (slot : Slot T name id) (hty : typeOf (.builtin id) = pure (.type "method_descriptor"))
    (h : EvW W A F o ρ H fun a H₁ => TypeW W T a H₁ ∧ ArgsW W A F args ρ H₁ fun vs H₂ => CallW W A (.builtin id) (a :: vs) H₂ Q) : EvW W A F (.Call (.Attribute o name apos) args [] pos) ρ H Q := by
  intro s i r f
  refine wpAny_Call_method hbase (by rw [star_plain pos F.env hp, all_plain]; simpa [backToKw, keywordEach] using hfew) hline pa slot hty (wpAny_mono (h s i r f) (fun ov s₁ ⟨H₁, x₁, hT, h₁⟩ => ?_) fun _ _ x => x)
  obtain ⟨t1, t2⟩ := hT s₁ ov rfl x₁.rel
  refine ⟨t1, t2, ?_⟩
  rw [star_plain pos F.env hp]
  exact Calls.callWith_builtin (any_false _ _) (args_ev h₁ x₁.inv x₁.rel (f.step x₁) fun vs s' H' x q => tw_then (x₁.trans x) (q s' (ov :: vs) (by simp) x.inv x.rel))

theorem call_isspace {x : Str} (h : Q (.bool (Txt.isspace x)) H) : CallW W A (.builtin "str.isspace") [.str x 0] H Q := by
  intro s vs hvs i r
  obtain ⟨v, rfl, hv⟩ := args1 hvs
  obtain ⟨t, rfl⟩ := norm_str hv
  exact call_meets PySem.F.slot_str_isspace (typeIs_str _ _ _) PySem.F.entry_str_isspace (PySem.F.args_str_isspace_1 _) (gives_str_isspace x t).meets ⟨H, .refl i r, h⟩
theorem call_rstrip {x : Str} (hz : x.length ≤ sizeLine) (h : Q (.str (Txt.rstrip x) 0) H) : CallW W A (.builtin "str.rstrip") [.str x 0] H Q := by
  intro s vs hvs i r
  obtain ⟨v, rfl, hv⟩ := args1 hvs
  obtain ⟨t, rfl⟩ := norm_str hv
  exact call_meets PySem.F.slot_str_rstrip (typeIs_str _ _ _) PySem.F.entry_str_rstrip (PySem.F.args_str_rstrip_1 _) (gives_str_rstrip x t).meets (post_val_or_made (fun _ => fits_stripped _ _ _ hz) fun t' k => ⟨H, (Step.refl i r).toks _, h⟩)
end
end Mine
end

section
open PySem PySem.W PyProof.Rows
set_option maxRecDepth 100000
set_option Elab.async false
set_option linter.unusedVariables false
namespace Mine
section
variable {W : Wd} {A : Around} {F : Frm} {ρ : Loc} {H : AHeap} {s : Shared} {Q : Value → AHeap → Prop}

def SubW (W : Wd) (A : Around) (value slice : Expr) (o i : Value) (H : AHeap) (Q : Value → AHeap → Prop) : Prop :=
  ∀ s vo vi, norm vo = o → norm vi = i → Inv W s → HRel W H s → TW W A (subscriptTail value slice vo vi) H s Q
theorem ev_sub {value slice : Expr} {pos : Pos} (h : EvW W A F value ρ H fun o H₁ => EvW W A F slice ρ H₁ fun i H₂ => SubW W A value slice o i H₂ Q) : EvW W A F (.Subscript value slice pos) ρ H Q :=
  fun s i rl f => Subscript_ (wpAny_mono (h s i rl f) (fun va s₁ ⟨H₁, x₁, h₁⟩ => wpAny_mono (h₁ s₁ x₁.inv x₁.rel (f.step x₁)) (fun vb s₂ ⟨H₂, x₂, h₂⟩ =>
    tw_then (x₁.trans x₂) (h₂ s₂ va vb rfl rfl x₂.inv x₂.rel)) fun _ _ x => x) fun _ _ x => x)

theorem sub_list {value slice : Expr} {l : Addr} {own : Bool} {items : List Value} {k : Int} {v : Value} (hs : ∀ l u, subscripted slice false (.ref l) (.int k u) = operate [.ref l, .int k u] (getItem (.ref l) (.int k u))) (hg : ∀ o r, letTemporaryGo value o r = pure ())
    (hl : H l = some (.list own items)) (h0 : 0 ≤ k) (hk : items[k.toNat]? = some v) (h : Q v H) : SubW W A value slice (.ref l) (.int k 0) H Q := by
  intro s vo vi ho hi i r
  rw [norm_ref ho]
  obtain ⟨u, rfl⟩ := norm_int hi
  obtain ⟨ws, hli, hws, hsz, _⟩ := r l _ hl
  have e : ws.toList[k.toNat]?.map norm = some v := by rw [← hk, ← hws, List.getElem?_map]
  obtain ⟨x, hx, hn⟩ := Option.map_eq_some_iff.mp e
  have hlt : k.toNat < ws.size := by
    have := (List.getElem?_eq_some_iff.mp hx).1
    simpa using this
  have := sizeLine_lt
  exact item_list hli h0 (by omega) (by rw [← Array.getElem?_toList]; exact hx) ⟨H, .refl i r, by rw [hn]; exact h⟩ (hs l u) (hg _)
theorem sub_str {value slice : Expr} {x : Str} {k : Int} {c : Nat} (hs : ∀ t u, subscripted slice false (.str x t) (.int k u) = operate [.str x t, .int k u] (getItem (.str x t) (.int k u))) (hz : x.length ≤ sizeLine)
    (h0 : 0 ≤ k) (hk : x.cps[k.toNat]? = some c) (h : Q (.str ⟨#[c]⟩ 0) H) : SubW W A value slice (.str x 0) (.int k 0) H Q := by
  intro s vo vi ho hi i r
  obtain ⟨t, rfl⟩ := norm_str ho
  obtain ⟨u, rfl⟩ := norm_int hi
  have hlt : k.toNat < x.cps.size := by
    have := (Array.getElem?_eq_some_iff.mp hk).1
    exact this
  have := sizeLine_lt
  have hx : (x.length : Int) = x.cps.size := rfl
  refine tail_any (typeIs_str s x t) PySem.F.slot_str_getitem.lookup (P.getItem_str (c := c) ?_ ?_ ⟨H, (Step.refl i r).toks _, h⟩) (hs t u)
  · simp only [Bool.or_eq_false_iff, decide_eq_false_iff_not]; omega
  · have e : seqIndex? k x.length = some k.toNat := by
      unfold seqIndex?
      have h1 : ¬ k < 0 := by omega
      have h2 : k < x.length := by omega
      simp [h1, h2, h0]
    rw [e]; exact hk

/-- the texts of a list -/
theorem strsAre_of {vs : List Value} {ys : List Str} (h : vs.map norm = ys.map fun y => .str y 0) : StrsAre vs ys := by
  induction ys generalizing vs with
  | nil => rw [List.map_eq_nil_iff.mp h]; exact .nil
  | cons y ys ih =>
    obtain ⟨v, vs', rfl, h1, h2⟩ := List.map_eq_cons_iff.mp h
    obtain ⟨t, rfl⟩ := norm_str h1
    exact .cons _ _ (ih h2)
theorem bop_in_list {l : Addr} {own : Bool} {ys : List Str} {k : Str} (hl : H l = some (.list own (ys.map fun y => .str y 0))) (h : Q (.bool (ys.any (· == k))) H) : BopW W A (compareOp .In) (.str k 0) (.ref l) H Q := by
  intro s va vb ha hb i r
  obtain ⟨t, rfl⟩ := norm_str ha
  rw [norm_ref hb]
  obtain ⟨ws, hli, hws, _⟩ := r l _ hl
  exact in_list_strs (vs := ws.toList) hli (strsAre_of hws) ⟨H, .refl i r, h⟩
theorem bop_notin_list {l : Addr} {own : Bool} {ys : List Str} {k : Str} (hl : H l = some (.list own (ys.map fun y => .str y 0))) (h : Q (.bool (!(ys.any (· == k)))) H) : BopW W A (compareOp .NotIn) (.str k 0) (.ref l) H Q := by
  intro s va vb ha hb i r
  obtain ⟨t, rfl⟩ := norm_str ha
  rw [norm_ref hb]
  obtain ⟨ws, hli, hws, _⟩ := r l _ hl
  exact notin_list_strs (vs := ws.toList) hli (strsAre_of hws) ⟨H, .refl i r, h⟩
theorem bop_isnot_bool {a b : Bool} (h : Q (.bool (a != b)) H) : BopW W A (compareOp .IsNot) (.bool a) (.bool b) H Q := by
  intro s va vb ha hb i r
  rw [norm_bool ha, norm_bool hb]
  refine wpAny_isNot_plain ?_ ⟨H, .refl i r, ?_⟩
  · cases a <;> cases b <;> rfl
  · cases a <;> cases b <;> exact h
end
end Mine
end

section
open PySem PySem.W PyProof.Rows
set_option maxRecDepth 100000
set_option Elab.async false
set_option linter.unusedVariables false
namespace Mine
section
variable {W : Wd} {A : Around} {F : Frm} {ρ : Loc} {H : AHeap} {s : Shared} {Q : Value → AHeap → Prop}

theorem bop_add_list {l b : Addr} {o1 o2 : Bool} {xs ys : List Value} (hl : H l = some (.list o1 xs)) (hb : H b = some (.list o2 ys)) (hz : xs.length + ys.length ≤ sizeLine)
    (h : ∀ a, H a = none → Q (.ref a) (H.put a (.list true (xs ++ ys)))) : BopW W A (binaryOp .Add) (.ref l) (.ref b) H Q := by
  intro s va vb ha hb' i r
  rw [norm_ref ha, norm_ref hb']
  obtain ⟨vs, ⟨⟨cls, dd, data, sl⟩, ho, hc, n, hd⟩, hvs, _⟩ := r l _ hl
  obtain ⟨ws, ⟨⟨cls2, dd2, data2, sl2⟩, ho2, hc2, n2, hd2⟩, hws, _⟩ := r b _ hb
  simp only at hc hd hc2 hd2
  subst hc hd hc2 hd2
  have e1 : vs.size = xs.length := by rw [← hvs, List.length_map, Array.length_toList]
  have e2 : ws.size = ys.length := by rw [← hws, List.length_map, Array.length_toList]
  refine concat_meets ⟨_, ho, rfl⟩ ⟨_, ho2, rfl⟩ PySem.noFill_list_add PySem.seq_list_add PySem.F.slot_list_add PySem.F.entry_list_add (PySem.F.args_list_add_2 _ _) (list_addW l b vs ws n n2 dd dd2 sl sl2 (by omega)) ⟨ho, ho2, ?_⟩
  exact ⟨_, step_new i r (at_new_list (l := xs ++ ys) (Heap.get?_push_size _ rfl) (by rw [Array.toList_append, List.map_append, hvs, hws]) (by rw [Array.size_append]; omega) i.size), h _ (fresh_none r)⟩

theorem bop_eq_strs {l b : Addr} {o1 o2 : Bool} {xs ys : List Str} (hu : A.units < cLine) (hl : H l = some (.list o1 (xs.map fun y => .str y 0))) (hb : H b = some (.list o2 (ys.map fun y => .str y 0)))
    (h : Q (.bool (decide (xs = ys))) H) : BopW W A (compareOp .Eq) (.ref l) (.ref b) H Q := by
  intro s va vb ha hb' i r
  rw [norm_ref ha, norm_ref hb']
  obtain ⟨vs, hli, hvs, _⟩ := r l _ hl
  obtain ⟨ws, hbi, hws, _⟩ := r b _ hb
  have e1 : vs.size = xs.length := by rw [← Array.length_toList, ← List.length_map (f := norm), hvs, List.length_map]
  have e2 : ws.size = ys.length := by rw [← Array.length_toList, ← List.length_map (f := norm), hws, List.length_map]
  by_cases hn : xs.length = ys.length
  · refine PySem.SeqAt.eq_listAt hli hbi (by omega) hu (e := fun j => xs[j]? == ys[j]?) (fun j h1 h2 => ?_) ⟨H, .refl i r, ?_⟩
    · have a1 : norm vs[j] = .str xs[j] 0 := by
        have := congrArg (fun l => l[j]?) hvs
        simp only [List.getElem?_map, Array.getElem?_toList, Array.getElem?_eq_getElem h1, List.getElem?_eq_getElem (show j < xs.length by omega), Option.map_some, Option.some.injEq] at this
        exact this
      have a2 : norm ws[j] = .str ys[j] 0 := by
        have := congrArg (fun l => l[j]?) hws
        simp only [List.getElem?_map, Array.getElem?_toList, Array.getElem?_eq_getElem h2, List.getElem?_eq_getElem (show j < ys.length by omega), Option.map_some, Option.some.injEq] at this
        exact this
      obtain ⟨t, h3⟩ := norm_str a1
      obtain ⟨u, h4⟩ := norm_str a2
      rw [h3, h4]
      have e3 : (xs[j]? == ys[j]?) = (xs[j] == ys[j]) := by
        rw [List.getElem?_eq_getElem (show j < xs.length by omega), List.getElem?_eq_getElem (show j < ys.length by omega)]; rfl
      rw [e3]
      exact (eqGives_str _ _ t u).at _ _
    · have : ((List.range vs.size).all fun j => xs[j]? == ys[j]?) = decide (xs = ys) := by
        rw [Bool.eq_iff_iff, List.all_eq_true, decide_eq_true_iff]
        constructor
        · intro q
          apply List.ext_getElem?
          intro j
          by_cases hj : j < vs.size
          · exact eq_of_beq (q j (List.mem_range.mpr hj))
          · rw [List.getElem?_eq_none (by omega), List.getElem?_eq_none (by omega)]
        · rintro rfl j _
          exact beq_self_eq_true _
      show Q (.bool _) H
      rw [this]; exact h
  · refine PySem.SeqAt.eq_list_lengthsAt hli hbi (by simp; omega) hu ⟨H, .refl i r, ?_⟩
    have : decide (xs = ys) = false := decide_eq_false fun e => hn (by rw [e])
    rw [this] at h; exact h
end
end Mine
end

section
open PySem PySem.W PyProof.Rows
set_option maxRecDepth 100000
set_option Elab.async false
set_option linter.unusedVariables false
namespace Mine
section
variable {W : Wd} {A : Around} {F : Frm} {ρ : Loc} {H : AHeap} {s : Shared}

theorem unpack_items {t : Addr} {items : List Value} {n : Nat} {P : List Value → Shared → Prop} (hA : A.handled = none) (ht : H t = some (.tuple items)) (hn : items.length = n) (i : Inv W s) (r : HRel W H s)
    (h : ∀ vs s', vs.map norm = items → Step W H s H s' → P vs s') : wpAny (model W.prog W.w) A (unpackItems (.ref t) n none) P (fun _ _ => False) s := by
  obtain ⟨ws, m, ho, hws, _⟩ := r t _ ht
  have e : ws.size = n := by rw [← hn, ← hws, List.length_map, Array.length_toList]
  subst e
  exact wpAny_grows (wpAny_unpackItems_tuple hA ⟨_, ho, rfl, m, rfl⟩ fun h' hx hz => h _ _ hws (step_ext i r (fun b o hb => hx b o (Nat.ne_of_lt (Heap.lt_size hb)) hb) hz))

/-- names stored one behind the other -/
def StsW (W : Wd) (A : Around) (F : Frm) : List (Str × Value) → Loc → AHeap → (Loc → AHeap → Prop) → Prop
  | [], ρ, H, Q => Q ρ H
  | (x, v) :: l, ρ, H, Q => StW W A F x v ρ H fun ρ' H' => StsW W A F l ρ' H' Q
theorem sts_run {Q : Loc → AHeap → Prop} (st : Str → Value → Sem Unit) (hst : ∀ x v (P : Unit → Shared → Prop) s, wpAny (model W.prog W.w) A (storeName F.env x v) P (fun _ _ => False) s → wpAny (model W.prog W.w) A (st x v) P (fun _ _ => False) s) :
    ∀ (l : List (Str × Value)) (vs : List Value) (ρ : Loc) (H : AHeap) (s : Shared), vs.map norm = l.map (·.2) → StsW W A F l ρ H Q → Inv W s → HRel W H s → FRel W F ρ H s →
      wpAny (model W.prog W.w) A (assignInOrder (l.map fun x => st x.1) vs) (fun _ s' => ∃ ρ' H', StepL W F H s H' s' ∧ FRel W F ρ' H' s' ∧ Q ρ' H') (fun _ _ => False) s
  | [], vs, ρ, H, s, hv, h, i, r, f => by
    rw [List.map_eq_nil_iff.mp hv]
    exact wpAny_assignInOrder_none ⟨ρ, H, (Step.refl i r).toL, f, h⟩
  | (x, v) :: l, vs, ρ, H, s, hv, h, i, r, f => by
    obtain ⟨u, us, rfl, h1, h2⟩ := List.map_eq_cons_iff.mp hv
    refine wpAny_assignInOrder_more (hst x u _ _ (wpAny_mono (h s u h1 i r f) (fun _ s₁ ⟨ρ₁, H₁, y, fr, q⟩ => ?_) fun _ _ h => h))
    exact wpAny_mono (sts_run st hst l us ρ₁ H₁ s₁ h2 q y.inv y.rel fr) (fun _ _ ⟨ρ', H', z, fr', q'⟩ => ⟨ρ', H', y.trans z, fr', q'⟩) fun _ _ h => h

variable {Q : Flow → Loc → AHeap → Prop}
/-- a, b = value, the value a tuple -/
theorem ex_unpack {names : List (Str × Pos)} {k : Nat} {tpos pos : Pos} {value : Expr} (hA : A.handled = none)
    (hs : swapsWithSole [.Tuple (names.map fun x => .Name x.1 x.2) k tpos] value pos.line F.env = pure false) (hw : swappedStores [.Tuple (names.map fun x => .Name x.1 x.2) k tpos] value F.env = pure none)
    (h : EvW W A F value ρ H fun v H₁ => ∃ t items, v = .ref t ∧ H₁ t = some (.tuple items) ∧ items.length = names.length ∧ StsW W A F ((names.map (·.1)).zip items) ρ H₁ fun ρ' H' => Q .next ρ' H') :
    ExW W A F (.Assign [.Tuple (names.map fun x => .Name x.1 x.2) k tpos] value pos) ρ H Q := by
  intro s i r f
  refine Assign_Tuple (wpAny_mono (h s i r f) (fun va s₁ ⟨H₁, x₁, t, items, e, ht, hlen, hst⟩ => ?_) fun _ _ x => x) hs hw
  rw [norm_ref e, arm_assign_Tuple]
  refine wpAny_bind (wpAny_standAt ?_)
  have ea : ∀ l : List (Str × Pos), assignEach (l.map fun x => Expr.Name x.1 x.2) F.env = l.map fun x => (false, assign (.Name x.1 x.2) F.env) := fun l => by
    induction l with
    | nil => rfl
    | cons x l ih => rw [List.map_cons, List.map_cons, ← ih]; rfl
  have en : (names.map fun x => (false, assign (.Name x.1 x.2) F.env)).findIdx? (·.1) = none := by
    rw [List.findIdx?_eq_none_iff]
    intro x hx
    obtain ⟨y, _, rfl⟩ := List.mem_map.mp hx
    rfl
  unfold unpack
  rw [ea, en]
  refine wpAny_bind (wpAny_holding (unpack_items hA ht (by rw [List.length_map, hlen]) x₁.inv x₁.rel fun vs s₂ hv x₂ => ?_))
  have f₂ := f.step (x₁.trans x₂)
  have el : (names.map fun x => (false, assign (.Name x.1 x.2) F.env)).map (·.2) = ((names.zip items).map fun (y : (Str × Pos) × Value) => assign (.Name y.1.1 y.1.2) F.env) := by
    rw [List.map_map]
    have : (names.zip items).map (·.1) = names := List.map_fst_zip (by omega)
    conv => lhs; rw [← this, List.map_map]
    rfl
  rw [el]
  have key : ∀ (l : List ((Str × Pos) × Value)) (vs : List Value) (ρ : Loc) (H : AHeap) (s : Shared), vs.map norm = l.map (·.2) → StsW W A F (l.map fun y => (y.1.1, y.2)) ρ H (fun ρ' H' => Q .next ρ' H') → Inv W s → HRel W H s → FRel W F ρ H s →
      wpAny (model W.prog W.w) A (assignInOrder (l.map fun y => assign (.Name y.1.1 y.1.2) F.env) vs) (fun _ s' => PostF W F H s Q .next s') (fun _ _ => False) s := by
    intro l
    induction l with
    | nil => intro vs ρ H s hv h i r f; rw [List.map_eq_nil_iff.mp hv]; exact wpAny_assignInOrder_none ⟨ρ, H, (Step.refl i r).toL, f, h⟩
    | cons y l ih =>
      intro vs ρ H s hv h i r f
      obtain ⟨u, us, rfl, h1, h2⟩ := List.map_eq_cons_iff.mp hv
      refine wpAny_assignInOrder_more (wpAny_assign_Name (wpAny_mono (h s u h1 i r f) (fun _ s₁ ⟨ρ₁, H₁, z, fr, q⟩ => ?_) fun _ _ h => h))
      exact wpAny_mono (ih us ρ₁ H₁ s₁ h2 q z.inv z.rel fr) (fun _ _ p => p.then z) fun _ _ h => h
  have ez : (names.zip items).map (fun y => (y.1.1, y.2)) = (names.map (·.1)).zip items := by
    rw [List.zip_map_left]
    rfl
  refine wpAny_mono (key (names.zip items) vs ρ H₁ s₂ (by rw [hv, List.map_snd_zip (by omega)]) (by rw [ez]; exact hst) x₂.inv x₂.rel f₂) (fun _ _ p => p.then ((x₁.trans x₂).toL)) fun _ _ h => h

theorem ex_expr {e : Expr} {pos : Pos} (hi : interactive F.env = false) (hs : swapsWith e none pos.line F.env = pure false) (h : EvW W A F e ρ H fun _ H₁ => Q .next ρ H₁) : ExW W A F (.Expr e pos) ρ H Q :=
  fun s i r f => wpAny_Expr_any (wpAny_mono (h s i r f) (fun v s₁ ⟨H₁, x₁, h₁⟩ => ⟨ρ, H₁, x₁.toL, f.step x₁, h₁⟩) fun _ _ x => x) hi hs
end
end Mine
end

section
open PySem PySem.W PyProof.Rows
set_option maxRecDepth 100000
set_option Elab.async false
set_option linter.unusedVariables false
namespace Mine
section
variable {W : Wd} {A : Around} {F : Frm} {ρ : Loc} {H : AHeap} {s : Shared} {Q : Flow → Loc → AHeap → Prop}
theorem ex_swap {elts : List Expr} {names : List Str} {k : Nat} {tpos pos : Pos} {value : Expr} (hA : A.handled = none)
    (hs : swapsWithSole [.Tuple elts k tpos] value pos.line F.env = pure false) (hw : swappedStores [.Tuple elts k tpos] value F.env = pure (some names))
    (h : EvW W A F value ρ H fun v H₁ => ∃ t items, v = .ref t ∧ H₁ t = some (.tuple items) ∧ items.length = names.length ∧ StsW W A F (names.zip items).reverse ρ H₁ fun ρ' H' => Q .next ρ' H') :
    ExW W A F (.Assign [.Tuple elts k tpos] value pos) ρ H Q := by
  intro s i r f
  refine Assign_Tuple_swapped (wpAny_mono (h s i r f) (fun va s₁ ⟨H₁, x₁, t, items, e, ht, hlen, hst⟩ => ?_) fun _ _ x => x) hs hw
  rw [norm_ref e]
  refine unpack_items hA ht hlen x₁.inv x₁.rel fun vs s₂ hv x₂ => ?_
  have f₂ := f.step (x₁.trans x₂)
  have e1 : names.reverse.map (fun n => bindName F.env n) = ((names.zip items).reverse.map fun x => bindName F.env x.1) := by
    have : (names.zip items).map (·.1) = names := List.map_fst_zip (by omega)
    conv => lhs; rw [← this, ← List.map_reverse, List.map_map]
    rfl
  rw [e1]
  refine wpAny_mono (sts_run (Q := fun ρ' H' => Q .next ρ' H') (fun x => bindName F.env x) (fun x v P s h => wpAny_bindName h) _ vs.reverse ρ H₁ s₂ ?_ hst x₂.inv x₂.rel f₂) (fun _ _ ⟨ρ', H', y, fr, q⟩ => ⟨ρ', H', (x₁.trans x₂).toL.trans y, fr, q⟩) fun _ _ h => h
  rw [List.map_reverse, hv, List.map_reverse, List.map_snd_zip (by omega)]
end

section
variable {W : Wd} {A : Around} {F : Frm} {ρ : Loc} {H : AHeap} {s : Shared} {Q : Value → AHeap → Prop}

/-- a slice's end -/
def PartW (W : Wd) (A : Around) (F : Frm) (e : Option Expr) (ρ : Loc) (H : AHeap) (Q : Option Int → AHeap → Prop) : Prop := match e with
  | none => Q none H
  | some e => EvW W A F e ρ H fun v H' => ∃ i, v = .int i 0 ∧ Q (some i) H'
theorem part_run {e : Option Expr} {Q : Option Int → AHeap → Prop} (h : PartW W A F e ρ H Q) (i : Inv W s) (r : HRel W H s) (f : FRel W F ρ H s) :
    wpAny (model W.prog W.w) A (evalPart e F.env) (fun v s' => ∃ H' p, Step W H s H' s' ∧ v = partValue p ∧ Q (p.map (·.1)) H') (fun _ _ => False) s := by
  cases e with
  | none => exact wpAny_evalPart_none ⟨H, none, .refl i r, rfl, h⟩
  | some e =>
    refine wpAny_evalPart_some (wpAny_mono (h s i r f) (fun v s₁ ⟨H₁, x₁, k, e, q⟩ => ?_) fun _ _ x => x)
    obtain ⟨t, rfl⟩ := norm_int e
    exact ⟨H₁, some (k, t), x₁, rfl, q⟩
theorem ev_slice {value : Expr} {lower upper : Option Expr} {p pos : Pos} (ht : ∀ o r, letTemporaryGo value o r = pure ())
    (h : EvW W A F value ρ H fun v H₁ => ∃ x, v = .str x 0 ∧ x.length ≤ sizeLine ∧ PartW W A F lower ρ H₁ fun l H₂ => PartW W A F upper ρ H₂ fun u H₃ => Q (.str (Txt.slice x l u) 0) H₃) :
    EvW W A F (.Subscript value (.Slice lower upper none p) pos) ρ H Q := by
  intro s i r f
  refine wpAny_Subscript_str_slice (wpAny_mono (h s i r f) (fun v s₁ ⟨H₁, x₁, x, e, hz, h₁⟩ => ?_) fun _ _ x => x) ht
  refine wpAny_mono (part_run h₁ x₁.inv x₁.rel (f.step x₁)) (fun vl s₂ ⟨H₂, pl, x₂, el, h₂⟩ => ?_) fun _ _ x => x
  refine wpAny_mono (part_run h₂ x₂.inv x₂.rel (f.step (x₁.trans x₂))) (fun vu s₃ ⟨H₃, pu, x₃, eu, h₃⟩ => ?_) fun _ _ x => x
  obtain ⟨t, rfl⟩ := norm_str e
  refine ⟨x, t, pl, pu, rfl, el, eu, ?_⟩
  have st := (x₁.trans x₂).trans (x₃.trans (step_push (o := { cls := .type "slice", data := .fields #[vl, vu, .none] }) x₃.inv x₃.rel))
  have key : Txt.slice x (pl.map (·.1)) (pu.map (·.1)) = (if (((Option.map (fun x => x.fst) (none : Option (Int × Tok))).getD 1 == 1 && (slicePicked x pl pu none).length == x.length) = true) then x else { cps := (List.filterMap (fun x_1 => x.cps[x_1]?) (slicePicked x pl pu none)).toArray }) := by
    cases pl <;> cases pu <;> rfl
  refine post_val_or_str ⟨Nat.le_trans ?_ hz, fun t' k => ⟨H₃, st.toks _, ?_⟩⟩
  · have := Txt.slice_le x (pl.map (·.1)) (pu.map (·.1))
    rw [key] at this
    exact this
  · show Q (norm (Value.str _ t')) H₃
    rw [key] at h₃
    exact h₃

theorem ev_cell {x : Str} {pos : Pos} {c : Addr} {v : Value} (hk : F.scope.names.lookup x = some .cell) (hc : F.env.cells.lookup x = some c) (hd : (x == ("__debug__" : Str)) = false) (hv : ρ x = some v) (h : Q v H) : EvW W A F (.Name x pos) ρ H Q := by
  intro s i r f
  obtain ⟨⟨u, h1, h2, _⟩, _⟩ := f.cells x c hc
  rw [hv] at h2
  obtain ⟨v', rfl, h4⟩ := Option.map_eq_some_iff.mp h2
  exact wpAny_Name (wpAny_loadName_cell f.kind hk hc h1 ⟨H, Step.refl i r, by rw [h4]; exact h⟩) hd
theorem ev_free {x : Str} {pos : Pos} {c : Addr} {v : Value} (hk : F.scope.names.lookup x = some .free) (hc : F.env.cells.lookup x = some c) (hd : (x == ("__debug__" : Str)) = false) (hn : (x == ("__classdict__" : Str)) = false) (hv : ρ x = some v) (h : Q v H) : EvW W A F (.Name x pos) ρ H Q := by
  intro s i r f
  obtain ⟨⟨u, h1, h2, _⟩, _⟩ := f.cells x c hc
  rw [hv] at h2
  obtain ⟨v', rfl, h4⟩ := Option.map_eq_some_iff.mp h2
  exact wpAny_Name (wpAny_loadName_free f.kind hk hc h1 ⟨H, Step.refl i r, by rw [h4]; exact h⟩ hn) hd
theorem st_cell {x : Str} {c : Addr} {v : Value} {Q : Loc → AHeap → Prop} (T : TopOk W) (hk : F.scope.names.lookup x = some .cell) (hc : F.env.cells.lookup x = some c) (hn : H c = none) (h : Q (ρ.put x v) H) : StW W A F x v ρ H Q := by
  intro s va hv i r f
  obtain ⟨⟨u, h1, h2, h3⟩, h4, h5⟩ := f.cells x c hc
  refine wpAny_storeName_cell f.kind hk hc h1 (fun h' hn' hs => ?_)
  obtain ⟨m, hm, hρ⟩ := f.ns
  refine ⟨ρ.put x v, H, step_same (X := F.own) (k := s.toks) T i r h4 hn (.inr ⟨x, hc, hk⟩) hs, ⟨f.above, ⟨m, hm.at fun o ho => (hs.2 _ (Ne.symm h5)).trans ho, fun y hy => ?_⟩, f.apart, f.kind, f.glob, f.bi, fun y d hd => ?_, f.cinj, f.cdis⟩, h⟩
  · show _ = if y = x then some v else ρ y
    have : y ≠ x := by rintro rfl; rw [hk] at hy; cases hy
    rw [if_neg this]; exact hρ y hy
  · obtain ⟨⟨w, g1, g2, g3⟩, g4, g5⟩ := f.cells y d hd
    by_cases e : y = x
    · subst e
      rw [hc] at hd; cases hd
      refine ⟨⟨some va, hn', ?_, .inl hn⟩, g4, g5⟩
      show _ = if y = y then some v else ρ y
      rw [if_pos rfl, Option.map_some, hv]
    · have hne : d ≠ c := by rintro rfl; exact e (f.cinj y x d hd hc)
      refine ⟨⟨w, g1.sameBut hs hne, ?_, g3⟩, g4, g5⟩
      show _ = if y = x then some v else ρ y
      rw [if_neg e]; exact g2
end
end Mine
end

section
open PySem PySem.W PyProof.Rows
set_option maxRecDepth 100000
set_option Elab.async false
set_option linter.unusedVariables false
namespace Mine
theorem bindL_local {k : Str → Option NameKind} {x : Str} (hx : k x = some .local) : ∀ (bs : List (Str × Value)) (m : Str → Option Value), bindL k bs m x = (bs.reverse.lookup x).or (m x)
  | [], m => rfl
  | (n, v) :: bs, m => by
    unfold bindL
    rw [bindL_local hx bs, List.reverse_cons, List.lookup_append, Option.or_assoc]
    congr 1
    by_cases e : x = n
    · subst e
      rw [if_pos hx]
      simp [List.lookup_cons]
    · have : (x == n) = false := by simpa using e
      simp only [List.lookup_cons, this, List.lookup_nil, Option.none_or]
      split
      · exact if_neg e
      · rfl
theorem bindC_cell {k : Str → Option NameKind} {x : Str} (hx : k x ≠ some .local) : ∀ (bs : List (Str × Value)) (m : Str → Option Value), bindC k bs m x = (bs.reverse.lookup x).or (m x)
  | [], m => rfl
  | (n, v) :: bs, m => by
    unfold bindC
    rw [bindC_cell hx bs, List.reverse_cons, List.lookup_append, Option.or_assoc]
    congr 1
    by_cases e : x = n
    · subst e
      rw [if_neg hx]
      simp [List.lookup_cons]
    · have : (x == n) = false := by simpa using e
      simp only [List.lookup_cons, this, List.lookup_nil, Option.none_or]
      split
      · rfl
      · exact if_neg e
/-- what the top holds of one of its defs, cells and all -/
structure FnC (W : Wd) (a : Addr) (q : Str) (params : Arguments) (body : List Stmt) (scope : Scope) (cd dflt : Value) : Prop where
  at_ : ∃ o fd, W.h₁.get? a = some o ∧ o.cls ≠ .none ∧ o.data = .func fd ∧ fd.qualname = q ∧ fd.params = params ∧ fd.body = .stmts body ∧ fd.scope = scope ∧ fd.globals = mainGlobals ∧ fd.closure = [] ∧
    fd.defaults = dflt ∧ fd.kwdefaults = .none ∧ fd.code = cd ∧ fd.builtins = builtinsNs
  code : W.h₁.CodeRec cd q
  codeCls : ∀ c o, cd = .ref c → W.h₁.get? c = some o → o.cls ≠ .none
  kind : scope.kind = .function
section
variable {W : Wd} {A : Around} {F : Frm} {ρ : Loc} {H : AHeap} {s : Shared} {Q : Value → AHeap → Prop}
def envC (q : Str) (scope : Scope) (L a : Addr) (cd : Value) : Env := newEnv scope L mainGlobals (cellsFrom (L + 1) scope.names []) (q ++ Str.ofString ".<locals>.") (some a) cd none builtinsNs
theorem fn_callC {a : Addr} {q : Str} {params : Arguments} {body : List Stmt} {scope : Scope} {cd dflt : Value} {args : List Value} {nb : List (Str × Value)} (T : TopOk W) (f : FnC W a q params body scope cd dflt)
    (hco : scope.isCoroutine = false) (hgen : scope.isGenerator = false) (hroom : A.depth < recursionLimit)
    (hcd : ∀ (L : Addr) x c, (cellsFrom (L + 1) scope.names []).lookup x = some c → scope.names.lookup x = some .cell)
    (hb : ∀ (s : Shared) (vs : List Value) (fd : FuncData), Inv W s → vs.map norm = args → fd.params = params → fd.defaults = dflt → fd.kwdefaults = .none →
      ∃ bs, BindsTo s fd ⟨vs, []⟩ bs ∧ bs.map (fun x => (x.1, norm x.2)) = nb ∧ ∀ x ∈ bs, scope.names.lookup x.1 = some .local ∨ (scope.names.lookup x.1 = some .cell ∧ ((cellsFrom (s.heap.objs.size + 1) scope.names []).lookup x.1).isSome = true))
    (h : ∀ L, (∀ x c, (cellsFrom (L + 1) scope.names []).lookup x = some c → H c = none) → ExsW W (A.deeper (envC q scope L a cd)) ⟨envC q scope L a cd⟩ body (locOf nb) H fun fl _ H' => Q (match fl with | .ret v => v | _ => .none) H') : CallW W A (.ref a) args H Q := by
  intro s vs hvs i r
  obtain ⟨o, fd, h1, h2, h3, e1, e2, e3, e4, e5, e6, e7, e8, e9, e10⟩ := f.at_
  obtain ⟨bs, hbs, hn, hl⟩ := hb s vs fd i hvs e2 e7 e8
  have hcode : s.heap.CodeRec cd q := by
    obtain ⟨c, o, vs, t, e, g, r⟩ := f.code
    exact ⟨c, o, vs, t, e, i.old.get_of_cls g (f.codeCls c o e g), r⟩
  refine wpAny_call (codeAny_call_function hroom (i.old.get_of_cls h1 h2) h3 (e4 ▸ hco) (e4 ▸ hgen) e3 (by rw [e9, e1]; exact hcode) (hbs _ _ _ _ ?_))
  rw [e4, e5, e6, e9, e10, e1]
  refine wpAny_grows (wpAny_newFunctionEnv_cells f.kind hl fun env he s' x hz => ?_)
  subst he
  obtain ⟨hh, tk, es⟩ := x.toInCall.same
  have hup := x.toInCall.keep
  have st : Step W H s H s' := by rw [es]; exact step_ext i r (by rw [es] at hup; exact hup) (by rw [es] at hz; exact hz)
  have hnone : ∀ b, s.heap.objs.size ≤ b → H b = none := fun b hb => r.none_of (Heap.get?_none_of_le hb)
  have lk : ∀ y, (bs.reverse.lookup y).map norm = locOf nb y := fun y => by
    show _ = nb.reverse.lookup y
    rw [norm_lookup, ← hn, List.map_reverse]
  have fr : FRel W ⟨envC q scope s.heap.objs.size a cd⟩ (locOf nb) H s' := by
    refine ⟨i.size, ⟨_, x.toInCall.ns, fun y hy => ?_⟩, hnone _ (Nat.le_refl _), f.kind, rfl, rfl, fun y c hc => ?_, fun y z c hy hz' => ?_, fun y c hc hy => ?_⟩
    · rw [bindL_local hy, Option.or_none]; exact lk y
    · have ha := x.above y c (mem_of_lookup hc)
      have hk := hcd _ y c hc
      refine ⟨⟨_, x.cell y c hc, ?_, .inl (hnone _ (Nat.le_of_lt ha))⟩, Nat.le_trans i.size (Nat.le_of_lt ha), Nat.ne_of_gt ha⟩
      rw [bindC_cell (show (newEnv scope s.heap.objs.size mainGlobals (cellsFrom (s.heap.objs.size + 1) scope.names []) (q ++ Str.ofString ".<locals>.") (some a) cd none builtinsNs).kindOf y ≠ some .local from fun e => by
        have e' : scope.names.lookup y = some .local := e
        rw [hk] at e'; cases e'), Option.or_none]
      exact lk y
    · exact name_of_addr x.apart (mem_of_lookup hy) (mem_of_lookup hz')
    · have e' : scope.names.lookup y = some .local := hy
      rw [hcd _ y c hc] at e'; cases e'
  refine ⟨st.inv.nolimit T, ?_⟩
  refine codeAny_func (wpAny_mono (h s.heap.objs.size (fun y c hc => hnone _ (Nat.le_of_lt (x.above y c (mem_of_lookup hc)))) _ st.inv st.rel fr) (fun fl s₂ ⟨ρ', H', z, fr', q'⟩ => ?_) fun _ _ x => x.elim)
  refine ⟨H', (st.toX.trans z).fresh fun b hb => ?_, ?_⟩
  · rcases hb with e | ⟨y, e, _⟩
    · right; rw [e]; exact Nat.le_refl _
    · right; exact Nat.le_of_lt (x.above y b (mem_of_lookup e))
  · cases fl <;> exact q'
end
end Mine
end

section
open PySem PySem.W PyProof.Rows
set_option maxRecDepth 100000
set_option Elab.async false
set_option linter.unusedVariables false
namespace Mine
section
variable {W : Wd} {A : Around} {F : Frm} {ρ : Loc} {H : AHeap} {s : Shared}

theorem tr_str {x : Str} {Q : Bool → AHeap → Prop} (hz : x.length ≤ sizeLine) (h : Q ((x.length : Int) != 0) H) : TrW W A (.str x 0) H Q := by
  intro s v hv i r
  obtain ⟨t, rfl⟩ := norm_str hv
  have := sizeLine_lt
  exact P.truthy_str (by omega) ⟨H, (Step.refl i r).toks _, h⟩
theorem tr_list {l : Addr} {own : Bool} {items : List Value} {Q : Bool → AHeap → Prop} (hl : H l = some (.list own items)) (h : Q (!items.isEmpty) H) : TrW W A (.ref l) H Q := by
  intro s v hv i r
  rw [norm_ref hv]
  obtain ⟨ws, hli, hws, hsz, _⟩ := r l _ hl
  have := sizeLine_lt
  refine wpAny_truthy_list hli (by omega) ⟨H, (Step.refl i r).toks _, ?_⟩
  have e : ws.isEmpty = items.isEmpty := by
    rw [← hws, List.isEmpty_map, Array.isEmpty_toList]
  rw [e]; exact h
variable {Q : Value → AHeap → Prop}
theorem norm_eq_none (v : Value) : (v == .none) = (norm v == .none) := by cases v <;> rfl
theorem bop_is_none {a : Value} (h : Q (.bool (a == .none)) H) : BopW W A (compareOp .Is) a .none H Q := by
  intro s va vb ha hb i r
  rw [norm_none hb]
  exact is_none ⟨H, .refl i r, by rw [norm_eq_none, ha]; exact h⟩
theorem bop_isnot_none {a : Value} (h : Q (.bool (!(a == .none))) H) : BopW W A (compareOp .IsNot) a .none H Q := by
  intro s va vb ha hb i r
  rw [norm_none hb]
  exact isNot_none ⟨H, .refl i r, by rw [norm_eq_none, ha]; exact h⟩
theorem mul_spaces_ok {x : Str} {n : Int} (h1 : x.length = 1) (h0 : 0 ≤ n) (h2 : n ≤ sizeLine) : MulOk x n := by
  have := sizeLine_lt
  refine ⟨?_, fun hn _ => ?_, fun hn _ => ?_⟩
  · simp only [Bool.or_eq_false_iff, decide_eq_false_iff_not]; omega
  · rw [h1]
    have h3 : (0 : Int) < n := by omega
    have h4 : (n : Int) ≤ 2 ^ 63 - 1 := by omega
    have : (1 : Int) ≤ (2 ^ 63 - 1) / n := Int.le_ediv_of_mul_le h3 (by omega)
    omega
  · rw [h1, Nat.one_mul]
    unfold Builtin.Str.tooLong
    simp; omega
theorem bop_mul_str {x : Str} {n : Int} (hok : MulOk x n) (h : Q (.str (Txt.mul x n) 0) H) : BopW W A (binaryOp .Mult) (.str x 0) (.int n 0) H Q := by
  intro s va vb ha hb i r
  obtain ⟨t, rfl⟩ := norm_str ha; obtain ⟨u, rfl⟩ := norm_int hb
  exact SB.mul hok fun t' k => ⟨H, (Step.refl i r).toks _, h⟩
theorem call_join {x : Str} {D : Addr} {own : Bool} {texts : List Str} (hl : H D = some (.list own (texts.map fun y => .str y 0))) (hok : JoinOk x texts = true) (h : Q (.str (Txt.join x texts) 0) H) : CallW W A (.builtin "str.join") [.str x 0, .ref D] H Q := by
  intro s vs hvs i r
  obtain ⟨v, u, rfl, hv, hu⟩ := args2 hvs
  obtain ⟨t, rfl⟩ := norm_str hv
  rw [norm_ref hu]
  obtain ⟨ws, hli, hws, _⟩ := r D _ hl
  have key : ∀ (vs : List Value) (ys : List Str), vs.map norm = (ys.map fun y => .str y 0) → ∃ l : List (Str × Tok), vs = strValues l ∧ l.map (·.1) = ys := by
    intro vs ys
    induction ys generalizing vs with
    | nil => intro e; rw [List.map_eq_nil_iff.mp e]; exact ⟨[], rfl, rfl⟩
    | cons y ys ih =>
      intro e
      obtain ⟨v, vs', rfl, h1, h2⟩ := List.map_eq_cons_iff.mp e
      obtain ⟨t, rfl⟩ := norm_str h1
      obtain ⟨l, rfl, h3⟩ := ih vs' h2
      exact ⟨(y, t) :: l, rfl, by simp [h3]⟩
  obtain ⟨l, e1, e2⟩ := key ws.toList texts hws
  refine SC.join (l := l) (texts := texts) ?_ e2 hok fun t' k => ⟨H, (Step.refl i r).toks _, h⟩
  rw [← e1]; exact hli
end
end Mine
end

section
open PySem PySem.W PyProof.Rows
set_option maxRecDepth 100000
set_option Elab.async false
set_option linter.unusedVariables false
namespace Mine
section
variable {W : Wd} {A : Around} {F : Frm} {ρ : Loc} {H : AHeap} {s : Shared}

theorem store_local {x : Str} {va : Value} (T : TopOk W) (hk : F.scope.names.lookup x = some .local) (i : Inv W s) (r : HRel W H s) (f : FRel W F ρ H s) :
    wpAny (model W.prog W.w) A (storeName F.env x va) (fun _ s' => (∃ h', Heap.SameBut F.L s.heap h' ∧ s'.heap = h') ∧ StepX W (fun b => b = F.L) H s H s' ∧ FRel W F (ρ.put x (norm va)) H s') (fun _ _ => False) s := by
  obtain ⟨m, hm, hρ⟩ := f.ns
  refine wpAny_storeName_local hk hm (fun h' hn hs => ?_) (by show (F.scope.kind == .class || (F.scope.kind == .module && F.L != F.env.globals)) = false; rw [f.kind]; rfl)
  refine ⟨⟨h', hs, rfl⟩, step_same (k := s.toks + 1) T i r f.above f.apart rfl hs, ⟨f.above, ⟨_, hn, fun y hy => ?_⟩, f.apart, f.kind, f.glob, f.bi, fun y c hc => ?_, f.cinj, f.cdis⟩⟩
  · show Option.map norm (if y = x then some va else m y) = if y = x then some (norm va) else ρ y
    split
    · rfl
    · exact hρ y hy
  · obtain ⟨⟨u, h1, h2, h3⟩, h4, h5⟩ := f.cells y c hc
    refine ⟨⟨u, h1.sameBut hs h5, ?_, h3⟩, h4, h5⟩
    have : y ≠ x := by rintro rfl; exact f.cdis y c hc hk
    show _ = if y = x then some (norm va) else ρ y
    rw [if_neg this]; exact h2

/-- a comprehension's tests (none or one) -/
def CtW (W : Wd) (A : Around) (F : Frm) (ifs : List Expr) (ρ : Loc) (H : AHeap) (Q : Bool → AHeap → Prop) : Prop := match ifs with
  | [] => Q true H
  | [c] => TsW W A F c ρ H Q
  | _ => False
theorem ct_run {ifs : List Expr} {Q : Bool → AHeap → Prop} (h : CtW W A F ifs ρ H Q) (i : Inv W s) (r : HRel W H s) (f : FRel W F ρ H s) :
    wpAny (model W.prog W.w) A (forIn ifs true fun c r => if r = true then do let ok ← isTrue c F.env (eval c F.env); pure (ForInStep.yield ok) else pure (ForInStep.yield r)) (fun b s' => ∃ H', Step W H s H' s' ∧ Q b H') (fun _ _ => False) s := by
  match ifs, h with
  | [], h => exact wpAny_tests_nil ⟨H, .refl i r, h⟩
  | [c], h => exact wpAny_tests_one (h s i r f)

/-- the turns of a comprehension -/
def CompT (W : Wd) (A : Around) (F : Frm) (dep : AHeap → Prop) (x : Str) (ifs : List Expr) (elt : Expr) (Q : List Value → AHeap → Prop) : List Value → List Value → Loc → AHeap → Prop
  | [], acc, ρ, H => dep H ∧ Q acc H
  | v :: l, acc, ρ, H => dep H ∧ CtW W A F ifs (ρ.put x v) H fun b H₁ => if b then EvW W A F elt (ρ.put x v) H₁ fun u H₂ => CompT W A F dep x ifs elt Q l (acc ++ [u]) (ρ.put x v) H₂ else CompT W A F dep x ifs elt Q l acc (ρ.put x v) H₁

def AccAt (h : Heap) (D : Addr) (acc : List Value) : Prop := ∃ vs n, h.get? D = some { cls := .type "list", data := .seq vs n } ∧ vs.toList.map norm = acc
theorem AccAt.keep {h h' : Heap} {D : Addr} {acc : List Value} (a : AccAt h D acc) (k : ∀ o, h.get? D = some o → Solid o → h'.get? D = some o) : AccAt h' D acc := by
  obtain ⟨vs, n, h1, h2⟩ := a
  exact ⟨vs, n, k _ h1 (.inl (by intro q; cases q)), h2⟩

theorem comp_loop {I D : Addr} {dep : AHeap → Prop} {St : List Value → Heap → Prop} {x : Str} {px pos : Pos} {ifs : List Expr} {elt iter : Expr} {scope : Scope} {Q : List Value → AHeap → Prop} (T : TopOk W) (it : Itr W A I dep St)
    (hx : F.scope.names.lookup x = some .local) (hLI : F.L ≠ I) (hLD : F.L ≠ D) (hDI : D ≠ I) (hCI : ∀ x, F.env.cells.lookup x ≠ some I) (hCD : ∀ x, F.env.cells.lookup x ≠ some D) (hD : W.h₁.objs.size ≤ D) (s₀ : Shared) (H₀ : AHeap) :
    ∀ (l acc : List Value) (ρ : Loc) (H : AHeap) (s : Shared), CompT W A F dep x ifs elt Q l acc ρ H → acc.length + l.length ≤ sizeLine → St l s.heap → HRel W H s → Inv W s → FRel W F ρ H s → H I = none → H D = none → AccAt s.heap D acc →
      StepX W (fun b => b = F.L ∨ b = I ∨ b = D) H₀ s₀ H s →
      codeAny (model W.prog W.w) A (.compLoop (.ListComp elt [⟨.Name x px, iter, ifs, 0⟩] scope pos) 0 (.ref I) (.ref D) F.env) (fun r s' => match r with
        | .ok _ => ∃ acc ρ' H', StepX W (fun b => b = F.L ∨ b = I ∨ b = D) H₀ s₀ H' s' ∧ FRel W F ρ' H' s' ∧ H' D = none ∧ AccAt s'.heap D acc ∧ acc.length ≤ sizeLine ∧ Q acc H'
        | .error _ => False) s := by
  intro l acc ρ H s ht hz hst hr hi hf hI hHD hacc hX
  refine codeAny_compLoop_tests (fun n s => ∃ l acc ρ H, l.length = n ∧ CompT W A F dep x ifs elt Q l acc ρ H ∧ acc.length + l.length ≤ sizeLine ∧ St l s.heap ∧ HRel W H s ∧ Inv W s ∧ FRel W F ρ H s ∧ H I = none ∧ H D = none ∧ AccAt s.heap D acc ∧
    StepX W (fun b => b = F.L ∨ b = I ∨ b = D) H₀ s₀ H s) (fun n s hh => ?_) l.length ⟨l, acc, ρ, H, rfl, ht, hz, hst, hr, hi, hf, hI, hHD, hacc, hX⟩
  obtain ⟨l, acc, ρ, H, rfl, ht, hz, hst, hr, hi, hf, hI, hHD, hacc, hX⟩ := hh
  cases l with
  | nil =>
    refine wpAny_mono (it.stop H s hst ht.1 hi hr) (fun r s' ⟨e, t⟩ => ?_) fun _ _ h => h.elim
    subst e
    have y := t.stepX (X := fun b => b = F.L ∨ b = I ∨ b = D) T hi hr it.above hI (.inr (.inl rfl))
    exact ⟨acc, ρ, H, hX.trans y, hf.touch t hLI hCI, hHD, hacc.keep fun o ho _ => t.keep _ _ ho hDI, by omega, ht.2⟩
  | cons v l =>
    refine wpAny_mono (it.next v l H s hst ht.1 hi hr) (fun r s' ⟨xv, e, hv, hst', t⟩ => ?_) fun _ _ h => h.elim
    subst e
    have y := t.stepX (X := fun b => b = F.L ∨ b = I ∨ b = D) T hi hr it.above hI (.inr (.inl rfl))
    have hf' : FRel W F ρ H s' := hf.touch t hLI hCI
    have hacc' := hacc.keep (h' := s'.heap) fun o ho _ => t.keep _ _ ho hDI
    refine wpAny_assign_Name (wpAny_mono (store_local T hx y.inv y.rel hf') (fun _ s₁ ⟨⟨h', hsb, eh⟩, z, fr⟩ => ?_) fun _ _ h => h.elim)
    subst eh
    rw [hv] at fr
    have z' : StepX W (fun b => b = F.L ∨ b = I ∨ b = D) H s' H s₁ := z.wk fun b e => .inl e
    have hst₁ : St l s₁.heap := it.frame _ _ _ hst' fun o ho => (hsb.2 I (fun e => hLI e.symm)).trans ho
    have hacc₁ := hacc'.keep (h' := s₁.heap) fun o ho _ => (hsb.2 D (fun e => hLD e.symm)).trans ho
    have thru : ∀ {H₁ H₂ : AHeap} {s₁ s₂ : Shared} {acc : List Value}, Step W H₁ s₁ H₂ s₂ → H₁ I = none → H₁ D = none → St l s₁.heap → AccAt s₁.heap D acc → H₂ I = none ∧ H₂ D = none ∧ St l s₂.heap ∧ AccAt s₂.heap D acc := fun {H₁ H₂ s₁ s₂ acc} x h1 h2 h3 h4 => by
      obtain ⟨o, ho, hso⟩ := it.solid _ _ h3
      obtain ⟨vs, n, h5, h6⟩ := h4
      exact ⟨x.hid (Heap.lt_size ho) h1 id, x.hid (Heap.lt_size h5) h2 id, it.frame _ _ _ h3 fun o' ho' => by rw [ho] at ho'; cases ho'; exact x.keep _ _ ho hso h1 id, vs, n, x.keep _ _ h5 (solid_cls rfl) h2 id, h6⟩
    refine wpAny_mono (ct_run ht.2 z.inv z.rel fr) (fun b s₂ ⟨H₂, x₂, h₂⟩ => ?_) fun _ _ h => h.elim
    obtain ⟨hI₂, hD₂, hst₂, hacc₂⟩ := thru x₂ hI hHD hst₁ hacc₁
    have X₂ := ((hX.trans y).trans z').trans (x₂.toX (X := fun b => b = F.L ∨ b = I ∨ b = D))
    have fr₂ := fr.step x₂
    simp only [List.length_cons] at hz
    cases b with
    | false => exact ⟨l.length, Nat.lt_succ_self _, l, acc, _, H₂, rfl, h₂, by omega, hst₂, x₂.rel, x₂.inv, fr₂, hI₂, hD₂, hacc₂, X₂⟩
    | true =>
      refine wpAny_mono (h₂ s₂ x₂.inv x₂.rel fr₂) (fun u s₃ ⟨H₃, x₃, h₃⟩ => ?_) fun _ _ h => h.elim
      obtain ⟨hI₃, hD₃, hst₃, vs, n, hvs, hvn⟩ := thru x₃ hI₂ hD₂ hst₂ hacc₂
      have hlen : vs.size = acc.length := by rw [← hvn, List.length_map, Array.length_toList]
      refine wpAny_list_append_plain ⟨n, hvs⟩ (fun h' ⟨n', hn'⟩ hs => ?_) (by omega)
      have t₃ : Touch D s₃ { s₃ with heap := h' } := ⟨fun b o hb hn => (hs.2 b hn).trans hb, rfl, rfl, by show s₃.heap.objs.size ≤ h'.objs.size; rw [hs.1]; exact Nat.le_refl _⟩
      have y₃ := t₃.stepX (X := fun b => b = F.L ∨ b = I ∨ b = D) T x₃.inv x₃.rel hD hD₃ (.inr (.inr rfl))
      refine ⟨l.length, Nat.lt_succ_self _, l, acc ++ [norm u], _, H₃, rfl, h₃, by simp; omega, it.frame _ _ _ hst₃ fun o ho => (hs.2 I (fun e => hDI e.symm)).trans ho, y₃.rel, y₃.inv, (fr₂.step x₃).touch t₃ hLD hCD, hI₃, hD₃, ⟨_, n', hn', by rw [Array.toList_push, List.map_append, hvn]; rfl⟩, (X₂.trans x₃.toX).trans y₃⟩
end
end Mine
end

section
open PySem PySem.W PyProof.Rows
set_option maxRecDepth 100000
set_option Elab.async false
set_option linter.unusedVariables false
namespace Mine
section
variable {W : Wd} {A : Around} {F : Frm} {ρ : Loc} {H : AHeap} {s : Shared}

/-- the names of a comprehension's frame at its start -/
def compLoc (scope : Scope) (F : Frm) (ρ : Loc) : Loc := fun y => if (relabel scope F.env).names.lookup y = some .local then none else ρ y
/-- the frame of a comprehension -/
def compFrm (scope : Scope) (cl : List (Str × Addr)) (F : Frm) (C : Addr) : Frm := ⟨compEnvC scope cl C F.env⟩

theorem comp_block {I : Addr} {dep : AHeap → Prop} {St : List Value → Heap → Prop} {x : Str} {px pos : Pos} {ifs : List Expr} {elt iter : Expr} {scope : Scope} {cl : List (Str × Addr)} {items : List Value} {Q : List Value → AHeap → Prop}
    {RR : Value → Addr → Result → Shared → Prop} {E : Value → Shared → Prop} (T : TopOk W) (it : Itr W A I dep St) (i : Inv W s) (r : HRel W H s) (f : FRel W F ρ H s) (hst : St items s.heap) (hI : H I = none) (hz : items.length ≤ sizeLine)
    (hCI : ∀ y, F.env.cells.lookup y ≠ some I)
    (hcell : ∀ y ∈ scope.names, y.2 ≠ .cell) (hkind : scope.kind = .function) (hx : scope.names.lookup x = some .local)
    (hcl : ∀ y c, cl.lookup y = some c → F.env.cells.lookup y = some c ∧ (relabel scope F.env).names.lookup y ≠ some .local)
    (hct : ∀ C, CompT W A (compFrm scope cl F C) dep x ifs elt Q items [] (compLoc scope F ρ) H)
    (hRR : ∀ acc D C H' s' fl, StepX W (fun b => b = C ∨ b = I ∨ b = D) H s H' s' → s.heap.objs.size ≤ C → s.heap.objs.size ≤ D → C ≠ D → W.h₁.objs.size ≤ C → (∃ m, s'.heap.Ns C m) → H' C = none → H' D = none → AccAt s'.heap D acc → acc.length ≤ sizeLine → Q acc H' → RR (.ref D) C (.ok fl) s') :
    wpAny (model W.prog W.w) A (newList []) (fun acc s₃ => wpAny (model W.prog W.w) A (newFunctionEnv scope F.env.globals cl [] F.env.qual none .none (some F.env)) (fun cenv s₄ =>
      codeAny (model W.prog W.w) A (.compStart (.ListComp elt [⟨.Name x px, iter, ifs, 0⟩] scope pos) 0 (.ref I) acc { cenv with scope := relabel scope F.env }) (RR acc cenv.locals) s₄) E s₃) E s := by
  refine wpAny_newObj_type (wpAny_newFunctionEnv hcell (by intro y hy; simp at hy) (fun h₁ hns₁ hsb₁ => ?_) hkind)
  dsimp only at hns₁ hsb₁ ⊢
  generalize hH2 : s.heap.push { cls := .type "list", dict := none, data := .seq ([] : List Value).toArray } = H2 at hns₁ hsb₁ ⊢
  have hC : H2.objs.size = s.heap.objs.size + 1 := by rw [← hH2, Heap.size_push]
  obtain ⟨o, ho, hso⟩ := it.solid _ _ hst
  have hIlt := Heap.lt_size ho
  have hDC : H2.objs.size ≠ s.heap.objs.size := by rw [hC]; exact Nat.succ_ne_self _
  have old : ∀ b o, s.heap.get? b = some o → h₁.get? b = some o := fun b o e => hsb₁.extBut b o (by rw [hC]; exact Nat.ne_of_lt (Nat.lt_succ_of_lt (Heap.lt_size e))) (Heap.get?_push_of_some _ (hH2 ▸ Heap.get?_push_of_some _ e))
  have hgrow : s.heap.objs.size ≤ h₁.objs.size := by rw [hsb₁.1, Heap.size_push, hC]; omega
  have st : Step W H s H { s with heap := h₁, toks := s.toks + ([] : List (Str × Value)).length } := step_ext i r old hgrow
  have hnone : ∀ b, s.heap.objs.size ≤ b → H b = none := fun b hb => r.none_of (Heap.get?_none_of_le hb)
  have hCle : s.heap.objs.size ≤ H2.objs.size := by rw [hC]; exact Nat.le_succ _
  have fc : ∀ y c, cl.lookup y = some c → c < s.heap.objs.size := fun y c hc => by
    obtain ⟨⟨v, h1, _⟩, _⟩ := f.cells y c (hcl y c hc).1
    exact h1.lt
  have fr : FRel W (compFrm scope cl F H2.objs.size) (compLoc scope F ρ) H { s with heap := h₁, toks := s.toks + ([] : List (Str × Value)).length } := by
    refine ⟨Nat.le_trans i.size hCle, ⟨_, hns₁, fun y hy => ?_⟩, hnone _ hCle, hkind, f.glob, f.bi, fun y c hc => ?_, fun y z c hy hz' => f.cinj y z c (hcl y c hy).1 (hcl z c hz').1, fun y c hc => (hcl y c hc).2⟩
    · have hy' : (relabel scope F.env).names.lookup y = some .local := hy
      show none = compLoc scope F ρ y
      unfold compLoc
      rw [if_pos hy']
    · obtain ⟨⟨v, ⟨o, h1, h2⟩, h3, h6⟩, h4, _⟩ := f.cells y c (hcl y c hc).1
      refine ⟨⟨v, ⟨o, old _ _ h1, h2⟩, ?_, h6⟩, h4, fun e => ?_⟩
      · unfold compLoc
        rw [if_neg (hcl y c hc).2]; exact h3
      · have h6 := fc y c hc
        have h7 : c = H2.objs.size := e
        rw [h7, hC] at h6
        exact absurd h6 (Nat.not_lt.mpr (Nat.le_succ _))
  have hacc : AccAt h₁ s.heap.objs.size [] := ⟨#[], _, hsb₁.extBut _ _ (Ne.symm hDC) (Heap.get?_push_of_some _ (hH2 ▸ Heap.get?_push_size _ rfl)), rfl⟩
  have hst₁ : St items h₁ := it.frame _ _ _ hst fun o e => old _ _ e
  have loop : codeAny (model W.prog W.w) A (.compLoop (.ListComp elt [⟨.Name x px, iter, ifs, 0⟩] scope pos) 0 (.ref I) (.ref s.heap.objs.size) (compFrm scope cl F H2.objs.size).env)
        (RR (.ref s.heap.objs.size) H2.objs.size) { s with heap := h₁, toks := s.toks + ([] : List (Str × Value)).length } := by
    refine codeAny_mono (comp_loop (F := compFrm scope cl F H2.objs.size) T it (lookup_relabel_local hx) (fun e => ?_) hDC (fun e => ?_) (fun y e => hCI y (hcl y I e).1) (fun y e => ?_) i.size s H items [] _ H _ (hct _) (by simpa using hz) hst₁ st.rel st.inv fr hI (hnone _ (Nat.le_refl _)) hacc st.toX) (fun rr s' hh => ?_)
    · have h7 : H2.objs.size = I := e
      rw [← h7, hC] at hIlt; exact absurd hIlt (Nat.not_lt.mpr (Nat.le_succ _))
    · rw [← e] at hIlt; exact absurd hIlt (Nat.lt_irrefl _)
    · exact absurd (fc y _ e) (Nat.lt_irrefl _)
    · cases rr with
      | error e => exact hh.elim
      | ok fl =>
        obtain ⟨acc, ρ', H', y, fr', hD', ha, hl, q⟩ := hh
        obtain ⟨m, hm, _⟩ := fr'.ns
        exact hRR acc _ _ H' s' fl y hCle (Nat.le_refl _) hDC (Nat.le_trans i.size hCle) ⟨m, hm⟩ fr'.apart hD' ha hl q
  exact codeAny_compStart_list loop (it.self items _ _ _ hst₁ loop)
end
end Mine
end

section
open PySem PySem.W PyProof.Rows
set_option maxRecDepth 100000
set_option Elab.async false
set_option linter.unusedVariables false
namespace Mine
section
variable {W : Wd} {A : Around} {F : Frm} {ρ : Loc} {H : AHeap} {s : Shared}

/-- the list of a comprehension comes to light -/
theorem comp_out {X : Addr → Prop} {H' : AHeap} {s' : Shared} {C D : Addr} {acc : List Value} {h' : Heap} (T : TopOk W) (x : StepX W X H s H' s') (hX : ∀ b, X b → s.heap.objs.size ≤ b) (hC : W.h₁.objs.size ≤ C) (hsC : s.heap.objs.size ≤ C) (hsD : s.heap.objs.size ≤ D) (hD : W.h₁.objs.size ≤ D)
    (hne : C ≠ D) (hHC : H' C = none) (hHD : H' D = none) (ha : AccAt s'.heap D acc) (hz : acc.length ≤ sizeLine) (hs : Heap.SameBut C s'.heap h') : Step W H s (H'.put D (.list true acc)) { s' with heap := h' } := by
  have t : Touch C s' { s' with heap := h' } := ⟨fun b o hb hn => (hs.2 b hn).trans hb, rfl, rfl, by show s'.heap.objs.size ≤ h'.objs.size; rw [hs.1]; exact Nat.le_refl _⟩
  have y := t.stepX (X := fun b => b = C) T x.inv x.rel hC hHC rfl
  obtain ⟨vs, n, hv, hn⟩ := ha
  have hlen : vs.size = acc.length := by rw [← hn, List.length_map, Array.length_toList]
  have tot : Step W H s H' { s' with heap := h' } := ((x.wk (Y := fun b => X b ∨ b = C) fun b e => .inl e).trans (y.wk fun b e => .inr e)).fresh fun b hb => .inr (by
    rcases hb with e | e
    · exact hX b e
    · rw [e]; exact hsC)
  exact tot.put (.inl hsD) (fun z hz => by rw [hHD] at hz; cases hz) (by intro _ _ q; cases q) (at_new_list (t.keep _ _ hv (Ne.symm hne)) hn (by omega) hD)

theorem ev_comp {x : Str} {px pos : Pos} {ifs : List Expr} {elt iter : Expr} {scope : Scope} {cl : List (Str × Addr)} {Q : Value → AHeap → Prop} (T : TopOk W) (hclos : closureFor scope F.env = pure cl)
    (hcell : ∀ y ∈ scope.names, y.2 ≠ .cell) (hkind : scope.kind = .function) (hnames : ∀ y ∈ scope.names, y.2 = .local → scope.names.lookup y.1 = some .local) (hx : scope.names.lookup x = some .local)
    (hcl : ∀ y c, cl.lookup y = some c → F.env.cells.lookup y = some c ∧ (relabel scope F.env).names.lookup y ≠ some .local) (hs : ∀ x, foldedSetIterable iter F.env x = pure x)
    (h : EvW W A F iter ρ H fun v H₁ => ∃ dep items, IterW W A v H₁ dep items ∧ items.length ≤ sizeLine ∧ ∀ C, CompT W A (compFrm scope cl F C) dep x ifs elt (fun acc H' => ∀ a, H' a = none → Q (.ref a) (H'.put a (.list true acc))) items [] (compLoc scope F ρ) H₁) :
    EvW W A F (.ListComp elt [⟨.Name x px, iter, ifs, 0⟩] scope pos) ρ H Q := by
  intro s i r f
  unfold TW
  rw [eval_ListComp]
  refine wpAny_comprehension_free (use := none) rfl hs hclos hkind hnames (wpAny_mono (h s i r f) (fun xv s₁ ⟨H₁, x₁, dep, items, hit, hz, hct⟩ => wpAny_mono (hit s₁ xv rfl x₁.inv x₁.rel) (fun iv s₂ ⟨I, St, e, itr, hst, hfr, hHI, x₂⟩ => ?_) fun _ _ e => e.elim) fun _ _ e => e)
  subst e
  have f₁ := f.step x₁
  refine comp_block (RR := fun acc C => compPost (model W.prog W.w) A (fun _ _ => False) none (fun v s' => ∃ H', Step W H s H' s' ∧ Q (norm v) H') acc C) T itr x₂.inv x₂.rel (f₁.step x₂) hst hHI hz (fun y hc => ?_) hcell hkind hx hcl hct ?_
  · obtain ⟨⟨v, h1, _⟩, _⟩ := f₁.cells y I hc
    exact absurd h1.lt (Nat.not_lt.mpr hfr)
  · intro acc D C H' s' fl y hsC hsD hne hC hm hHC hHD ha hl q
    obtain ⟨m, hm⟩ := hm
    show ∃ m, s'.heap.Ns C m ∧ ∀ h', Heap.SameBut C s'.heap h' → ∃ H', Step W H s H' { s' with heap := h' } ∧ Q (norm (.ref D)) H'
    refine ⟨m, hm, fun h' hs' => ⟨_, ?_, q D hHD⟩⟩
    have x₃ := (x₂.toX (X := fun b => b = C ∨ b = I ∨ b = D)).trans y
    have hX : ∀ b, (b = C ∨ b = I ∨ b = D) → s₁.heap.objs.size ≤ b := by
      rintro b (e | e | e)
      · rw [e]; exact Nat.le_trans x₂.grow hsC
      · rw [e]; exact hfr
      · rw [e]; exact Nat.le_trans x₂.grow hsD
    exact x₁.trans (comp_out T x₃ hX hC (hX C (.inl rfl)) (hX D (.inr (.inr rfl))) (Nat.le_trans x₂.inv.size hsD) hne hHC hHD ha hl hs')
end
end Mine
end

section
open PySem PySem.W PyProof.Rows
set_option maxRecDepth 100000
set_option Elab.async false
set_option linter.unusedVariables false
namespace Mine
section
variable {W : Wd} {A : Around} {F : Frm} {ρ : Loc} {H : AHeap} {s : Shared}

theorem ex_assign_comp {x y : Str} {px py pos spos : Pos} {ifs : List Expr} {elt iter : Expr} {scope : Scope} {cl : List (Str × Addr)} {Q : Flow → Loc → AHeap → Prop} (T : TopOk W)
    (hsw : swapsWith (.ListComp elt [⟨.Name x px, iter, ifs, 0⟩] scope pos) (some (.Name y py)) spos.line F.env = pure true) (hclos : closureFor scope F.env = pure cl)
    (hcell : ∀ y ∈ scope.names, y.2 ≠ .cell) (hkind : scope.kind = .function) (hnames : ∀ y ∈ scope.names, y.2 = .local → scope.names.lookup y.1 = some .local) (hx : scope.names.lookup x = some .local)
    (hcl : ∀ y c, cl.lookup y = some c → F.env.cells.lookup y = some c ∧ (relabel scope F.env).names.lookup y ≠ some .local) (hs : ∀ x, foldedSetIterable iter F.env x = pure x)
    (h : EvW W A F iter ρ H fun v H₁ => ∃ dep items, IterW W A v H₁ dep items ∧ items.length ≤ sizeLine ∧ ∀ C, CompT W A (compFrm scope cl F C) dep x ifs elt (fun acc H' => ∀ a, H' a = none → StW W A F y (.ref a) ρ (H'.put a (.list true acc)) fun ρ' H'' => Q .next ρ' H'') items [] (compLoc scope F ρ) H₁) :
    ExW W A F (.Assign [.Name y py] (.ListComp elt [⟨.Name x px, iter, ifs, 0⟩] scope pos) spos) ρ H Q := by
  intro s i r f
  rw [exec_Assign_Name_used _ _ _ _ hsw]
  refine wpAny_bind (wpAny_standAt (wpAny_bind ?_))
  show wpAny _ A (do let _ ← comprehension (.ListComp elt [⟨.Name x px, iter, ifs, 0⟩] scope pos) scope F.env _ (newList []) false (eval iter F.env) (some (assign (.Name y py) F.env))) _ _ s
  refine wpAny_bind (wpAny_mono (wpAny_comprehension_free (use := some (assign (.Name y py) F.env)) (Q := fun _ s' => PostF W F H s Q .next s') (E := fun _ _ => False) rfl hs hclos hkind hnames
    (wpAny_mono (h s i r f) (fun xv s₁ ⟨H₁, x₁, dep, items, hit, hz, hct⟩ => wpAny_mono (hit s₁ xv rfl x₁.inv x₁.rel) (fun iv s₂ ⟨I, St, e, itr, hst, hfr, hHI, x₂⟩ => ?_) fun _ _ e => e.elim) fun _ _ e => e)) (fun _ s' hq => wpAny_pure (wpAny_pure hq)) fun _ _ e => e)
  subst e
  have f₁ := f.step x₁
  have hcells : ∀ y c, F.env.cells.lookup y = some c → c < s₁.heap.objs.size := fun y c hc => by
    obtain ⟨⟨v, h1, _⟩, _⟩ := f₁.cells y c hc
    exact h1.lt
  have hFL : F.L < s₁.heap.objs.size := by
    obtain ⟨m, hm, _⟩ := f₁.ns
    exact hm.lt
  refine comp_block (RR := fun acc C => compPost (model W.prog W.w) A (fun _ _ => False) (some (assign (.Name y py) F.env)) (fun _ s' => PostF W F H s Q .next s') acc C) T itr x₂.inv x₂.rel (f₁.step x₂) hst hHI hz (fun y hc => absurd (hcells y I hc) (Nat.not_lt.mpr hfr)) hcell hkind hx hcl hct ?_
  intro acc D C H' s' fl z hsC hsD hne hC hm hHC hHD ha hl q
  obtain ⟨m, hm⟩ := hm
  have x₃ := (x₂.toX (X := fun b => b = C ∨ b = I ∨ b = D)).trans z
  have hX : ∀ b, (b = C ∨ b = I ∨ b = D) → s₁.heap.objs.size ≤ b := by
    rintro b (e | e | e)
    · rw [e]; exact Nat.le_trans x₂.grow hsC
    · rw [e]; exact hfr
    · rw [e]; exact Nat.le_trans x₂.grow hsD
  have x₄ : Step W H s (H'.put D (.list true acc)) s' := x₁.trans (comp_out T x₃ hX hC (hX C (.inl rfl)) (hX D (.inr (.inr rfl))) (Nat.le_trans x₂.inv.size hsD) hne hHC hHD ha hl (h' := s'.heap) ⟨rfl, fun _ _ => rfl⟩)
  show wpAny _ A (assign (.Name y py) F.env (.ref D)) _ _ _
  refine wpAny_assign_Name (wpAny_mono (q D hHD s' (.ref D) rfl x₄.inv x₄.rel (f.step x₄)) (fun _ s₅ ⟨ρ', H'', y₅, fr₅, q₅⟩ => ?_) fun _ _ h => h.elim)
  have hown : ¬ F.own C := by
    rintro (e | ⟨x, e, _⟩)
    · exact absurd hFL (Nat.not_lt.mpr (e ▸ hX C (.inl rfl)))
    · exact absurd (hcells x C e) (Nat.not_lt.mpr (hX C (.inl rfl)))
  have hCn : (H'.put D (.list true acc)) C = none := by unfold AHeap.put; rw [if_neg hne]; exact hHC
  have hC₅ : ∀ o, s'.heap.get? C = some o → s₅.heap.get? C = some o := fun o ho => y₅.keep C o ho (solid_ns hm ho) hCn hown
  have hH₅ : H'' C = none := y₅.hid hm.lt hCn hown
  refine ⟨m, hm.at hC₅, fun h' hs' => ?_⟩
  have t : Touch C s₅ { s₅ with heap := h' } := ⟨fun b o hb hn => (hs'.2 b hn).trans hb, rfl, rfl, by show s₅.heap.objs.size ≤ h'.objs.size; rw [hs'.1]; exact Nat.le_refl _⟩
  have y₆ := t.stepX (X := fun b => F.own b ∨ b = C) T y₅.inv y₅.rel hC hH₅ (.inr rfl)
  have tot := ((x₄.toL.trans y₅).wk (Y := fun b => F.own b ∨ b = C) fun b hb => .inl hb).trans y₆
  refine ⟨ρ', H'', tot.fresh (Y := F.own) fun b hXb => ?_, fr₅.touch t (fun e => hown (.inl e.symm)) (fun x e => absurd (hcells x C e) (Nat.not_lt.mpr (hX C (.inl rfl)))), q₅⟩
  rcases hXb with e | e
  · exact .inl e
  · rw [e]; exact .inr (Nat.le_trans x₁.grow (hX C (.inl rfl)))
end
end Mine
end

section
open PySem PySem.W PyProof.Rows
set_option maxRecDepth 100000
set_option Elab.async false
set_option linter.unusedVariables false
namespace Mine
section
variable {W : Wd} {A : Around} {F : Frm} {ρ : Loc} {H : AHeap} {s : Shared} {Q : Value → AHeap → Prop}
/-- the signs that a slice with a step picks -/
def picks (x : Str) (l u k : Option Int) : Str := ⟨((slicePicked x (l.map (·, 0)) (u.map (·, 0)) (k.map (·, 0))).filterMap (x.cps[·]?)).toArray⟩
theorem ev_slice_step {value st : Expr} {lower upper : Option Expr} {p pos : Pos} (ht : ∀ o r, letTemporaryGo value o r = pure ())
    (h : EvW W A F value ρ H fun v H₁ => ∃ x, v = .str x 0 ∧ PartW W A F lower ρ H₁ fun l H₂ => PartW W A F upper ρ H₂ fun u H₃ => PartW W A F (some st) ρ H₃ fun k H₄ =>
      (k.getD 1 == 0) = false ∧ (k.getD 1 == 1) = false ∧ (picks x l u k).length ≤ sizeLine ∧ Q (.str (picks x l u k) 0) H₄) :
    EvW W A F (.Subscript value (.Slice lower upper (some st) p) pos) ρ H Q := by
  intro s i r f
  refine wpAny_Subscript_Slice_step (T := "str") PySem.F.slot_str_getitem.lookup (wpAny_mono (h s i r f) (fun v s₁ ⟨H₁, x₁, x, e, h₁⟩ => ?_) fun _ _ x => x) ht
  obtain ⟨t, rfl⟩ := norm_str e
  refine wpAny_Slice (wpAny_mono (part_run h₁ x₁.inv x₁.rel (f.step x₁)) (fun vl s₂ ⟨H₂, pl, x₂, el, h₂⟩ => ?_) fun _ _ x => x)
  refine wpAny_mono (part_run h₂ x₂.inv x₂.rel (f.step (x₁.trans x₂))) (fun vu s₃ ⟨H₃, pu, x₃, eu, h₃⟩ => ?_) fun _ _ x => x
  refine wpAny_mono (part_run h₃ x₃.inv x₃.rel (f.step ((x₁.trans x₂).trans x₃))) (fun vk s₄ ⟨H₄, pk, x₄, ek, h0, h1, hz, h₄⟩ => ?_) fun _ _ x => x
  subst el eu ek
  have st := ((x₁.trans x₂).trans x₃).trans (x₄.trans (step_push (o := { cls := .type "slice", data := .fields #[partValue pl, partValue pu, partValue pk] }) x₄.inv x₄.rel))
  refine ⟨typeIs_str _ x t, wpAny_getItem_str_slice (l := pl) (u := pu) (st := pk) ⟨_, Heap.get?_push_size _ rfl, rfl, rfl⟩ h0 ?_⟩
  unfold sliceMade
  rw [h1, Bool.false_and, if_neg (by decide)]
  have key : picks x (pl.map (·.1)) (pu.map (·.1)) (pk.map (·.1)) = ⟨((slicePicked x pl pu pk).filterMap (x.cps[·]?)).toArray⟩ := by
    cases pl <;> cases pu <;> cases pk <;> rfl
  rw [key] at h₄ hz
  exact ⟨hz, H₄, st.toks _, h₄⟩
end
end Mine
end

section
open PySem PySem.W PyProof.Rows
set_option maxRecDepth 100000
set_option Elab.async false
set_option linter.unusedVariables false
namespace Mine
section
variable {W : Wd} {A : Around} {F : Frm} {ρ : Loc} {H : AHeap} {s : Shared} {Q : Value → AHeap → Prop}
/-- a new object that the text sees, others may be made too -/
theorem step_ext_new {h' : Heap} {k : Nat} {a : Addr} {x : AObj} (i : Inv W s) (r : HRel W H s) (hk : ∀ b o, s.heap.get? b = some o → h'.get? b = some o) (hz : s.heap.objs.size ≤ h'.objs.size) (ha : s.heap.objs.size ≤ a) (hx : x.At W { s with heap := h', toks := k } a) (hg : ∀ g c, x = .gen g c → s.gens.size ≤ g := by intro _ _ q; cases q) :
    Step W H s (H.put a x) { s with heap := h', toks := k } :=
  (step_ext (k := k) i r hk hz).put (.inl ha) (fun y hy => by rw [r.none_of (Heap.get?_none_of_le ha)] at hy; cases hy) hg hx
theorem call_list_of_range {p : Addr} {a b : Int} {t u v : Tok} (hA : A.handled = none) (hp : H p = some (.raw (rangeObj a b t u v))) (h1 : -(2 ^ 62) ≤ a) (h2 : a < 2 ^ 62) (h3 : -(2 ^ 62) ≤ b) (h4 : b < 2 ^ 62) (hlen : (b - a).toNat ≤ 2 ^ 24) (hsl : (b - a).toNat ≤ sizeLine)
    (h : ∀ d, H d = none → Q (.ref d) (H.put d (.list true (upTo a b)))) : CallW W A (.type "list") [.ref p] H Q := by
  intro s vs hvs i r
  obtain ⟨x, rfl, hx⟩ := args1 hvs
  rw [norm_ref hx]
  obtain ⟨ho, _⟩ := r p _ hp
  have hsz : Builtin.Range.rangeSize a b 1 = ((b - a).toNat : Int) := by rw [rangeSize_one]; split <;> omega
  refine wpAny_grows (call_list_range (n := (b - a).toNat) hA ho (small_one h1 h2 h3 h4) hsz hlen fun h' tk acc c hk hd hit hz => ?_)
  refine ⟨_, step_ext_new i r hk hz (Nat.le_refl _) (at_new_list (l := upTo a b) hd ?_ ?_ i.size), h _ (fresh_none r)⟩
  · obtain ⟨e1, e2⟩ := hit
    apply List.ext_getElem?
    intro j
    unfold upTo
    rw [List.getElem?_map, List.getElem?_map, Array.getElem?_toList]
    by_cases hj : j < (b - a).toNat
    · have hj' : j < acc.size := by omega
      obtain ⟨t', et⟩ := e2 j acc[j] (Array.getElem?_eq_getElem hj')
      rw [Array.getElem?_eq_getElem hj', List.getElem?_range hj, et, Int.mul_one]
      rfl
    · rw [Array.getElem?_eq_none (by omega), List.getElem?_eq_none (by simp; omega)]
      rfl
  · rw [hit.1]; exact hsl
end
end Mine
end

section
open PySem PySem.W PyProof.Rows
set_option maxRecDepth 100000
set_option Elab.async false
set_option linter.unusedVariables false
namespace Mine
section
variable {W : Wd} {A : Around} {F : Frm} {ρ : Loc} {H : AHeap} {s : Shared} {Q : Value → AHeap → Prop}
theorem items_of_ints : ∀ {vs : List Value} {ns : List Int}, vs.map norm = ns.map (fun n => .int n 0) → ∃ xs : List (Int × Tok), vs = xs.map (fun p => .int p.1 p.2) ∧ xs.map (·.1) = ns
  | vs, [], h => ⟨[], List.map_eq_nil_iff.mp h, rfl⟩
  | vs, n :: ns, h => by
    obtain ⟨v, vs', rfl, h1, h2⟩ := List.map_eq_cons_iff.mp h
    obtain ⟨t, rfl⟩ := norm_int h1
    obtain ⟨xs, rfl, h3⟩ := items_of_ints h2
    exact ⟨(n, t) :: xs, rfl, by simp [h3]⟩
/-- the greatest of a list of ints -/
theorem call_max {l : Addr} {own : Bool} {ns : List Int} (hA : A.handled = none) (hl : H l = some (.list own (ns.map fun n => .int n 0))) (hne : 0 < ns.length) (h : ∀ M, M ∈ ns → (∀ a ∈ ns, a ≤ M) → Q (.int M 0) H) : CallW W A (.builtin "max") [.ref l] H Q := by
  intro s vs hvs i r
  obtain ⟨x, rfl, hx⟩ := args1 hvs
  rw [norm_ref hx]
  obtain ⟨ws, hli, hws, _⟩ := r l _ hl
  obtain ⟨xs, e1, e2⟩ := items_of_ints hws
  have e3 : ws = intItems xs.toArray := by
    apply Array.toList_inj.mp
    rw [e1]; simp [intItems]
  rw [e3] at hli
  have hsz : 0 < xs.toArray.size := by rw [← e2, List.length_map] at hne; simpa using hne
  have e4 : xs.toArray.toList.map (·.1) = ns := by simpa using e2
  refine wpAny_grows (max_intList hA hli hsz fun v h' tk hv hk hz => ?_)
  obtain ⟨t, rfl⟩ := intItems_at hv
  obtain ⟨h1, h2⟩ := argBest_gt (numAt xs.toArray) (xs.toArray.size - 1)
  refine ⟨H, step_ext i r hk hz, h _ ?_ fun a ha => ?_⟩
  · rw [numAt_eq, ← e4]; exact getD_mem (by rw [List.length_map, Array.length_toList]; omega)
  · rw [← e4] at ha
    obtain ⟨j, hj, rfl⟩ := mem_getD ha
    rw [List.length_map, Array.length_toList] at hj
    rw [← numAt_eq]; exact h2 j (by omega)
end
end Mine
end

section
open PySem PySem.W PyProof.Rows
set_option maxRecDepth 100000
set_option Elab.async false
set_option linter.unusedVariables false
namespace Mine

/-- the world between two wakes of a generator: all is kept but X and the generators XG -/
structure Bt (W : Wd) (X : Addr → Prop) (XG : Nat → Prop) (s s' : Shared) : Prop where
  inv : Inv W s'
  keep : ∀ b o, s.heap.get? b = some o → Solid o → ¬ X b → s'.heap.get? b = some o
  grow : s.heap.objs.size ≤ s'.heap.objs.size
  gkeep : ∀ g st, s.gens[g]? = some st → ¬ XG g → s'.gens[g]? = some st
  ggrow : s.gens.size ≤ s'.gens.size

/-- a generator's run: its frame, its consumer's hidden objects X and generators XG, what its consumer sees (Hc), all that it gives (ys) -/
structure GC where
  A : Around
  F : Frm
  N : Nat
  NG : Nat
  X : Addr → Prop
  XG : Nat → Prop
  Hc : AHeap
  ys : List Value

structure GC.Ok (G : GC) : Prop where
  x : ∀ b, G.X b → b < G.N ∧ G.Hc b = none ∧ b ≠ G.F.L
  xg : ∀ g, G.XG g → g < G.NG ∧ ∀ a c, G.Hc a ≠ some (.gen g c)
  own : G.F.L < G.N
  nocell : G.F.env.cells = []

/-- from a wake to now -/
structure Since (G : GC) (s₀ s : Shared) : Prop where
  keep : ∀ b o, b < G.N → s₀.heap.get? b = some o → Solid o → G.Hc b = none → b ≠ G.F.L → s.heap.get? b = some o
  gkeep : ∀ g st, g < G.NG → s₀.gens[g]? = some st → (∀ a c, G.Hc a ≠ some (.gen g c)) → s.gens[g]? = some st
  grow : s₀.heap.objs.size ≤ s.heap.objs.size
  ggrow : s₀.gens.size ≤ s.gens.size
theorem Since.refl {G : GC} {s : Shared} : Since G s s := ⟨fun _ _ _ h _ _ _ => h, fun _ _ _ h _ => h, Nat.le_refl _, Nat.le_refl _⟩

structure GOk (W : Wd) (G : GC) (ρ : Loc) (H : AHeap) (ys : List Value) (s₀ s : Shared) : Prop where
  inv : Inv W s
  rel : HRel W H s
  fr : FRel W G.F ρ H s
  since : Since G s₀ s
  vis : ∀ b x, G.Hc b = some x → (b = G.F.L ∧ x = .gone) ∨ H b = some x
  hid : ∀ b, b < G.N → G.Hc b = none → b ≠ G.F.L → H b = none
  ghid : ∀ a g c, H a = some (.gen g c) → g < G.NG → ∃ a' c', G.Hc a' = some (.gen g c')
  suf : ys <:+ G.ys
  size : G.N ≤ s.heap.objs.size
  gsize : G.NG ≤ s.gens.size

def GC.Pf (W : Wd) (G : GC) (n : Nat) (s₀ s : Shared) : Prop := n = 0 ∧ Inv W s ∧ HRel W G.Hc s ∧ Since G s₀ s
def GC.Y (W : Wd) (G : GC) : Protocol := fun n s₀ v s kap =>
  (∃ k, G.ys[k]? = some (norm v) ∧ k + n + 1 = G.ys.length) ∧ Inv W s ∧ HRel W G.Hc s ∧ Since G s₀ s ∧ ∀ s', Bt W G.X G.XG s s' → kap (.send .none) s'
def SG (W : Wd) (G : GC) (n : Nat) (s₀ : Shared) (c : Code) (t : Sem Fin) (fs : List Frame) (s : Shared) : Prop :=
  Seg (model W.prog W.w) G.A (fun n s₀ r s₁ => r = .ok (.ret .none) ∧ G.Pf W n s₀ s₁) (G.Y W) n s₀ c t fs s

theorem Frm.own_nocell {F : Frm} (h : F.env.cells = []) {b : Addr} : F.own b ↔ b = F.L := by
  unfold Frm.own
  constructor
  · rintro (e | ⟨x, e, _⟩)
    · exact e
    · rw [h] at e; cases e
  · exact .inl
section
variable {W : Wd} {G : GC} {ρ : Loc} {H : AHeap} {ys : List Value} {s₀ s s' : Shared}
theorem GOk.relc (g : GOk W G ρ H ys s₀ s) : HRel W G.Hc s := by
  intro b x hb
  rcases g.vis b x hb with ⟨rfl, rfl⟩ | h
  · obtain ⟨m, hm, _⟩ := g.fr.ns
    obtain ⟨o, es, ep, ho, _⟩ := id hm
    exact ⟨o, ho, solid_ns hm ho⟩
  · exact g.rel b x h
/-- a wake -/
theorem GOk.wake (ok : G.Ok) (g : GOk W G ρ H ys s₀ s) (b : Bt W G.X G.XG s s') : GOk W G ρ H ys s' s' := by
  have nx : ∀ b, H b ≠ none → ¬ G.X b := fun b hb hx => hb (g.hid b (ok.x b hx).1 (ok.x b hx).2.1 (ok.x b hx).2.2)
  refine ⟨b.inv, fun a x hx => (g.rel a x hx).moves (fun o ho so => b.keep a o ho so (nx a (by rw [hx]; intro q; cases q))) (fun j c e hj => b.gkeep j _ hj fun hg => ?_), ?_, .refl, g.vis, g.hid, g.ghid, g.suf, Nat.le_trans g.size b.grow, Nat.le_trans g.gsize b.ggrow⟩
  · subst e
    obtain ⟨a', c', h⟩ := g.ghid a j c hx (ok.xg j hg).1
    exact (ok.xg j hg).2 a' c' h
  · obtain ⟨m, hm, hv⟩ := g.fr.ns
    refine ⟨g.fr.above, ⟨m, hm.at fun o ho => b.keep _ o ho (solid_ns hm ho) fun hx => (ok.x _ hx).2.2 rfl, hv⟩, g.fr.apart, g.fr.kind, g.fr.glob, g.fr.bi, fun x c hc => ?_, g.fr.cinj, g.fr.cdis⟩
    rw [ok.nocell] at hc; cases hc
/-- a step of the frame's own -/
theorem GOk.step {ρ' : Loc} {H' : AHeap} (ok : G.Ok) (g : GOk W G ρ H ys s₀ s) (x : StepL W G.F H s H' s') (f : FRel W G.F ρ' H' s') (hv : ∀ b y, G.Hc b = some y → b = G.F.L ∨ H' b = some y) : GOk W G ρ' H' ys s₀ s' := by
  have own : ∀ {b}, G.F.own b ↔ b = G.F.L := Frm.own_nocell ok.nocell
  refine ⟨x.inv, x.rel, f, ⟨fun b o hb h0 so hc hL => x.keep b o (g.since.keep b o hb h0 so hc hL) so (g.hid b hb hc hL) (fun e => hL (own.mp e)), fun j st hj h0 hn => x.gkeep j st (g.since.gkeep j st hj h0 hn) fun a c e => ?_, Nat.le_trans g.since.grow x.grow, Nat.le_trans g.since.ggrow x.ggrow⟩, fun b y hb => ?_, fun b hb hc hL => x.hid (Nat.lt_of_lt_of_le hb g.size) (g.hid b hb hc hL) (fun e => hL (own.mp e)), fun a j c e hj => ?_, g.suf, Nat.le_trans g.size x.grow, Nat.le_trans g.gsize x.ggrow⟩
  · obtain ⟨a', c', h⟩ := g.ghid a j c e hj
    exact hn a' c' h
  · rcases g.vis b y hb with ⟨e1, e2⟩ | h
    · exact .inl ⟨e1, e2⟩
    · rcases hv b y hb with e | e
      · subst e
        rw [g.fr.apart] at h; cases h
      · exact .inr e
  · rcases x.vw.gdom a j c e with ⟨a', c', h⟩ | h
    · exact g.ghid a' j c' h hj
    · exact absurd hj (Nat.not_lt.mpr (Nat.le_trans g.gsize h))
end

section
variable (W : Wd) (G : GC) (c : Code) (fs : List Frame)
def GK (K : Flow → Sem Fin) (Q : Flow → Loc → AHeap → List Value → Prop) : Prop :=
  ∀ f ρ H ys s₀ s, Q (normF f) ρ H ys → GOk W G ρ H ys s₀ s → SG W G ys.length s₀ c (K f) fs s
/-- a statement of a generator; ys: what is still to be given -/
def ExG (st : Stmt) (ρ : Loc) (H : AHeap) (ys : List Value) (Q : Flow → Loc → AHeap → List Value → Prop) : Prop :=
  ∀ K Hh gd lv s₀ s, gd false = false → GK W G c fs K Q → GOk W G ρ H ys s₀ s → SG W G ys.length s₀ c ((exec st G.F.env).wrap K Hh gd lv) fs s
def ExsG (l : List Stmt) (ρ : Loc) (H : AHeap) (ys : List Value) (Q : Flow → Loc → AHeap → List Value → Prop) : Prop :=
  ∀ K Hh gd lv s₀ s, gd false = false → GK W G c fs K Q → GOk W G ρ H ys s₀ s → SG W G ys.length s₀ c ((execs l G.F.env).wrap K Hh gd lv) fs s
/-- the consumer's things stand -/
def VisOk (H : AHeap) : Prop := ∀ b y, G.Hc b = some y → b = G.F.L ∨ H b = some y
end
section
variable {W : Wd} {G : GC} {c : Code} {fs : List Frame} {ρ : Loc} {H : AHeap} {ys : List Value} {Q : Flow → Loc → AHeap → List Value → Prop}
theorem exg_plain {st : Stmt} (ok : G.Ok) (h : ExW W (G.A.over c fs) G.F st ρ H fun f ρ' H' => VisOk G H' ∧ Q f ρ' H' ys) : ExG W G c fs st ρ H ys Q :=
  fun K Hh gd lv s₀ s hgd hK g => seg_wrap (wpAny_mono (h s g.inv g.rel g.fr) (fun f s' ⟨ρ', H', x, fr, hv, q⟩ => hK f ρ' H' ys s₀ s' q (g.step ok x fr hv)) fun _ _ e => e.elim)
theorem exsg_nil (h : Q .next ρ H ys) : ExsG W G c fs [] ρ H ys Q := fun K Hh gd lv s₀ s hgd hK g => seg_execs_nil (hK .next ρ H ys s₀ s h g)
theorem exsg_cons {st : Stmt} {l : List Stmt} (h : ExG W G c fs st ρ H ys fun f ρ' H' ys' => match f with | .next => ExsG W G c fs l ρ' H' ys' Q | f => Q f ρ' H' ys') : ExsG W G c fs (st :: l) ρ H ys Q :=
  fun K Hh gd lv s₀ s hgd hK g => seg_execs_cons (h _ Hh gd lv s₀ s hgd (fun f ρ' H' ys' s₀' s' q g' => by
    cases f with
    | next => exact q K Hh gd lv s₀' s' hgd hK g'
    | brk => exact hK _ ρ' H' ys' s₀' s' q g'
    | cont => exact hK _ ρ' H' ys' s₀' s' q g'
    | ret v => exact hK _ ρ' H' ys' s₀' s' q g') g)
theorem suf_at {v : Value} {l ys : List Value} (h : (v :: l) <:+ ys) : ∃ k, ys[k]? = some v ∧ k + l.length + 1 = ys.length := by
  obtain ⟨p, rfl⟩ := h
  refine ⟨p.length, ?_, ?_⟩
  · rw [List.getElem?_append_right (Nat.le_refl _)]; simp
  · simp; omega
theorem exg_yield {e : Expr} {ypos pos : Pos} {y : Value} {l : List Value} (ok : G.Ok) (hys : ys = y :: l) (hfs : splitAtGen fs = none) (hfg : fs.any Frame.guarded = false) (hco : G.F.env.scope.isCoroutine = false) (hi : interactive G.F.env = false)
    (h : EvW W (G.A.over c fs) G.F e ρ H fun v H' => VisOk G H' ∧ v = y ∧ Q .next ρ H' l) : ExG W G c fs (.Expr (.Yield (some e) ypos) pos) ρ H ys Q := by
  subst hys
  intro K Hh gd lv s₀ s hgd hK g
  refine seg_Expr_Yield hfs hgd hfg (wpAny_mono (h s g.inv g.rel g.fr) (fun v s' ⟨H', x, hv, e, q⟩ => ?_) fun _ _ e => e.elim) hco hi
  intro kap hkap
  subst e
  have g' := g.step ok x.toL (g.fr.step x) hv
  obtain ⟨k, hk1, hk2⟩ := suf_at g'.suf
  refine ⟨⟨k, hk1, hk2⟩, g'.inv, g'.relc, g'.since, fun s'' hb => ?_⟩
  have g'' := g'.wake ok hb
  exact hkap .none s'' (hK .next ρ H' l s'' s'' q { g'' with suf := (List.suffix_cons _ _).trans g'.suf })
theorem exg_if {test : Expr} {body orelse : List Stmt} {pos : Pos} (ok : G.Ok) (h : TsW W (G.A.over c fs) G.F test ρ H fun b H' => VisOk G H' ∧ if b then ExsG W G c fs body ρ H' ys Q else ExsG W G c fs orelse ρ H' ys Q) : ExG W G c fs (.If test body orelse pos) ρ H ys Q := by
  intro K Hh gd lv s₀ s hgd hK g
  unfold SG
  rw [exec_If]
  show Seg _ _ _ _ _ _ _ (.at pos fun _ => (isTrue test G.F.env (eval test G.F.env) >>= fun b => if b = true then execs body G.F.env else execs orelse G.F.env).wrap K Hh gd lv) fs s
  refine seg_at ?_
  rw [Sem.bind_eq_wrap', Sem.wrap_wrap]
  refine seg_wrap (wpAny_mono (h s g.inv g.rel g.fr) (fun b s' ⟨H', x, hv, q⟩ => ?_) fun _ _ e => e.elim)
  have g' := g.step ok x.toL (g.fr.step x) hv
  cases b with
  | true => exact q K Hh gd lv s₀ s' hgd hK g'
  | false => exact q K Hh gd lv s₀ s' hgd hK g'
end
end Mine
end

section
open PySem PySem.W PyProof.Rows
set_option maxRecDepth 100000
set_option Elab.async false
set_option linter.unusedVariables false
namespace Mine
section
variable {prog : Program} {w : World} {A : Around} {E : Value → Shared → Prop} {s : Shared}
/-- the next item of a def's generator (or of an expression's, fin = next); what is left behind has no cleanup -/
theorem next_gen {a : Addr} {g n : Nat} {gs : GenState} {fin : Flow} {P : Nat → Shared → Shared → Prop} {Y : Protocol} {Q : Option Value → Shared → Prop} (hfin : fin = .next ∨ fin = .ret .none) (hh : A.handled = none)
    (hl : s.heap.NoLimit) (hroom : A.depth < recursionLimit)
    (hg : s.heap.IsGen a g) (hgs : s.gens[g]? = some gs)
    (hgo : gs.Goes (model prog w) A.in1 (fun n s₀ r s₁ => r = .ok fin ∧ P n s₀ s₁) Y n (.send .none) (s.setGen g .running))
    (hY : ∀ v s₁ gs', gs'.bare = true → Y (n - 1) (s.setGen g .running) v s₁ (fun r' s'' => match n with
        | 0 => False
        | m + 1 => gs'.Goes (model prog w) A.in1 (fun n s₀ r s₁ => r = .ok fin ∧ P n s₀ s₁) Y m r' s'') → Q (some v) (s₁.setGen g gs'))
    (hP : ∀ s₁, P n (s.setGen g .running) s₁ → ∀ h', (∀ b o, s₁.heap.get? b = some o → h'.get? b = some o) → s₁.heap.objs.size ≤ h'.objs.size → Q none { s₁.setGen g .finished with heap := h' }) :
    wpAny (model prog w) A (pyNext (.ref a)) Q E s := by
  unfold pyNext
  refine wpAny_bind (wpAny_attempt (wpAny_callSpecial?_slot (name := Str.ofString "__next__") hg.typeIs slot_gen_next
    (wpAny_call_entry slot_gen_next hg.typeIs entry_gen_next ?_ (args_gen_next _))))
  show wpAny _ A.in1 (Builtin.Generator.genWake (.ref a) (.send .none)) _ _ s
  unfold Builtin.Generator.genWake
  refine wpAny_bind (wpAny_holding (wpAny_genNumber hg (wpAny_bind (wpAny_genState hgs ?_))))
  cases gs with
  | running => exact hgo.elim
  | finished => exact hgo.elim
  | _ =>
    refine wpAny_bind (wpAny_roomToWake hl hroom ?_)
    show wpAny _ A.in1 (.resume g (.send .none) [] _) _ _ s
    refine wpAny_resumeQ hgs hgo (fun x s₁ hx => ?_) (fun v s₁ gs' hb hv => ?_)
    · obtain ⟨rfl, hp⟩ := hx
      rcases hfin with rfl | rfl
      all_goals
        show wpAny _ A.in1 (newExc (.type "StopIteration") [] >>= _) _ _ _
        refine wpAny_bind ?_
        simp only [newExc, newTuple]
        refine wpAny_bind (wpAny_newObj_type ?_ (by size_fits))
        refine wpAny_bind (m := firstArgMember _ _) (wpAny_of_eq (a := Value.none) (by first | rfl | (simp only [firstArgMember]; rfl)) ?_)
        refine wpAny_newObj_type ?_ (by size_fits)
        simp only [raiseNew]
        refine wpAny_bind (wpAny_bind (wpAny_handled ?_))
        first | rw [show A.in1.handled = none from hh] | rw [hh]
        refine wpAny_throw ?_
        refine wpAny_bind (wpAny_isInstance (T := "StopIteration") (b := true) ⟨_, Heap.get?_push_size _ rfl, rfl⟩ isSubtype_stop ?_)
        exact wpAny_pure (hP s₁ hp _ (fun b o hb => Heap.get?_push_of_some _ (Heap.get?_push_of_some _ hb)) (by
          have : s₁.heap.objs.size ≤ ((s₁.setGen g GenState.finished).heap.objs.size) := Nat.le_refl _
          simp only [Heap.size_push]; omega))
    · exact wpAny_pure ⟨v, rfl, wpAny_pure (hY v s₁ gs' hb hv)⟩
end

/-- a generator that is gone through: St l s: l is still to come; X: its consumer's own objects -/
structure GWalk (W : Wd) (A : Around) (I : Addr) (X : Addr → Prop) (St : List Value → Shared → Prop) (Fin : Shared → Prop) : Prop where
  typ : ∀ l s, St l s → s.TypeIs (.ref I) "generator"
  next : ∀ v l s, St (v :: l) s → wpAny (model W.prog W.w) A (pyNext (.ref I)) (fun r s' => ∃ x, r = some x ∧ norm x = v ∧ St l s' ∧ ∀ b o, X b → s.heap.get? b = some o → Solid o → s'.heap.get? b = some o) (fun _ _ => False) s
  stop : ∀ s, St [] s → wpAny (model W.prog W.w) A (pyNext (.ref I)) (fun r s' => r = none ∧ Fin s' ∧ ∀ b o, X b → s.heap.get? b = some o → Solid o → s'.heap.get? b = some o) (fun _ _ => False) s
  self : ∀ l s (P : Value → Shared → Prop) (E : Value → Shared → Prop), St l s → P (.ref I) s → wpAny (model W.prog W.w) A (pyIter (.ref I)) P E s
  frame : ∀ l s a h' tk, St l s → X a → Heap.SameBut a s.heap h' → St l { s with heap := h', toks := tk }
theorem GWalk.of_in1 {W : Wd} {A : Around} {I : Addr} {X : Addr → Prop} {St : List Value → Shared → Prop} {Fin : Shared → Prop} (g : GWalk W A.in1 I X St Fin) : GWalk W A I X St Fin :=
  ⟨g.typ, fun v l s h => wpAny_of_in1 (g.next v l s h), fun s h => wpAny_of_in1 (g.stop s h), fun l s P E h hP => wpAny_of_in1 (g.self l s P E h hP), g.frame⟩

section
variable {W : Wd} {A : Around} {I : Addr} {S : Addr} {St : List Value → Shared → Prop} {Fin : Shared → Prop} {s : Shared} {R : Result → Shared → Prop}

theorem extend_loop (g : GWalk W A.in1 I (· = S) St Fin) (res : Value) : ∀ (l : List Value) (s : Shared) (acc : Array Value) (c : Nat), acc.size + l.length ≤ sizeLine → St l s → s.heap.get? S = some { cls := .type "list", dict := none, data := .seq acc c, slots := #[] } →
    (∀ s' acc' c', Fin s' → s'.heap.get? S = some { cls := .type "list", dict := none, data := .seq acc' c', slots := #[] } → acc'.toList.map norm = acc.toList.map norm ++ l → R (.ok (.ret res)) s') →
    codeAny (model W.prog W.w) A (.builtin "list.extend.loop" ⟨[.ref S, .ref I, res], []⟩) R s
  | [], s, acc, c, hz, hst, hS, hR => by
    refine codeAny_builtin F.entry_extend_loop ?_
    rw [Around.under_plainId F.plain_extend_loop _]
    show wpAny _ A.in1 (pyNext (.ref I) >>= _) _ _ s
    refine wpAny_bind (wpAny_mono (g.stop s hst) (fun r s' ⟨e, hf, hk⟩ => ?_) fun _ _ e => e.elim)
    subst e
    exact wpAny_pure (hR s' acc c hf (hk S _ rfl hS (solid_cls rfl)) (by simp))
  | v :: l, s, acc, c, hz, hst, hS, hR => by
    refine codeAny_builtin F.entry_extend_loop ?_
    rw [Around.under_plainId F.plain_extend_loop _]
    show wpAny _ A.in1 (pyNext (.ref I) >>= _) _ _ s
    refine wpAny_bind (wpAny_mono (g.next v l s hst) (fun r s' ⟨x, e, hv, hst', hk⟩ => ?_) fun _ _ e => e.elim)
    subst e
    have hS' := hk S _ rfl hS (solid_cls rfl)
    show wpAny _ A.in1 (updateSeq S (·.push x) >>= _) _ _ _
    simp only [List.length_cons] at hz
    refine wpAny_bind ?_
    refine wpAny_updateSeq hS' rfl (wpAny_pure ⟨plainId_quiet F.plain_extend_loop _, extend_loop g res l _ (acc.push x) _ (by rw [Array.size_push]; omega) (g.frame l s' S _ s'.toks hst' rfl (Heap.SameBut.update ..)) (Heap.get?_update_self _ hS' rfl) fun s'' acc' c' hf hS'' hacc => hR s'' acc' c' hf hS'' ?_⟩)
      (by omega) (by show (acc.push x).size ≤ sizeLine + 1; rw [Array.size_push]; omega)
    rw [hacc, Array.toList_push, List.map_append, ← hv, List.append_assoc]; rfl

theorem extend_gen (g : GWalk W A.in1 I (· = S) St Fin) {l : List Value} (res : Value) (c₀ : Nat) (hst : St l s) (hSI : S ≠ I) (hS : s.heap.get? S = some { cls := .type "list", data := .seq #[] c₀ }) (hn : l.length ≤ sizeLine)
    (hR : ∀ s' acc' c', Fin s' → s'.heap.get? S = some { cls := .type "list", dict := none, data := .seq acc' c', slots := #[] } → acc'.toList.map norm = l → R (.ok (.ret res)) s') :
    wpAny (model W.prog W.w) A.in1 (Builtin.List.listExtendWith (.ref S) (.ref I) res)
      (fun fin s' => match fin with | .done f => R (.ok f) s' | .again c' => c'.quiet = true ∧ codeAny (model W.prog W.w) A c' R s') (fun e s' => R (.error e) s') s := by
  unfold Builtin.List.listExtendWith
  refine wpAny_bind (wpAny_typeOf (g.typ _ _ hst) ?_)
  have h1 : Builtin.List.listSameRef (.ref S) (.ref I) = false := by simp [Builtin.List.listSameRef, hSI]
  have h2 : (Value.type "generator" == Value.type "list") = false := by decide
  have h3 : (Value.type "generator" == Value.type "tuple") = false := by decide
  simp only [h1, h2, h3, Bool.or_false, Bool.false_eq_true, if_false]
  refine wpAny_bind (g.self _ _ _ _ hst ?_)
  refine wpAny_bind (wpAny_holding ?_)
  unfold Builtin.List.listLengthHint
  refine wpAny_bind (wpAny_specialOf (g.typ _ _ hst) F.gen_no_len ?_)
  show wpAny _ A.in1 (specialOf (Value.ref I) (Str.ofString "__length_hint__") >>= _) _ _ _
  refine wpAny_bind (wpAny_specialOf (g.typ _ _ hst) F.gen_no_hint ?_)
  refine wpAny_pure ?_
  show wpAny _ A.in1 (rule "list.extend.makes-room" >>= fun _ => Builtin.List.listTouch (.ref S) >>= fun _ =>
    again (.builtin "list.extend.loop" ⟨[.ref S, .ref I, res], []⟩)) _ _ _
  refine wpAny_bind (wpAny_rule ?_)
  refine wpAny_bind ?_
  show wpAny _ A.in1 (updateSeq S (·.push .none) >>= fun _ => updateSeq S (·.pop)) _ _ _
  refine wpAny_bind (wpAny_updateSeq hS rfl ?_)
  have hS₂ := Heap.get?_update_self (Obj.mapSeq (·.push Value.none)) hS rfl
  refine wpAny_updateSeq (hz := by seq_fits) hS₂ rfl ?_
  have hS₃ := Heap.get?_update_self (Obj.mapSeq (·.pop)) hS₂ rfl
  have sb : Heap.SameBut S s.heap ((s.heap.update S (Obj.mapSeq (·.push Value.none))).update S (Obj.mapSeq (·.pop))) :=
    ⟨by simp only [size_upd], fun b hb => (Heap.get?_update_other _ _ (Ne.symm hb)).trans (Heap.get?_update_other _ _ (Ne.symm hb))⟩
  exact wpAny_pure ⟨plainId_quiet F.plain_extend_loop _, extend_loop g _ l _ _ _ (by simpa using hn) (g.frame l s S _ s.toks hst rfl sb) hS₃ fun s' acc' c' hf hS' hacc => hR s' acc' c' hf hS' (by simpa using hacc)⟩

/-- list(generator) -/
theorem list_of_gen {l : List Value} {Q : Value → Shared → Prop} (hS : S = s.heap.objs.size) (g : GWalk W A.in1.in1 I (· = S) St Fin) (hst : St l { s with heap := s.heap.push { cls := .type "list", data := .seq #[] } }) (hSI : S ≠ I) (hn : l.length ≤ sizeLine)
    (hQ : ∀ s' acc' c', Fin s' → s'.heap.get? S = some { cls := .type "list", dict := none, data := .seq acc' c', slots := #[] } → acc'.toList.map norm = l → Q (.ref S) s') :
    wpAny (model W.prog W.w) A (PySem.call (.type "list") [.ref I]) Q (fun _ _ => False) s := by
  subst hS
  refine callType_codes (Q₁ := fun obj s₁ => obj = .ref s.heap.objs.size ∧ s₁ = { s with heap := s.heap.push { cls := .type "list", data := .seq #[] } }) F.called_list (F.typeCall_list_1 _) F.entry_list_init
    (code_list_new _ ⟨rfl, rfl⟩) fun obj s₁ h₁ => ?_
  obtain ⟨rfl, rfl⟩ := h₁
  have hS : (s.heap.push { cls := .type "list", data := .seq #[] }).get? s.heap.objs.size = some { cls := .type "list", data := .seq #[] } := Heap.get?_push_size _ rfl
  refine ⟨⟨_, hS, rfl⟩, F.args_list_init_2 _ _, ?_⟩
  show wpAny _ A.in1.in1 (do let old ← Builtin.List.listItems (.ref s.heap.objs.size); Builtin.List.listUpdate (.ref s.heap.objs.size) (fun _ => #[]); letGo old.toList.reverse; Builtin.List.listExtendWith (.ref s.heap.objs.size) (.ref I) .none) _ _ _
  refine wpAny_bind ?_
  unfold Builtin.List.listItems
  refine wpAny_bind (wpAny_seqItems hS rfl (wpAny_pure ?_))
  show wpAny _ A.in1.in1 (updateSeq s.heap.objs.size (fun _ => #[]) >>= fun _ => letGo (#[] : Array Value).toList.reverse >>= fun _ => Builtin.List.listExtendWith (.ref s.heap.objs.size) (.ref I) .none) _ _ _
  refine wpAny_bind (wpAny_updateSeq hS rfl ?_)
  have hS₂ := Heap.get?_update_self (Obj.mapSeq (fun _ => (#[] : Array Value))) hS rfl
  refine wpAny_bind (wpAny_letGo ?_)
  refine extend_gen (A := A.in1) (s := { s with heap := (s.heap.push { cls := .type "list", data := .seq #[] }).update s.heap.objs.size (Obj.mapSeq (fun _ => #[])) }) g .none _ (g.frame l { s with heap := s.heap.push { cls := .type "list", data := .seq #[] } } s.heap.objs.size _ s.toks hst rfl (Heap.SameBut.update ..)) hSI hS₂ hn fun s' acc' c' hf hS' hacc => ⟨rfl, hQ s' acc' c' hf hS' hacc⟩
end
end Mine
end

section
open PySem PySem.W PyProof.Rows
set_option maxRecDepth 100000
set_option Elab.async false
set_option linter.unusedVariables false
namespace Mine

/-- a generator with code c, frame F and names ρ, woken where H is seen (F's own names hidden), gives ys -/
def Drains (W : Wd) (A : Around) (c : Code) (F : Frm) (ρ : Loc) (H : AHeap) (ys : List Value) : Prop :=
  ∀ G s, G.A = A → G.F = F → G.ys = ys → G.Ok → GOk W G ρ H ys s s → SG W G ys.length s c ((model W.prog W.w).den c) [] s

theorem inv_setGen {W : Wd} {s : Shared} {g : Nat} {x : GenState} (i : Inv W s) (hx : x.bare = true) : Inv W (s.setGen g x) := by
  refine ⟨i.old, i.stat, i.os, fun y hy => ?_, i.size, i.tabs⟩
  unfold Shared.setGen at hy
  obtain ⟨j, hj, rfl⟩ := Array.mem_iff_getElem.mp hy
  simp only [Array.size_setIfInBounds] at hj
  rw [Array.getElem_setIfInBounds hj]
  split
  · exact hx
  · exact i.bare _ (Array.getElem_mem hj)
theorem setGen_ne {s : Shared} {g j : Nat} {x : GenState} (h : j ≠ g) : (s.setGen g x).gens[j]? = s.gens[j]? := by
  unfold Shared.setGen
  exact Array.getElem?_setIfInBounds_ne (Ne.symm h)
theorem setGen_size {s : Shared} {g : Nat} {x : GenState} : (s.setGen g x).gens.size = s.gens.size := by
  unfold Shared.setGen
  exact Array.size_setIfInBounds
theorem setGen_at {s : Shared} {g : Nat} {x y : GenState} (h : s.gens[g]? = some y) : (s.setGen g x).gens[g]? = some x := by
  have := (Array.getElem?_eq_some_iff.mp h).1
  unfold Shared.setGen
  simp [this]
theorem bt_setGen {W : Wd} {X : Addr → Prop} {XG : Nat → Prop} {s : Shared} {g : Nat} {x : GenState} (i : Inv W s) (hx : x.bare = true) (hg : XG g) : Bt W X XG s (s.setGen g x) :=
  ⟨inv_setGen i hx, fun _ _ h _ _ => h, Nat.le_refl _, fun j st h hn => by rw [setGen_ne (show j ≠ g from fun e => hn (by rw [e]; exact hg))]; exact h, by rw [setGen_size]; exact Nat.le_refl _⟩
theorem Bt.trans {W : Wd} {X : Addr → Prop} {XG : Nat → Prop} {s s₁ s₂ : Shared} (x : Bt W X XG s s₁) (y : Bt W X XG s₁ s₂) : Bt W X XG s s₂ :=
  ⟨y.inv, fun b o h so hn => y.keep b o (x.keep b o h so hn) so hn, Nat.le_trans x.grow y.grow, fun j st h hn => y.gkeep j st (x.gkeep j st h hn) hn, Nat.le_trans x.ggrow y.ggrow⟩
theorem hrel_setGen {W : Wd} {H : AHeap} {s : Shared} {g : Nat} {x : GenState} (r : HRel W H s) (hn : ∀ a c, H a ≠ some (.gen g c)) : HRel W H (s.setGen g x) :=
  fun a y hy => (r a y hy).moves (fun o ho _ => ho) fun j c e hj => by
    rw [setGen_ne (fun q => hn a c (by rw [hy, e, q]))]; exact hj

/-- from the start of a run to now -/
structure Tot (G : GC) (s₀ s : Shared) : Prop where
  keep : ∀ b o, b < G.N → s₀.heap.get? b = some o → Solid o → G.Hc b = none → b ≠ G.F.L → ¬ G.X b → s.heap.get? b = some o
  gkeep : ∀ g st, g < G.NG → s₀.gens[g]? = some st → (∀ a c, G.Hc a ≠ some (.gen g c)) → ¬ G.XG g → s.gens[g]? = some st
  grow : s₀.heap.objs.size ≤ s.heap.objs.size
  ggrow : s₀.gens.size ≤ s.gens.size
theorem Tot.refl {G : GC} {s : Shared} : Tot G s s := ⟨fun _ _ _ h _ _ _ _ => h, fun _ _ _ h _ _ => h, Nat.le_refl _, Nat.le_refl _⟩
theorem Tot.since {G : GC} {s₀ s s' : Shared} (t : Tot G s₀ s) (x : Since G s s') : Tot G s₀ s' :=
  ⟨fun b o hb h so hc hL hX => x.keep b o hb (t.keep b o hb h so hc hL hX) so hc hL, fun j st hj h hn hx => x.gkeep j st hj (t.gkeep j st hj h hn hx) hn, Nat.le_trans t.grow x.grow, Nat.le_trans t.ggrow x.ggrow⟩
theorem Tot.bt {W : Wd} {G : GC} {s₀ s s' : Shared} (t : Tot G s₀ s) (x : Bt W G.X G.XG s s') : Tot G s₀ s' :=
  ⟨fun b o hb h so hc hL hX => x.keep b o (t.keep b o hb h so hc hL hX) so hX, fun j st hj h hn hx => x.gkeep j st (t.gkeep j st hj h hn hx) hx, Nat.le_trans t.grow x.grow, Nat.le_trans t.ggrow x.ggrow⟩

/-- the state of a generator that is gone through -/
structure GSt (W : Wd) (G : GC) (I : Addr) (g : Nat) (s₀ : Shared) (l : List Value) (s : Shared) : Prop where
  isGen : s.heap.IsGen I g
  inv : Inv W s
  rel : HRel W G.Hc s
  tot : Tot G s₀ s
  suf : l <:+ G.ys
  size : G.N ≤ s.heap.objs.size
  gsize : G.NG ≤ s.gens.size
  go : ∃ gs, s.gens[g]? = some gs ∧ ∀ s', Bt W G.X G.XG s s' → gs.Goes (model W.prog W.w) G.A (fun n s₀ r s₁ => r = .ok (.ret .none) ∧ G.Pf W n s₀ s₁) (G.Y W) l.length (.send .none) s'

theorem gwalk_of {W : Wd} {A : Around} {G : GC} {I : Addr} {g : Nat} {o : Obj} {s₀ : Shared} (T : TopOk W) (hGA : G.A = A.in1) (hA : A.handled = none) (hroom : A.depth < recursionLimit) (ok : G.Ok) (hI : G.Hc I = some (.raw o)) (hXG : G.XG g) (hX : ∀ b, G.X b → W.h₁.objs.size ≤ b) :
    GWalk W A I G.X (GSt W G I g s₀) (fun s' => Inv W s' ∧ HRel W G.Hc s' ∧ Tot G s₀ s') := by
  have hng : ∀ a c, G.Hc a ≠ some (.gen g c) := (ok.xg g hXG).2
  have hlt := (ok.xg g hXG).1
  refine ⟨fun l s h => h.isGen.typeIs, fun v l s h => ?_, fun s h => ?_, fun l s P E h hP => wpAny_pyIter_gen h.isGen hP, fun l s a h' tk h ha hs => ?_⟩
  · obtain ⟨gs, hgs, hgo⟩ := h.go
    have run := bt_setGen (X := G.X) (x := .running) h.inv rfl hXG
    have hgo' := hgo _ run
    rw [hGA] at hgo'
    refine next_gen (fin := .ret .none) (.inr rfl) hA (h.inv.nolimit T) hroom h.isGen hgs hgo' (fun v' s₂ gs' hb hy => ?_) (fun s₂ hp => ?_)
    · obtain ⟨⟨k, hk1, hk2⟩, i₂, r₂, sn, hk⟩ := hy
      have e1 : l.length + 1 - 1 = l.length := rfl
      simp only [List.length_cons, Nat.add_sub_cancel] at hk2
      obtain ⟨k', hk1', hk2'⟩ := suf_at h.suf
      have ek : k = k' := by omega
      subst ek
      rw [hk1] at hk1'
      have hrun : s₂.gens[g]? = some .running := sn.gkeep g _ hlt (setGen_at hgs) hng
      have b₂ := bt_setGen (X := G.X) (x := gs') i₂ hb hXG
      refine ⟨v', rfl, Option.some.inj hk1', ⟨?_, b₂.inv, hrel_setGen r₂ hng, ((h.tot.bt run).since sn).bt b₂, (List.suffix_cons _ _).trans h.suf, ?_, ?_, gs', setGen_at hrun, fun s' hs' => ?_⟩, fun b o hXb ho so => ?_⟩
      · obtain ⟨o', nm, qn, ho', r⟩ := h.isGen
        have e := (h.rel I _ hI).1
        rw [ho'] at e; cases e
        exact ⟨_, nm, qn, (r₂ I _ hI).1, r⟩
      · exact Nat.le_trans h.size (Nat.le_trans (Nat.le_refl _) sn.grow)
      · rw [setGen_size]; exact Nat.le_trans h.gsize (Nat.le_trans (by rw [setGen_size]; exact Nat.le_refl _) sn.ggrow)
      · have := hk s' (b₂.trans hs')
        rw [hGA]
        exact this
      · exact sn.keep b o (ok.x b hXb).1 ho so (ok.x b hXb).2.1 (ok.x b hXb).2.2
    · exact absurd hp.1 (Nat.succ_ne_zero _)
  · obtain ⟨gs, hgs, hgo⟩ := h.go
    have run := bt_setGen (X := G.X) (x := .running) h.inv rfl hXG
    have hgo' := hgo _ run
    rw [hGA] at hgo'
    refine next_gen (fin := .ret .none) (.inr rfl) hA (h.inv.nolimit T) hroom h.isGen hgs hgo' (fun v' s₂ gs' hb hy => ?_) (fun s₂ hp h' hk hz => ?_)
    · obtain ⟨⟨k, hk1, hk2⟩, _, _, _, hk⟩ := hy
      have b₂ := bt_setGen (X := G.X) (x := gs') (by assumption) hb hXG
      exact (hk _ b₂).elim
    · obtain ⟨_, i₂, r₂, sn⟩ := hp
      have b₂ := bt_setGen (X := G.X) (x := .finished) i₂ rfl hXG
      have st := step_ext (H := G.Hc) (k := s₂.toks) b₂.inv (hrel_setGen r₂ hng) (h' := h') hk hz
      refine ⟨rfl, ⟨st.inv, st.rel, ((h.tot.bt run).since sn).bt (b₂.trans ⟨st.inv, fun b o hb _ _ => hk b o hb, hz, fun _ _ h _ => h, Nat.le_refl _⟩)⟩, fun b o hXb ho so => hk b o (sn.keep b o (ok.x b hXb).1 ho so (ok.x b hXb).2.1 (ok.x b hXb).2.2)⟩
  · have st := step_same (X := G.X) (k := tk) T h.inv h.rel (hX a ha) (ok.x a ha).2.1 ha hs
    have bt : Bt W G.X G.XG s { s with heap := h', toks := tk } := ⟨st.inv, fun b o hb so hn => (hs.2 b (fun e => hn (e ▸ ha))).trans hb, st.grow, fun _ _ h _ => h, Nat.le_refl _⟩
    obtain ⟨gs, hgs, hgo⟩ := h.go
    have hne : I ≠ a := by rintro rfl; rw [(ok.x _ ha).2.1] at hI; cases hI
    exact ⟨h.isGen.sameBut hs hne, st.inv, st.rel, h.tot.bt bt, h.suf, Nat.le_trans h.size st.grow, h.gsize, gs, hgs, fun s' hs' => hgo s' (bt.trans hs')⟩

def AHeap.del (H : AHeap) (a : Addr) : AHeap := fun b => if b = a then none else H b
theorem AHeap.del_self (H : AHeap) (a : Addr) : H.del a a = none := if_pos rfl
theorem AHeap.del_ne {H : AHeap} {a b : Addr} (h : b ≠ a) : H.del a b = H b := if_neg h

section
variable {W : Wd} {A : Around} {F : Frm} {ρ : Loc} {H : AHeap} {s : Shared} {Q : Value → AHeap → Prop}
/-- list(generator) -/
theorem call_list_gen {b : Addr} {g : Nat} {c : Code} {ys : List Value} (T : TopOk W) (hA : A.handled = none) (hroom : A.depth < recursionLimit) (hb : H b = some (.gen g c)) (hu : ∀ a c', H a = some (.gen g c') → a = b) (hL : H F.L = some (.frm ρ))
    (hF : F.env.cells = [] ∧ F.scope.kind = .function ∧ F.env.globals = mainGlobals ∧ F.env.builtins = builtinsNs) (hn : ys.length ≤ sizeLine)
    (hd : ∀ o, Drains W A.in1.in1.in1 c F ρ ((H.put b (.raw o)).del F.L) ys)
    (h : ∀ d, H d = none → Q (.ref d) (((H.put b .gone).put F.L .gone).put d (.list true ys))) : CallW W A (.type "list") [.ref b] H Q := by
  intro s vs hvs i r
  obtain ⟨x, rfl, hx⟩ := args1 hvs
  rw [norm_ref hx]
  obtain ⟨⟨o, nm, qn, ho, hoc, hod⟩, hg⟩ := r b _ hb
  obtain ⟨hLa, m, hm, hmρ⟩ := r F.L _ hL
  have hLb : F.L ≠ b := fun e => by rw [e, hb] at hL; cases hL
  have hbs : b < s.heap.objs.size := Heap.lt_size ho
  have hLs : F.L < s.heap.objs.size := hm.lt
  have hSn : H s.heap.objs.size = none := fresh_none r
  have hglt : g < s.gens.size := (Array.getElem?_eq_some_iff.mp hg).1
  let G : GC := ⟨A.in1.in1.in1, F, s.heap.objs.size + 1, s.gens.size, (· = s.heap.objs.size), (· = g), (H.put b (.raw o)).put F.L .gone, ys⟩
  have hcS : G.Hc s.heap.objs.size = none := by
    show ((H.put b (.raw o)).put F.L .gone) _ = none
    rw [AHeap.put_ne (Nat.ne_of_gt hLs), AHeap.put_ne (Nat.ne_of_gt hbs)]; exact hSn
  have hcI : G.Hc b = some (.raw o) := by
    show ((H.put b (.raw o)).put F.L .gone) _ = _
    rw [AHeap.put_ne (Ne.symm hLb), AHeap.put_self]
  have hcL : G.Hc F.L = some .gone := AHeap.put_self ..
  have hcn : ∀ a, a ≠ F.L → a ≠ b → G.Hc a = H a := fun a h1 h2 => by
    show ((H.put b (.raw o)).put F.L .gone) _ = _
    rw [AHeap.put_ne h1, AHeap.put_ne h2]
  have hcg : ∀ a j c', G.Hc a = some (.gen j c') → H a = some (.gen j c') ∧ a ≠ b := fun a j c' e => by
    by_cases h1 : a = F.L
    · rw [h1, hcL] at e; cases e
    · by_cases h2 : a = b
      · rw [h2, hcI] at e; cases e
      · rw [hcn a h1 h2] at e; exact ⟨e, h2⟩
  have hng : ∀ a c', G.Hc a ≠ some (.gen g c') := fun a c' e => (hcg a g c' e).2 (hu a c' (hcg a g c' e).1)
  have ok : G.Ok := by
    refine ⟨fun a e => ?_, fun j e => ?_, Nat.lt_succ_of_lt hLs, hF.1⟩
    · have e' : a = s.heap.objs.size := e
      subst e'
      exact ⟨Nat.lt_succ_self _, hcS, Nat.ne_of_gt hLs⟩
    · have e' : j = g := e
      subst e'
      exact ⟨hglt, hng⟩
  have st₁ : Step W H s H { s with heap := s.heap.push { cls := .type "list", data := .seq #[] } } := step_push i r
  have rc : HRel W G.Hc { s with heap := s.heap.push { cls := .type "list", data := .seq #[] } } := by
    intro a y hy
    by_cases h1 : a = F.L
    · subst h1; rw [hcL] at hy; cases hy
      exact (st₁.rel _ _ hL).cls
    · by_cases h2 : a = b
      · subst h2; rw [hcI] at hy; cases hy
        exact ⟨Heap.get?_push_of_some _ ho, solid_cls hoc⟩
      · rw [hcn a h1 h2] at hy; exact st₁.rel a y hy
  have gst : GSt W G b g { s with heap := s.heap.push { cls := .type "list", data := .seq #[] } } ys { s with heap := s.heap.push { cls := .type "list", data := .seq #[] } } := by
    refine ⟨⟨o, nm, qn, Heap.get?_push_of_some _ ho, hoc, hod⟩, st₁.inv, rc, .refl, List.suffix_refl _, ?_, Nat.le_refl _, _, hg, fun s' bt => ⟨rfl, hd o G s' rfl rfl rfl ok ?_⟩⟩
    · show s.heap.objs.size + 1 ≤ (s.heap.push _).objs.size
      rw [Heap.size_push]; exact Nat.le_refl _
    have nX : ∀ a, a < s.heap.objs.size → ¬ G.X a := fun a ha e => Nat.ne_of_lt ha e
    have mv : ∀ a y, H a = some y → a ≠ b → y.At W s' a := fun a y hy hab => by
      obtain ⟨oa, hoa, hsa⟩ := (r a y hy).cls
      refine (st₁.rel a y hy).moves (fun o' ho' so => bt.keep a o' ho' so (nX a (Heap.lt_size hoa))) (fun j c' e hj => bt.gkeep j _ hj fun q => ?_)
      have q' : j = g := q
      subst q'
      subst e
      exact hab (hu a c' hy)
    refine ⟨bt.inv, fun a y hy => ?_, ⟨hLa, ⟨m, hm.at fun o' ho' => bt.keep _ o' (Heap.get?_push_of_some _ ho') (solid_ns hm ho') (nX _ hLs), fun y _ => hmρ y⟩, AHeap.del_self .., hF.2.1, hF.2.2.1, hF.2.2.2, fun y d hd' => (by rw [hF.1] at hd'; cases hd'), fun y z d hd' => (by rw [hF.1] at hd'; cases hd'), fun y d hd' => (by rw [hF.1] at hd'; cases hd')⟩, .refl, fun a y hy => ?_, fun a ha hc hL' => ?_, fun a j c' e _ => ?_, List.suffix_refl _, ?_, bt.ggrow⟩
    · by_cases h1 : a = F.L
      · rw [h1, AHeap.del_self] at hy; cases hy
      · rw [AHeap.del_ne h1] at hy
        by_cases h2 : a = b
        · subst h2; rw [AHeap.put_self] at hy; cases hy
          exact ⟨bt.keep a _ (Heap.get?_push_of_some _ ho) (solid_cls hoc) (nX _ hbs), solid_cls hoc⟩
        · rw [AHeap.put_ne h2] at hy; exact mv a y hy h2
    · by_cases h1 : a = F.L
      · subst h1; rw [hcL] at hy; cases hy; exact .inl ⟨rfl, rfl⟩
      · right; rw [AHeap.del_ne h1]
        have : G.Hc a = (H.put b (.raw o)) a := AHeap.put_ne h1
        rw [← this]; exact hy
    · rw [AHeap.del_ne hL']
      have : G.Hc a = (H.put b (.raw o)) a := AHeap.put_ne hL'
      rw [← this]; exact hc
    · refine ⟨a, c', ?_⟩
      by_cases h1 : a = F.L
      · rw [h1, AHeap.del_self] at e; cases e
      · rw [AHeap.del_ne h1] at e
        have : G.Hc a = (H.put b (.raw o)) a := AHeap.put_ne h1
        rw [this]; exact e
    · refine Nat.le_trans ?_ bt.grow
      show s.heap.objs.size + 1 ≤ (s.heap.push _).objs.size
      rw [Heap.size_push]; exact Nat.le_refl _
  refine list_of_gen (S := s.heap.objs.size) rfl (gwalk_of (A := A.in1.in1) (G := G) T rfl hA hroom ok hcI rfl fun a e => by rw [show a = s.heap.objs.size from e]; exact i.size) gst (Nat.ne_of_gt hbs) hn fun s' acc c' ⟨i', r', tt⟩ hS hacc => ?_
  have hlen : acc.size ≤ sizeLine := by rw [← Array.length_toList, ← List.length_map (f := norm), hacc]; exact hn
  refine ⟨_, ?_, h _ hSn⟩
  have hlist : (AObj.list true ys).At W s' s.heap.objs.size := at_new_list hS hacc hlen i.size
  have hgone : ∀ a, (∃ y, G.Hc a = some y) → (AObj.gone).At W s' a := fun a ⟨y, hy⟩ => (r' a y hy).cls
  refine ⟨i', fun a y hy => ?_, fun a o' ha so hn' _ => ?_, ?_, Nat.le_trans st₁.grow tt.grow, fun j st hj hn' => ?_, tt.ggrow⟩
  · by_cases h0 : a = s.heap.objs.size
    · subst h0; rw [AHeap.put_self] at hy; cases hy; exact hlist
    · rw [AHeap.put_ne h0] at hy
      by_cases h1 : a = F.L
      · subst h1; rw [AHeap.put_self] at hy; cases hy; exact hgone _ ⟨_, hcL⟩
      · rw [AHeap.put_ne h1] at hy
        by_cases h2 : a = b
        · subst h2; rw [AHeap.put_self] at hy; cases hy; exact hgone _ ⟨_, hcI⟩
        · rw [AHeap.put_ne h2, ← hcn a h1 h2] at hy; exact r' a y hy
  · have h1 : a ≠ F.L := fun e => by rw [e, hL] at hn'; cases hn'
    have h2 : a ≠ b := fun e => by rw [e, hb] at hn'; cases hn'
    have h3 := Heap.lt_size ha
    exact tt.keep a o' (Nat.lt_succ_of_lt h3) (Heap.get?_push_of_some _ ha) so (by rw [hcn a h1 h2]; exact hn') h1 (fun e => Nat.ne_of_lt h3 e)
  · have v1 : View noX s.heap.objs.size s.gens.size H (H.put b .gone) := .put (.inr (.inl (by rw [hb]; intro q; cases q))) (fun y hy => .inl (by rw [hb] at hy; cases hy; rfl)) (fun _ _ e => by cases e)
    have hL1 : (H.put b .gone) F.L = some (.frm ρ) := by rw [AHeap.put_ne hLb]; exact hL
    have v2 : View noX s.heap.objs.size s.gens.size (H.put b .gone) ((H.put b .gone).put F.L .gone) := .put (.inr (.inl (by rw [hL1]; intro q; cases q))) (fun y hy => .inl (by rw [hL1] at hy; cases hy; rfl)) (fun _ _ e => by cases e)
    have hS2 : ((H.put b .gone).put F.L .gone) s.heap.objs.size = none := by rw [AHeap.put_ne (Nat.ne_of_gt hLs), AHeap.put_ne (Nat.ne_of_gt hbs)]; exact hSn
    have v3 : View noX s.heap.objs.size s.gens.size ((H.put b .gone).put F.L .gone) (((H.put b .gone).put F.L .gone).put s.heap.objs.size (.list true ys)) := .put (.inl (Nat.le_refl _)) (fun y hy => by rw [hS2] at hy; cases hy) (fun _ _ e => by cases e)
    exact (v1.trans v2 (Nat.le_refl _) (Nat.le_refl _)).trans v3 (Nat.le_refl _) (Nat.le_refl _)
  · refine tt.gkeep j st (Array.getElem?_eq_some_iff.mp hj).1 hj (fun a c' e => hn' a c' (hcg a j c' e).1) (fun e => ?_)
    have e' : j = g := e
    subst e'
    exact hn' b c hb
end
end Mine
end

section
open PySem PySem.W PyProof.Rows
set_option maxRecDepth 100000
set_option Elab.async false
set_option linter.unusedVariables false
namespace Mine
section
variable {W : Wd} {A : Around} {F : Frm} {ρ : Loc} {H : AHeap} {s : Shared} {Q : Value → AHeap → Prop}

theorem fn_gen {a : Addr} {q : Str} {params : Arguments} {body : List Stmt} {scope : Scope} {cd dflt : Value} {args : List Value} {nb : List (Str × Value)} (T : TopOk W) (f : FnAt W a q params body scope cd dflt)
    (hco : scope.isCoroutine = false) (hgen : scope.isGenerator = true) (hroom : A.depth < recursionLimit)
    (hb : ∀ (s : Shared) (vs : List Value) (fd : FuncData), Inv W s → vs.map norm = args → fd.params = params → fd.defaults = dflt → fd.kwdefaults = .none →
      ∃ bs, BindsTo s fd ⟨vs, []⟩ bs ∧ bs.map (fun x => (x.1, norm x.2)) = nb ∧ ∀ x ∈ bs, scope.names.lookup x.1 = some .local)
    (h : ∀ L b g, H L = none → H b = none → L ≠ b → (∀ x c, H x ≠ some (.gen g c)) → Q (.ref b) ((H.put L (.frm (locOf nb))).put b (.gen g (.func body (envOf q scope L a cd))))) : CallW W A (.ref a) args H Q := by
  intro s vs hvs i r
  obtain ⟨o, fd, h1, h2, h3, e1, e2, e3, e4, e5, e6, e7, e8, e9, e10⟩ := f.at_
  obtain ⟨bs, hbs, hn, hl⟩ := hb s vs fd i hvs e2 e7 e8
  refine wpAny_call (codeAny_call_generator hroom (i.old.get_of_cls h1 h2) h3 (e4 ▸ hco) (e4 ▸ hgen) e3 (by rw [e9, e1]; exact f.codeAt i) (hbs _ _ _ _ ?_))
  rw [e4, e5, e6, e9, e10, e1]
  refine wpAny_newFunctionEnv f.cells hl (fun h' hns hsb => ?_) f.kind
  have hup : ∀ b o, s.heap.get? b = some o → h'.get? b = some o := fun b o e => (hsb.2 b (Nat.ne_of_lt (Heap.lt_size e))).trans (Heap.get?_push_of_some _ e)
  have hsz : h'.objs.size = s.heap.objs.size + 1 := by rw [hsb.1, Heap.size_push]
  have st := step_ext (k := s.toks + bs.length) i r hup (by omega)
  refine ⟨st.inv.nolimit T, ?_⟩
  have hH : H s.heap.objs.size = none := fresh_none r
  have hH' : H h'.objs.size = none := r.none_of (Heap.get?_none_of_le (by omega))
  have hne : s.heap.objs.size ≠ h'.objs.size := by rw [hsz]; exact Nat.ne_of_lt (Nat.lt_succ_self _)
  have hlk : ∀ y, (bs.reverse.lookup y).map norm = locOf nb y := fun y => by
    show _ = nb.reverse.lookup y
    rw [norm_lookup, ← hn, List.map_reverse]
  have st₁ : Step W H s (H.put s.heap.objs.size (.frm (locOf nb))) { s with heap := h', toks := s.toks + bs.length } :=
    st.put (.inl (Nat.le_refl _)) (fun y hy => by rw [hH] at hy; cases hy) (by intro _ _ q; cases q) ⟨i.size, _, hns, hlk⟩
  have i₂ : Inv W { s with gens := s.gens.push (.fresh (.func body (envOf q scope s.heap.objs.size a cd))), toks := s.toks + bs.length + 1 + 1, heap := h'.push { cls := .type "generator", data := .fields #[.int s.gens.size 0, .str fd.name (s.toks + bs.length), .str q (s.toks + bs.length + 1)] } } :=
    ⟨st.inv.old.step_keeps fun b o e => Heap.get?_push_of_some _ e, fun o ho => Heap.get?_push_of_some _ (st.inv.stat o ho), i.os, i.bare.push rfl, by show W.h₁.objs.size ≤ (h'.push _).objs.size; rw [Heap.size_push]; have := st.inv.size; have e : ({ s with heap := h', toks := s.toks + bs.length } : Shared).heap.objs.size = h'.objs.size := rfl; omega, st.inv.tabs.keep fun b o _ e => Heap.get?_push_of_some _ e⟩
  have ng : ∀ x c, H x ≠ some (.gen s.gens.size c) := fun x c e => by
    have := (Array.getElem?_eq_some_iff.mp (r x _ e).2).1
    omega
  refine ⟨_, ⟨i₂, fun x y hy => ?_, fun b o hb so hn' _ => Heap.get?_push_of_some _ (hup b o hb), ?_, ?_, fun j g hj _ => ?_, ?_⟩, h s.heap.objs.size h'.objs.size s.gens.size hH hH' hne ng⟩
  · by_cases e : x = h'.objs.size
    · subst e
      rw [AHeap.put_self] at hy
      cases hy
      refine ⟨⟨_, _, _, Heap.get?_push_size _ rfl, rfl, rfl, rfl⟩, ?_⟩
      show (s.gens.push _)[s.gens.size]? = _
      rw [Array.getElem?_push_size]
      rfl
    · rw [AHeap.put_ne e] at hy
      refine (st₁.rel x y hy).moves (fun o ho _ => Heap.get?_push_of_some _ ho) fun j c _ hj => ?_
      have hlt := (Array.getElem?_eq_some_iff.mp hj).1
      show (s.gens.push _)[j]? = _
      rw [Array.getElem?_push_lt hlt]
      rw [← hj]; exact (Array.getElem?_eq_getElem hlt).symm
  · refine (st₁.vw.trans (.put (.inl (by rw [hsz]; exact Nat.le_succ _)) (fun y hy => ?_) (fun j c e => ?_)) (Nat.le_refl _) (Nat.le_refl _))
    · rw [AHeap.put_ne (Ne.symm hne), hH'] at hy; cases hy
    · cases e; exact .inl (Nat.le_refl _)
  · show s.heap.objs.size ≤ (h'.push _).objs.size
    rw [Heap.size_push]; omega
  · have hlt := (Array.getElem?_eq_some_iff.mp hj).1
    show (s.gens.push _)[j]? = _
    rw [Array.getElem?_push_lt hlt, ← hj]; exact (Array.getElem?_eq_getElem hlt).symm
  · show s.gens.size ≤ (s.gens.push _).size
    rw [Array.size_push]; omega

theorem drains_func {body : List Stmt} {env : Env} {ys : List Value}
    (h : ∀ G : GC, G.A = A → G.F = ⟨env⟩ → G.ys = ys → G.Ok → VisOk G H → ExsG W G (.func body env) [] body ρ H ys fun f _ _ ys' => ys' = [] ∧ (f = .next ∨ f = .ret .none)) : Drains W A (.func body env) ⟨env⟩ ρ H ys := by
  intro G s hA hF hys ok g
  have e : env = G.F.env := by rw [hF]
  subst e
  refine seg_func (h G hA rfl hys ok (fun b y hb => ?_) _ _ id id s s rfl (fun f ρ' H' ys' s₀ s' q g' => ?_) g)
  · rcases g.vis b y hb with ⟨e, _⟩ | e
    · exact .inl e
    · exact .inr e
  · obtain ⟨rfl, hf⟩ := q
    have fin : SG W G 0 s₀ (.func body G.F.env) (.pure (.done (.ret .none))) [] s' := seg_end (.ok (.ret .none)) ⟨rfl, rfl, g'.inv, g'.relc, g'.since⟩
    cases f with
    | ret v =>
      rcases hf with e | e
      · cases e
      · have e' : Flow.ret (norm v) = .ret .none := e
        rw [norm_none (Flow.ret.inj e')]
        exact fin
    | _ => exact fin

theorem VisOk.put {G : GC} {a : Addr} {x : AObj} (v : VisOk G H) (ha : H a = none) : VisOk G (H.put a x) := fun b y hb => by
  rcases v b y hb with e | e
  · exact .inl e
  · right
    rw [AHeap.put_ne (fun q => by rw [q, ha] at e; cases e)]; exact e
theorem VisOk.put' {G : GC} {a : Addr} {x : AObj} (v : VisOk G H) (ha : G.Hc a = none) : VisOk G (H.put a x) := fun b y hb => by
  rcases v b y hb with e | e
  · exact .inl e
  · right
    rw [AHeap.put_ne (fun q => by rw [q, ha] at hb; cases hb)]; exact e
end
end Mine
end

section
open PySem PySem.W PyProof.Rows
set_option maxRecDepth 100000
set_option Elab.async false
set_option linter.unusedVariables false
namespace Mine
section
variable {W : Wd} {A : Around} {F : Frm} {ρ : Loc} {H : AHeap} {s : Shared} {Q : Value → AHeap → Prop}
theorem ev_fmt {value : Expr} {pos : Pos} (h : EvW W A F value ρ H fun v H' => ∃ x, v = .str x 0 ∧ x.length ≤ sizeLine ∧ Q (.str x 0) H') : EvW W A F (.FormattedValue value (-1) none pos) ρ H Q := by
  intro s i r f
  refine wpAny_FormattedValue_plain (wpAny_mono (h s i r f) (fun v s₁ ⟨H₁, x₁, x, e, hz, q⟩ => ?_) fun _ _ e => e)
  obtain ⟨t, rfl⟩ := norm_str e
  exact wpAny_formatField_str ⟨H₁, x₁, q⟩ ⟨H₁, x₁.toks _, q⟩ hz
/-- the parts of an f-string -/
def JoinsW (W : Wd) (A : Around) (F : Frm) (ρ : Loc) (Q : Str → AHeap → Prop) : List Expr → Str → AHeap → Prop
  | [], acc, H => Q acc H
  | e :: es, acc, H => EvW W A F e ρ H fun v H' => ∃ y, v = .str y 0 ∧ acc.length + y.length ≤ sizeLine ∧ JoinsW W A F ρ Q es (acc ++ y) H'
theorem joins_run {Q : Str → AHeap → Prop} {P : Str → Shared → Prop} : ∀ (es : List Expr) (acc : Str) (H₀ H : AHeap) (s₀ s : Shared), JoinsW W A F ρ Q es acc H → Step W H₀ s₀ H s → FRel W F ρ H s → (∀ out H' s', Step W H₀ s₀ H' s' → Q out H' → P out s') → Joins (model W.prog W.w) A (fun _ _ => False) (evalEach es F.env) acc P s
  | [], acc, H₀, H, s₀, s, h, x, f, k => k acc H s x h
  | e :: es, acc, H₀, H, s₀, s, h, x, f, k => wpAny_mono (h s x.inv x.rel f) (fun v s₁ ⟨H₁, x₁, y, ev, hz, q⟩ => by
    obtain ⟨t, rfl⟩ := norm_str ev
    exact ⟨y, t, rfl, by rw [strLen_append]; exact hz, joins_run es _ H₀ H₁ s₀ s₁ q (x.trans x₁) (f.step x₁) k⟩) fun _ _ e => e
theorem ev_fstr {v₁ v₂ : Expr} {rest : List Expr} {pos : Pos} (h : JoinsW W A F ρ (fun out H' => out.length ≤ sizeLine ∧ Q (.str out 0) H') (v₁ :: v₂ :: rest) Str.empty H) : EvW W A F (.JoinedStr (v₁ :: v₂ :: rest) pos) ρ H Q := by
  intro s i r f
  exact wpAny_JoinedStr (joins_run _ _ H H s s h (.refl i r) f fun out H' s' x q => ⟨q.1, H', x.toks _, q.2⟩)
end
end Mine
end

section
open PySem PySem.W PyProof.Rows
set_option maxRecDepth 100000
set_option Elab.async false
set_option linter.unusedVariables false
namespace Mine
/-- a class of the top whose only base is object -/
structure ClsAt (W : Wd) (C N : Addr) (mN : Str → Option Value) : Prop where
  cls : ∃ nm q bs sn sub col dd k0 k1 k2 k3 k5, W.h₁.get? C = some (excClassObj nm q C N bs [.type "object"] true sn sub false col dd k0 k1 k2 k3 k5 "object.__new__")
  ns : W.h₁.Ns N mN
  nsne : N ≠ cStatics
/-- x is an instance of C, its names at d -/
structure InstAt (H : AHeap) (x C d : Addr) (m : Loc) : Prop where
  obj : ∃ o, H x = some (.raw o) ∧ o.cls = .ref C ∧ o.dict = some d ∧ ∀ c, o.data ≠ .cls c
  names : H d = some (.ns m)
theorem InstAt.ne {H : AHeap} {x C d : Addr} {m : Loc} (i : InstAt H x C d m) : d ≠ x := by
  obtain ⟨o, h, _⟩ := i.obj
  intro e
  have := i.names
  rw [e, h] at this; cases this
theorem InstAt.put {H : AHeap} {x C d a : Addr} {m : Loc} {y : AObj} (i : InstAt H x C d m) (ha : H a = none) : InstAt (H.put a y) x C d m := by
  obtain ⟨o, h, r⟩ := i.obj
  exact ⟨⟨o, by rw [AHeap.put_ne (fun e => by rw [e, ha] at h; cases h)]; exact h, r⟩, by
    have := i.names
    rw [AHeap.put_ne (fun e => by rw [e, ha] at this; cases this)]; exact this⟩
theorem InstAt.set {H : AHeap} {x C d : Addr} {m m' : Loc} (i : InstAt H x C d m) : InstAt (H.put d (.ns m')) x C d m' := by
  obtain ⟨o, h, r⟩ := i.obj
  exact ⟨⟨o, by rw [AHeap.put_ne (Ne.symm i.ne)]; exact h, r⟩, AHeap.put_self ..⟩
section
variable {W : Wd} {A : Around} {F : Frm} {ρ : Loc} {H : AHeap} {s : Shared} {Q : Value → AHeap → Prop}
theorem InstAt.at {x C d : Addr} {m : Loc} (i : InstAt H x C d m) (r : HRel W H s) : ∃ mA, s.heap.Inst x C mA ∧ (∀ y, (mA y).map norm = m y) ∧ W.h₁.objs.size ≤ d ∧ ∃ o, s.heap.get? x = some o ∧ o.dict = some d := by
  obtain ⟨o, h, hc, hd, hn⟩ := i.obj
  obtain ⟨hdl, mA, h1, h2⟩ := r d _ i.names
  have ho := (r x _ h).1
  exact ⟨mA, ⟨o, ho, hc, hn, .inr ⟨d, hd, i.ne, h1⟩⟩, h2, hdl, o, ho, hd⟩
theorem ClsAt.get {C N : Addr} {mN : Str → Option Value} (c : ClsAt W C N mN) (i : Inv W s) : ∃ nm q bs sn sub col dd k0 k1 k2 k3 k5, s.heap.get? C = some (excClassObj nm q C N bs [.type "object"] true sn sub false col dd k0 k1 k2 k3 k5 "object.__new__") := by
  obtain ⟨nm, q, bs, sn, sub, col, dd, k0, k1, k2, k3, k5, h⟩ := c.cls
  exact ⟨nm, q, bs, sn, sub, col, dd, k0, k1, k2, k3, k5, i.old.get_of_cls h (by intro q; cases q)⟩
theorem ClsAt.nsAt {C N : Addr} {mN : Str → Option Value} (c : ClsAt W C N mN) (i : Inv W s) : s.heap.Ns N mN := ns_keep i.old c.ns c.nsne

theorem Touch.inv {I : Addr} {s' : Shared} (t : Touch I s s') (T : TopOk W) (i : Inv W s) (hI : W.h₁.objs.size ≤ I) : Inv W s' :=
  (t.stepX (X := fun _ => True) (H := fun _ => none) T i (fun a x h => by cases h) hI rfl trivial).inv
/-- a thing that is seen is turned -/
theorem Touch.turn {a : Addr} {x : AObj} {s' : Shared} (t : Touch a s s') (T : TopOk W) (i : Inv W s) (r : HRel W H s) (ha : W.h₁.objs.size ≤ a) (hf : ∃ y, H a = some y ∧ y.frozen = false) (hx : x.At W s' a) (hg : ∀ g c, x ≠ .gen g c) : Step W H s (H.put a x) s' := by
  obtain ⟨y, hy, hfy⟩ := hf
  refine ⟨t.inv T i ha, fun b z hz => ?_, fun b o hb _ hn _ => t.keep b o hb (fun e => by rw [e, hy] at hn; cases hn), .put (.inr (.inl (by rw [hy]; intro q; cases q))) (fun z hz => .inl (by rw [hy] at hz; cases hz; exact hfy)) (fun g c e => absurd e (hg g c)), t.size, fun g st h _ => by rw [t.gens]; exact h, by rw [t.gens]; exact Nat.le_refl _⟩
  by_cases e : b = a
  · subst e; rw [AHeap.put_self] at hz; cases hz; exact hx
  · rw [AHeap.put_ne e] at hz; exact (r b z hz).keeps (fun o ho _ => t.keep b o ho e) t.gens

/-- obj.name = value -/
theorem ex_assign_attr {o value : Expr} {attr : Str} {p' pos : Pos} {Q : Flow → Loc → AHeap → Prop} (T : TopOk W) (hs : swapsWith value (some (.Attribute o attr p')) pos.line F.env = pure false)
    (hB : typeLookup (.type "object") attr = pure none)
    (h : EvW W A F value ρ H fun v H₁ => EvW W A F o ρ H₁ fun ov H₂ => ∃ (x C N d : Addr) (mN : Str → Option Value) (m : Loc) (ns : List Str), ov = .ref x ∧ ClsAt W C N mN ∧ mN "__setattr__" = none ∧ mN attr = none ∧ InstAt H₂ x C d m ∧ (∀ y, m y ≠ none → y ∈ ns) ∧ ns.length ≤ 100 ∧ Q .next ρ (H₂.put d (.ns (m.put attr v)))) :
    ExW W A F (.Assign [.Attribute o attr p'] value pos) ρ H Q := by
  intro s i r f
  refine plainObj_wpAny_Assign_Attribute (wpAny_mono (h s i r f) (fun v s₁ ⟨H₁, x₁, h₁⟩ => wpAny_mono (h₁ s₁ x₁.inv x₁.rel (f.step x₁)) (fun ov s₂ ⟨H₂, x₂, x, C, N, d, mN, m, ns, e, c, hn1, hn2, ia, hw, hl, q⟩ => ?_) fun _ _ e => e) fun _ _ e => e) hs
  rw [norm_ref e]
  obtain ⟨nm, qn, bs, sn, sub, col, dd, k0, k1, k2, k3, k5, hC⟩ := c.get x₂.inv
  obtain ⟨mA, hI, hm, hdl, ob, hob, hobd⟩ := ia.at x₂.rel
  have hxC : x ≠ C := by
    rintro rfl
    rw [hC] at hob; cases hob
    obtain ⟨o', ho', hc', _⟩ := hI
    rw [hC] at ho'; cases ho'
    cases hc'
  have hwm : Within mA ns := fun y hy => hw y (fun e => hy (by
    have := hm y
    rw [e] at this
    exact Option.map_eq_none_iff.mp this))
  refine wpAny_grows (store_attr PySem.F.store_object hC (c.nsAt x₂.inv) hn1 hn2 hB hxC hI (fun h' tk' hI' hk hsame hz => ?_) hwm (Nat.le_trans hl (by decide)))
  obtain ⟨o₁, ho₁, e1, e2, e3, e4⟩ := hsame ob hob
  have ho₁d := e4 d hobd
  have t : Touch d s₂ { s₂ with heap := h', toks := tk' } := by
    refine ⟨fun b o hb hne => ?_, rfl, rfl, hz⟩
    by_cases hbx : b = x
    · subst hbx
      rw [hob] at hb; cases hb
      have : o₁ = ob := by
        obtain ⟨c1, d1, da1, s1⟩ := o₁
        obtain ⟨c2, d2, da2, s2⟩ := ob
        simp only at e1 e2 e3 ho₁d hobd
        subst e1 e2 e3 ho₁d hobd
        rfl
      rw [← this]; exact ho₁
    · exact hk b o hbx (fun o₀ dx h1 h2 => by rw [hob] at h1; cases h1; rw [hobd] at h2; cases h2; exact hne) hb
  have hns' : h'.Ns1 d (fun y => if y = attr then some v else mA y) := by
    obtain ⟨o', ho', _, _, hd'⟩ := hI'
    rw [ho₁] at ho'; cases ho'
    rcases hd' with ⟨hd', _⟩ | ⟨d', hd', _, hns⟩
    · rw [ho₁d] at hd'; cases hd'
    · rw [ho₁d] at hd'; cases hd'; exact hns
  have st := t.turn (x := .ns (m.put attr (norm v))) T x₂.inv x₂.rel hdl ⟨_, ia.names, rfl⟩ ⟨hdl, _, hns', fun y => by
    show Option.map norm (if y = attr then some v else mA y) = if y = attr then some (norm v) else m y
    split
    · rfl
    · exact hm y⟩ (by intro _ _ q; cases q)
  have tot := (x₁.trans x₂).trans st
  exact ⟨ρ, _, tot.toL, f.step tot, q⟩

/-- a method of an instance -/
theorem ev_meth_inst {o : Expr} {args : List Expr} {name : Str} {apos pos : Pos} {y : Option Value} (hbase : attributeBase o name F.env (eval o F.env) = eval o F.env) (hp : args.all plainE = true) (hfew : args.length < 30) (hline : (apos.endLine == pos.line) = true)
    (hB : typeLookup (.type "object") name = pure y)
    (h : EvW W A F o ρ H fun v H₁ => ∃ (x C N d : Addr) (mN : Str → Option Value) (m : Loc) (fa : Addr), v = .ref x ∧ ClsAt W C N mN ∧ mN "__getattribute__" = none ∧ mN "__getattr__" = none ∧ mN name = some (.ref fa) ∧ (∃ of fd, W.h₁.get? fa = some of ∧ of.cls = .type "function" ∧ of.data = .func fd) ∧ InstAt H₁ x C d m ∧ m name = none ∧
      ArgsW W A F args ρ H₁ fun vs H₂ => CallW W A (.ref fa) (.ref x :: vs) H₂ Q) : EvW W A F (.Call (.Attribute o name apos) args [] pos) ρ H Q := by
  intro s i r f
  unfold TW
  rw [arm_eval_Call, hbase]
  refine wpAny_bind (wpAny_mono (h s i r f) (fun ov s₁ ⟨H₁, x₁, x, C, N, d, mN, m, fa, e, c, n1, n2, n3, ⟨of, fd, hof, hfc, hfd⟩, ia, hm0, h₁⟩ => ?_) fun _ _ e => e)
  rw [norm_ref e]
  refine wpAny_bind (wpAny_standAt ?_)
  have hform : methodCallForm (args.length + ([] : List Keyword).length) (backTo pos (starEach args F.env)) (backToKw pos (keywordEach [] F.env)) = true := by
    unfold methodCallForm
    rw [star_plain pos F.env hp, all_plain]
    simpa [backToKw, keywordEach] using hfew
  have hpos : methodCallPos true o F.env apos pos = pure pos := by unfold methodCallPos; simp [hline]
  obtain ⟨nm, qn, bs, sn, sub, col, dd, k0, k1, k2, k3, k5, hC⟩ := c.get x₁.inv
  obtain ⟨mA, hI, hm, hdl, ob, hob, hobd⟩ := ia.at x₁.rel
  have hsh : mA name = none := by have := hm name; rw [hm0] at this; exact Option.map_eq_none_iff.mp this
  unfold methodCall
  rw [hform]
  refine wpAny_bind (wpAny_holding (method_of hC (c.nsAt x₁.inv) n1 n2 n3 (x₁.inv.old.get_of_cls hof (by rw [hfc]; intro q; cases q)) hfc hB hI hsh ?_))
  refine wpAny_bind (wpAny_of_eq hpos ?_)
  rw [star_plain pos F.env hp]
  refine Calls.callWith_function (o := of) (fd := fd) (args_ev h₁ x₁.inv x₁.rel (f.step x₁) fun vs s' H' x₂ q => ⟨⟨x₂.inv.old.get_of_cls hof (by rw [hfc]; intro q; cases q), hfd⟩, tw_then (x₁.trans x₂) (q s' (.ref x :: vs) (by simp [norm]) x₂.inv x₂.rel)⟩)
end
end Mine
end

section
open PySem PySem.W PyProof.Rows
set_option maxRecDepth 100000
set_option Elab.async false
set_option linter.unusedVariables false
namespace Mine
section
variable {W : Wd} {A : Around} {F : Frm} {ρ : Loc} {H : AHeap} {s : Shared} {Q : Value → AHeap → Prop}

theorem callWith_machine {prog : Program} {w : World} {E : Value → Shared → Prop} {P : Value → Shared → Prop} {pos : Pos} {f : Value} {args : List (Bool × Sem Value)} (hst : args.any (·.1) = false)
    (h : wpAny (model prog w) A (evalArgs f true args []) (fun as s₁ => as.kw = [] ∧ wpAny (model prog w) A (keeperOf f) (fun k s₂ => k = .machine ∧ wpAny (model prog w) A (PySem.call f as.pos) P E s₂) E s₁) E s) :
    wpAny (model prog w) A (callWith pos f [] args []) P E s := by
  unfold callWith
  refine wpAny_bind (wpAny_holding (wpAny_mono h (fun as s₁ ⟨hk, h₁⟩ => ?_) fun _ _ x => x))
  refine wpAny_bind (wpAny_standAt ?_)
  have hst' : (args.any (fun x => x.fst) || ([] : List (Option Str × Sem Value)).any fun x => x.fst.isNone) = false := by rw [hst]; rfl
  obtain ⟨ps, kw⟩ := as
  simp only at hk
  subst hk
  rw [hst']
  show wpAny _ _ (keeperOf f >>= _) _ _ _
  refine wpAny_bind (wpAny_mono h₁ (fun k s₂ ⟨e, h₂⟩ => ?_) fun _ _ x => x)
  subst e
  show wpAny _ _ (PySem.call f ps [] >>= fun r => do holding [r] point; pure r) _ _ _
  exact wpAny_bind (wpAny_mono h₂ (fun r s' hr => wpAny_bind (wpAny_holding (wpAny_point (wpAny_pure hr)))) fun _ _ x => x)

/-- what may be called by name -/
inductive CalleeH (W : Wd) (H : AHeap) (f : Value) : Prop where
  | old (h : Callee W f)
  | cls (C N : Addr) (mN : Str → Option Value) (e : f = .ref C) (c : ClsAt W C N mN)
  | bound (a : Addr) (o : Obj) (vs : Array Value) (e : f = .ref a) (h : W.h₁.get? a = some o) (hc : o.cls = .type "builtin_function_or_method") (hd : o.data = .fields vs)
  | boundH (a : Addr) (o : Obj) (vs : Array Value) (e : f = .ref a) (h : H a = some (.raw o)) (hc : o.cls = .type "builtin_function_or_method") (hd : o.data = .fields vs)
  | funH (a : Addr) (o : Obj) (fd : FuncData) (e : f = .ref a) (h : H a = some (.raw o)) (hd : o.data = .func fd)
theorem CalleeH.norm {f : Value} (c : CalleeH W H f) : norm f = f := by
  cases c with
  | old h =>
    rcases h with ⟨id, e⟩ | ⟨T, e⟩ | ⟨a, o, fd, e, _⟩
    · rw [e]; rfl
    · rw [e]; rfl
    · rw [e]; rfl
  | cls _ _ _ e => rw [e]; rfl
  | bound _ _ _ e => rw [e]; rfl
  | boundH _ _ _ e => rw [e]; rfl
  | funH _ _ _ e => rw [e]; rfl
theorem norm_fix {f v : Value} (h : norm v = f) (hf : norm f = f) (hr : (∃ a, f = .ref a) ∨ (∃ id, f = .builtin id) ∨ ∃ T, f = .type T) : v = f := by
  rcases hr with ⟨a, rfl⟩ | ⟨a, rfl⟩ | ⟨a, rfl⟩
  · exact norm_ref h
  · exact norm_builtin h
  · exact norm_type h
theorem CalleeH.kind {f : Value} (c : CalleeH W H f) : (∃ a, f = .ref a) ∨ (∃ id, f = .builtin id) ∨ ∃ T, f = .type T := by
  cases c with
  | old h =>
    rcases h with ⟨id, e⟩ | ⟨T, e⟩ | ⟨a, o, fd, e, _⟩
    · exact .inr (.inl ⟨id, e⟩)
    · exact .inr (.inr ⟨T, e⟩)
    · exact .inl ⟨a, e⟩
  | cls _ _ _ e => exact .inl ⟨_, e⟩
  | bound _ _ _ e => exact .inl ⟨_, e⟩
  | boundH _ _ _ e => exact .inl ⟨_, e⟩
  | funH _ _ _ e => exact .inl ⟨_, e⟩
theorem keeper_bound {prog : Program} {w : World} {a : Addr} {o : Obj} {vs : Array Value} {P : Keeper → Shared → Prop} {E : Value → Shared → Prop} (ho : s.heap.get? a = some o) (hc : o.cls = .type "builtin_function_or_method") (hd : o.data = .fields vs) (h : P .machine s) : wpAny (model prog w) A (keeperOf (.ref a)) P E s := by
  unfold keeperOf
  refine wpAny_bind (wpAny_load ho ?_)
  rw [hd]
  simp only [hc]
  exact wpAny_pure h
theorem keeper_cls {prog : Program} {w : World} {C N : Addr} {mN : Str → Option Value} {P : Keeper → Shared → Prop} {E : Value → Shared → Prop} (c : ClsAt W C N mN) (i : Inv W s) (h : P .machine s) : wpAny (model prog w) A (keeperOf (.ref C)) P E s := by
  obtain ⟨hh, g, d, t, os⟩ := s
  obtain ⟨nm, q, bs, sn, sub, col, dd, k0, k1, k2, k3, k5, hC⟩ := c.get i
  have f1 := tc_lookup
  have hT : (⟨hh, g, d, t, os⟩ : Shared).TypeIs (.ref C) "type" := ⟨_, hC, rfl⟩
  unfold keeperOf specialOf
  repeat (any_goals (first | assumption | with_reducible refine wpAny_loadPart_at hC ?_ | with_reducible refine wpAny_load' hC ?_ | wp_step))
theorem call_withH {fv : Value} {es : List Expr} {pos : Pos} (hc : CalleeH W H fv) (i : Inv W s) (r : HRel W H s) (fr : FRel W F ρ H s) (h : ArgsW W A F es ρ H fun vs H₂ => CallW W A fv vs H₂ Q) :
    TW W A (callWith pos fv [] (es.map fun e => (false, eval e F.env)) []) H s Q := by
  cases hc with
  | old hc => exact call_with hc i r fr h
  | cls C N mN e c =>
    subst e
    exact callWith_machine (any_false _ _) (args_ev h i r fr fun vs s' H' x q => ⟨rfl, keeper_cls c x.inv ⟨rfl, tw_then x (q s' vs rfl x.inv x.rel)⟩⟩)
  | bound a o ws e ho hc hd =>
    subst e
    exact callWith_machine (any_false _ _) (args_ev h i r fr fun vs s' H' x q => ⟨rfl, keeper_bound (x.inv.old.get_of_cls ho (by rw [hc]; intro q; cases q)) hc hd ⟨rfl, tw_then x (q s' vs rfl x.inv x.rel)⟩⟩)
  | boundH a o ws e ho hc hd =>
    subst e
    exact callWith_machine (any_false _ _) (args_ev h i r fr fun vs s' H' x q => ⟨rfl, keeper_bound (x.rel a _ (x.vw.frz a _ ho rfl)).1 hc hd ⟨rfl, tw_then x (q s' vs rfl x.inv x.rel)⟩⟩)
  | funH a o fd e ho hd =>
    subst e
    exact Calls.callWith_function (o := o) (fd := fd) (args_ev h i r fr fun vs s' H' x q => ⟨⟨(x.rel a _ (x.vw.frz a _ ho rfl)).1, hd⟩, tw_then x (q s' vs rfl x.inv x.rel)⟩)
theorem ev_callH {f : Str} {es : List Expr} {p pos : Pos} (hp : es.all plainE = true) (h : EvW W A F (.Name f p) ρ H fun fv H₁ => CalleeH W H₁ fv ∧ ArgsW W A F es ρ H₁ fun vs H₂ => CallW W A fv vs H₂ Q) :
    EvW W A F (.Call (.Name f p) es [] pos) ρ H Q := by
  intro s i r fr
  refine wpAny_Call_NameR (wpAny_mono (h s i r fr) (fun fv s₁ ⟨H₁, x₁, hc, h₁⟩ => ?_) fun _ _ x => x)
  rw [star_plain pos F.env hp, norm_fix rfl hc.norm hc.kind]
  exact tw_then x₁ (call_withH hc x₁.inv x₁.rel (fr.step x₁) h₁)

/-- inside the making of an object -/
def made (A : Around) : Around := { A with depth := A.depth + 1, units := A.units + 1 }
theorem under_made {C : Addr} {vs : List Value} : A.under (.builtin "type.__call__" ⟨.ref C :: vs, []⟩) = made A := by
  obtain ⟨hd, d, f, g, u⟩ := A
  cases f <;> cases g <;> rfl
/-- the making of an object, with its places -/
theorem make_obj {prog : Program} {w : World} {E : Value → Shared → Prop} {h : Heap} {g : Array GenState} {d : Drawn} {t : Nat} {os : OsState} {nm q : Str} {C N : Addr} {bs : List Value} {sn : List Str} {sub : List Value} {col : Option Bool} {dd : Option Addr} {k0 k1 k2 k3 k5 : Option Value}
    {mN : Str → Option Value} {rest : List Value} {fI : Addr} {oI : Obj} {P : Value → Shared → Prop}
    (hC : h.get? C = some (excClassObj nm q C N bs [.type "object"] true sn sub false col dd k0 k1 k2 k3 k5 "object.__new__")) (hn : h.Ns N mN) (hi : mN "__init__" = some (.ref fI)) (hfI : h.get? fI = some oI) (hfc : oI.cls = .type "function")
    (hq : wpAny (model prog w) (A.under (.builtin "type.__call__" ⟨.ref C :: rest, []⟩)) (PySem.call (.ref fI) (.ref (h.objs.size + 1) :: rest)) (fun r s' => r = .none ∧ P (.ref (h.objs.size + 1)) s') E
      ⟨(h.push { cls := .type "dict", data := .dict #[] }).push { cls := .ref C, dict := some h.objs.size, data := .plain }, g, d, t, os⟩) :
    wpAny (model prog w) A (PySem.call (.ref C) rest) P E ⟨h, g, d, t, os⟩ := by
  have f1 := tc_lookup
  have f2 := tc_bind (.ref C)
  have hT : (⟨h, g, d, t, os⟩ : Shared).TypeIs (.ref C) "type" := ⟨_, hC, rfl⟩
  have hmro : mroOf (.type "object") = pure [.type "object"] := by kernel_rfl
  have hlk : typeLookup (.type "object") "__init__" = pure (some (.builtin "object.__init__")) := by rw [typeLookup_type, builtinLookup_eq_fast]; kernel_rfl
  refine wpAny_call (codeAny_of_tree ?_)
  show wpAny _ _ (callAny (.ref C) _) _ _ _
  repeat (any_goals (first | assumption | with_reducible refine wpAny_loadPart_at hC ?_ | wp_step))
  refine ⟨rfl, ?_⟩
  refine codeAny_call_builtin_at (Code.quiet_builtin _ (by decide +kernel)) entry_typeCall (wpAny_check_type_call_sub hC ?_)
  repeat (first | with_reducible refine wpAny_loadPart_at hC ?_ | with_reducible refine wpAny_madeBy_exc hC ?_ | wp_step)
  refine codeAny_call_builtin_code (Code.quiet_builtin _ F.objNew.quiet) (wpAny_check_obj_new F.objNew hC ?_)
  refine codeAny_obj_new F.objNew hC hn hi ?_
  show wpAny _ _ _ _ _ _
  have hC₁ := Heap.get?_push_of_some { cls := .ref C, dict := some h.objs.size, data := .plain } (Heap.get?_push_of_some { cls := .type "dict", data := .dict #[] } hC)
  have hfI₁ := Heap.get?_push_of_some { cls := .ref C, dict := some h.objs.size, data := .plain } (Heap.get?_push_of_some { cls := .type "dict", data := .dict #[] } hfI)
  have hn₁ : ((h.push { cls := .type "dict", data := .dict #[] }).push { cls := .ref C, dict := some h.objs.size, data := .plain }).Ns N mN :=
    let ⟨o, es, ep, e, r⟩ := hn; ⟨o, es, ep, Heap.get?_push_of_some _ (Heap.get?_push_of_some _ e), r⟩
  have hget : ((h.push { cls := .type "dict", data := .dict #[] }).push { cls := .ref C, dict := some h.objs.size, data := .plain }).get? (h.objs.size + 1) = some { cls := .ref C, dict := some h.objs.size, data := .plain } := by heap_get
  have hcC : (Value.ref C :: [Value.type "object"]).contains (.ref C) = true := by simp
  unfold isInstance
  repeat (first | with_reducible refine wpAny_loadPart_at hget ?_ | (with_reducible refine wpAny_isSubtype_exc hC₁ ?_; rw [hcC]) | wp_step)
  show wpAny _ _ (typeLookup (.ref C) _) _ _ _
  refine wpAny_typeLookup_exc hC₁ hn₁ hmro hlk ?_
  rw [hi]
  refine wpAny_holding (wpAny_bind ?_)
  unfold bindSpecial
  refine wpAny_bind (wpAny_typeOf (T := "function") ⟨_, hfI₁, hfc⟩ ?_)
  rw [if_pos (by decide)]
  refine wpAny_pure (wpAny_bind (wpAny_mono hq (fun r s' hr => ?_) fun _ _ x => x))
  obtain ⟨rfl, hQ⟩ := hr
  wp_walk
  exact hQ
end
section
variable {W : Wd} {A : Around} {F : Frm} {ρ : Loc} {H : AHeap} {s : Shared} {Q : Value → AHeap → Prop}
/-- C(..), C a class of the top with an __init__ of its own -/
theorem call_new {C N fI : Addr} {mN : Str → Option Value} {args : List Value} (c : ClsAt W C N mN) (hi : mN "__init__" = some (.ref fI)) (hf : ∃ of, W.h₁.get? fI = some of ∧ of.cls = .type "function")
    (h : ∀ x d o, H x = none → H d = none → x ≠ d → o.cls = .ref C → o.dict = some d → (∀ c, o.data ≠ .cls c) → CallW W (made A) (.ref fI) (.ref x :: args) ((H.put d (.ns fun _ => none)).put x (.raw o)) fun v H' => v = .none ∧ Q (.ref x) H') : CallW W A (.ref C) args H Q := by
  intro s vs hvs i r
  obtain ⟨nm, q, bs, sn, sub, col, dd, k0, k1, k2, k3, k5, hC⟩ := c.get i
  obtain ⟨of, hof, hfc⟩ := hf
  refine make_obj (h := s.heap) (g := s.gens) (d := s.drawn) (t := s.toks) (os := s.os) hC (c.nsAt i) hi (i.old.get_of_cls hof (by rw [hfc]; intro q; cases q)) hfc ?_
  rw [under_made]
  have hnd : H s.heap.objs.size = none := fresh_none r
  have hnx : H (s.heap.objs.size + 1) = none := r.none_of (Heap.get?_none_of_le (Nat.le_succ _))
  have hne : s.heap.objs.size + 1 ≠ s.heap.objs.size := Nat.succ_ne_self _
  have hgd : (s.heap.push { cls := .type "dict", data := .dict #[] }).get? s.heap.objs.size = some { cls := .type "dict", data := .dict #[] } := Heap.get?_push_size _ rfl
  have st₁ : Step W H s (H.put s.heap.objs.size (.ns fun _ => none)) { s with heap := s.heap.push { cls := .type "dict", data := .dict #[] } } :=
    step_new i r ⟨i.size, _, Heap.Ns1.of_empty ⟨_, #[], _, hgd, rfl, fun e he => absurd he (by simp), fun _ => rfl⟩, fun _ => rfl⟩
  have hsz : (s.heap.push { cls := .type "dict", data := .dict #[] }).objs.size = s.heap.objs.size + 1 := Heap.size_push ..
  have st₂ := step_new (o := { cls := .ref C, dict := some s.heap.objs.size, data := .plain }) (x := .raw { cls := .ref C, dict := some s.heap.objs.size, data := .plain }) st₁.inv st₁.rel ⟨Heap.get?_push_size _ rfl, .inl (by intro q; cases q)⟩
  have st := st₁.trans st₂
  have e3 : (s.heap.push { cls := .type "dict", data := .dict #[] }).objs.size = s.heap.objs.size + 1 := hsz
  simp only [e3] at st
  refine wpAny_mono (h (s.heap.objs.size + 1) s.heap.objs.size { cls := .ref C, dict := some s.heap.objs.size, data := .plain } hnx hnd hne rfl rfl (fun c => by simp) _ (.ref (s.heap.objs.size + 1) :: vs) (by simp [hvs, norm]) st.inv st.rel) (fun v s' ⟨H', x', e, q'⟩ => ⟨norm_none e, H', st.trans x', q'⟩) fun _ _ e => e
end
end Mine
end

section
open PySem PySem.W PyProof.Rows
set_option maxRecDepth 100000
set_option Elab.async false
set_option linter.unusedVariables false
namespace Mine
noncomputable def sigM : Manifest.Signature := (Manifest.signature? "re.Pattern.match").getD ⟨.hand, "", "", .none, []⟩
theorem sigM_eq : Manifest.signature? "re.Pattern.match" = some sigM := by kernel_rfl
theorem kindM_eq : builtinKind "re.Pattern.match" = some .method := by decide +kernel
theorem vaM : Manifest.varargsMethods.contains "re.Pattern.match" = false := by decide +kernel
theorem ckM (a : Addr) (x : Str) (t : Tok) : Bind.checkArgs "re.Pattern.match" { sigM with full := "Pattern.match" } ⟨[.ref a, .str x t], []⟩ = pure () := by kernel_rfl
theorem nameM : (s!"{Bind.lastOf "re.Pattern"}.{Bind.lastOf "re.Pattern.match"}") = "Pattern.match" := by kernel_rfl
theorem entM : entryFor table "re.Pattern.match" = some Builtin.«re.Pattern.match» := entryFor_of_tree (by kernel_rfl)
theorem nomodM : isSubtype (.type "re.Pattern") (.type "module") = pure false := by rw [isSubtype_type]; kernel_rfl
theorem plainM : plainId "re.Pattern.match" = true := by decide +kernel
section
variable {prog : Program} {w : World} {A : Around} {E : Value → Shared → Prop} {s : Shared}
theorem check_match {p : Addr} {o : Obj} {vs : Array Value} {x : Str} {t : Tok} {P : Unit → Shared → Prop} (ho : s.heap.get? p = some o) (hc : o.cls = .type "re.Pattern") (hd : o.data = .fields vs) (h : P () s) :
    wpAny (model prog w) A (checkBoundCall "re.Pattern.match" ⟨[.ref p, .str x t], []⟩) P E s := by
  have hT : s.TypeIs (.ref p) "re.Pattern" := ⟨o, ho, hc⟩
  unfold checkBoundCall
  rw [sigM_eq, kindM_eq]
  show wpAny _ _ (do let ofModule ← isInstance (.ref p) (.type "module"); _) _ _ _
  refine wpAny_bind (wpAny_isInstance hT nomodM ?_)
  simp only [vaM]
  rw [if_neg (by decide)]
  refine wpAny_bind ?_
  show wpAny _ _ (loadHead p >>= fun o => pure (match o.data with | .cls _ => true | _ => false)) _ _ _
  refine wpAny_bind (wpAny_loadPart ho (wpAny_pure ?_))
  rw [hd]
  show wpAny _ _ (typeOf (.ref p) >>= _) _ _ _
  refine wpAny_bind (wpAny_typeOf hT ?_)
  show wpAny _ _ (Bind.checkArgs "re.Pattern.match" { sigM with full := s!"{Bind.lastOf "re.Pattern"}.{Bind.lastOf "re.Pattern.match"}" } _) _ _ _
  rw [nameM, ckM]
  exact wpAny_pure h
theorem rep_out {m : Sre.M} {r : Sre.Outcome} (h : m.outcome = some r) : ∀ j, Nat.repeat Sre.M.step j m = m
  | 0 => rfl
  | j + 1 => by
    show Sre.M.step (Nat.repeat Sre.M.step j m) = m
    rw [rep_out h j]
    unfold Sre.M.step
    rw [if_pos (by rw [h]; rfl)]
theorem rep_add (a b : Nat) (m : Sre.M) : Nat.repeat Sre.M.step (a + b) m = Nat.repeat Sre.M.step a (Nat.repeat Sre.M.step b m) := by
  induction a with
  | zero => rw [Nat.zero_add]; rfl
  | succ a ih =>
    rw [Nat.succ_add]
    show Sre.M.step (Nat.repeat Sre.M.step (a + b) m) = Sre.M.step (Nat.repeat Sre.M.step a _)
    rw [ih]
theorem runFor_rep : ∀ (n : Nat) (m : Sre.M), Sre.M.runFor n m = Nat.repeat Sre.M.step n m
  | 0, m => rfl
  | n + 1, m => by
    unfold Sre.M.runFor
    cases ho : m.outcome with
    | some r => rw [rep_out ho]; rfl
    | none => rw [runFor_rep n, Re.rep_step]; rfl
theorem drive {P : Sre.M → Shared → Prop} {r : Sre.Outcome} : ∀ (n turns : Nat) (m : Sre.M) (j : Nat), j ≤ 4 * n → n < turns → (Nat.repeat Sre.M.step j m).outcome = some r → (∀ m', m'.outcome = some r → P m' s) → wpAny (model prog w) A (Builtin.Re.reDrive turns m) P E s
  | n, 0, m, j, hj, hn, h, hP => absurd hn (Nat.not_lt_zero _)
  | n, turns + 1, m, j, hj, hn, h, hP => by
    unfold Builtin.Re.reDrive
    show wpAny _ _ (if (Sre.M.runFor 4 m).outcome.isSome = true then pure (Sre.M.runFor 4 m) else do rule "sre.turn"; Builtin.Re.reDrive turns (Sre.M.runFor 4 m)) _ _ _
    rw [runFor_rep]
    by_cases hs : (Nat.repeat Sre.M.step 4 m).outcome.isSome = true
    · rw [if_pos hs]
      refine wpAny_pure (hP _ ?_)
      obtain ⟨r', hr'⟩ := Option.isSome_iff_exists.mp hs
      have h1 := rep_out hr' j
      rw [← rep_add, Nat.add_comm] at h1
      have h2 := rep_out h 4
      rw [← rep_add] at h2
      rw [← h1, h2]; exact h
    · rw [if_neg hs]
      refine wpAny_bind (wpAny_rule ?_)
      have hj4 : 4 < j := by
        rcases Nat.lt_or_ge 4 j with q | q
        · exact q
        · exfalso
          have h2 := rep_out h (4 - j)
          rw [← rep_add, show 4 - j + j = 4 by omega] at h2
          rw [h2, h] at hs
          exact hs rfl
      refine drive (n - 1) turns _ (j - 4) (by omega) (by omega) ?_ hP
      rw [← rep_add, show j - 4 + 4 = j by omega]; exact h
theorem for_quiet {α : Type} (f : α → Unit → Sem (ForInStep Unit)) (hf : ∀ a u (P : ForInStep Unit → Shared → Prop) (s : Shared), P (.yield ()) s → wpAny (model prog w) A (f a u) P E s) : ∀ (l : List α) (P : Unit → Shared → Prop), P () s → wpAny (model prog w) A (forIn l () f) P E s
  | [], P, h => wpAny_pure h
  | a :: l, P, h => by
    rw [List.forIn_cons]
    exact wpAny_bind (hf a () _ s (for_quiet f hf l P h))
theorem run_end {m : Sre.M} {yes : Bool} {k : Nat} {P : Option Sre.M → Shared → Prop} (h : Re.Fin k m yes) (hk : k ≤ 2 ^ 60) (hP : if yes then ∀ m', P (some m') s else P none s) : wpAny (model prog w) A (Builtin.Re.reRunToEnd m) P E s := by
  obtain ⟨j, hj, h⟩ := h
  unfold Builtin.Re.reRunToEnd
  refine wpAny_bind (drive k (2 ^ 64) m j (by omega) (by omega) h fun m' hm => ?_)
  refine wpAny_bind (for_quiet _ (fun i u P s hp => ?_) _ _ ?_)
  · split
    · exact wpAny_bind (wpAny_rule (wpAny_pure hp))
    · exact wpAny_pure hp
  · rw [hm]
    cases yes with
    | true => exact wpAny_pure (hP m')
    | false => exact wpAny_pure hP
end
/-- the row filter's method in the top -/
structure FilterAt (W : Wd) (a p q : Addr) : Prop where
  meth : ∃ o, W.h₁.get? a = some o ∧ o.cls = .type "builtin_function_or_method" ∧ o.data = .fields #[.builtin "re.Pattern.match", .ref p]
  pat : ∃ o v0 v1, W.h₁.get? p = some o ∧ o.cls = .type "re.Pattern" ∧ o.data = .fields #[v0, v1, .int 0 0, .none, .none, .ref q, .int 0 0]
  code : ∃ o vs n, W.h₁.get? q = some o ∧ o.cls = .type "tuple" ∧ o.data = .seq vs n ∧ (vs.map Builtin.Re.reRawOf).map (·.toNat) = Re.code
theorem reNamed_eq (v : Value) : Builtin.Re.reNamed "re.Pattern.match" "match" ["string", "pos", "endpos"] 1 [v] [] = pure [some v, none, none] := by kernel_rfl
section
variable {W : Wd} {A : Around} {F : Frm} {ρ : Loc} {H : AHeap} {s : Shared} {Q : Value → AHeap → Prop}
theorem call_filter {a p q : Addr} {x : Str} (f : FilterAt W a p q) (hz : x.length ≤ sizeLine) (h : if Re.J x.cps then ∀ m, Q (.ref m) H else Q .none H) : CallW W A (.ref a) [.str x 0] H Q := by
  intro s vs hvs i r
  obtain ⟨v, rfl, hv⟩ := args1 hvs
  obtain ⟨t, rfl⟩ := norm_str hv
  obtain ⟨o, ho, hc, hd⟩ := f.meth
  obtain ⟨op, v0, v1, hop, hcp, hdp⟩ := f.pat
  obtain ⟨oq, ws, n, hoq, hcq, hdq, hw⟩ := f.code
  have g1 := i.old.get_of_cls ho (by rw [hc]; intro q; cases q)
  have g2 := i.old.get_of_cls hop (by rw [hcp]; intro q; cases q)
  have g3 := i.old.get_of_cls hoq (by rw [hcq]; intro q; cases q)
  refine wpAny_call (codeAny_of_tree ?_)
  show wpAny _ _ (callAny (.ref a) ⟨[.str x t], []⟩) _ _ s
  unfold callAny
  refine wpAny_bind (wpAny_load g1 ?_)
  rw [hd]
  simp only [hc]
  show wpAny _ _ (checkBoundCall "re.Pattern.match" ⟨[.ref p, .str x t], []⟩ >>= fun _ => again (.builtin "re.Pattern.match" ⟨[.ref p, .str x t], []⟩)) _ _ s
  refine wpAny_bind (check_match g2 hcp hdp ?_)
  refine wpAny_pure ⟨plainId_quiet plainM _, codeAny_builtin entM ?_⟩
  unfold Builtin.«re.Pattern.match»
  refine wpAny_bind ?_
  unfold Builtin.Re.reTarget
  show wpAny _ _ (Builtin.Re.reNamed "re.Pattern.match" "match" ["string", "pos", "endpos"] 1 [.str x t] [] >>= _) _ _ _
  rw [reNamed_eq]
  show wpAny _ _ (fieldsOf (.ref p) >>= _) _ _ _
  refine wpAny_bind (wpAny_fieldsOf g2 hdp ?_)
  show wpAny _ _ (Builtin.Re.reRawItems (.ref q) >>= _) _ _ _
  refine wpAny_bind ?_
  unfold Builtin.Re.reRawItems
  refine wpAny_bind (wpAny_seqItems g3 hdq (wpAny_pure (wpAny_pure ?_)))
  have e1 : min ((0 : Int).toNat) x.cps.size = 0 := Nat.zero_min _
  have e2 : min ((2 ^ 63 - 1 : Int).toNat) x.cps.size = x.cps.size := by
    have h1 : x.cps.size ≤ sizeLine := hz
    have h2 : sizeLine ≤ (2 ^ 63 - 1 : Int).toNat := by decide
    omega
  have hcode : (((some ws).getD #[]).map Builtin.Re.reRawOf).map (·.toNat) = Re.code := hw
  unfold Builtin.Re.reAnswer
  show wpAny _ _ (Builtin.Re.reRunToEnd (Sre.forMatch ((((some ws).getD #[]).map Builtin.Re.reRawOf).map (·.toNat)) x.cps 0 (min ((0 : Int).toNat) x.cps.size) (min ((2 ^ 63 - 1 : Int).toNat) x.cps.size) false false) >>= _) _ _ _
  rw [hcode, e1, e2]
  have hsz : x.cps.size ≤ sizeLine := hz
  have hsl : sizeLine = 16777216 := by decide
  have fin := Re.fin_all (t := x.cps) (hd := 0) (sn := ({} : Sre.Seen).add 14) (by omega)
  refine wpAny_bind (run_end (m := Sre.forMatch Re.code x.cps 0 0 x.cps.size false false) fin (by omega) ?_)
  cases hJ : Re.J x.cps with
  | false =>
    rw [hJ] at h
    exact wpAny_pure ⟨H, .refl i r, h⟩
  | true =>
    rw [hJ] at h
    intro m'
    unfold Builtin.Re.reNewMatch
    refine wpAny_bind ?_
    show wpAny _ _ (newTuple [rawInt m'.start, rawInt m'.handed] >>= fun tp => newFields "re.Match" [.str x t, .ref p, _, _, _, tp]) _ _ _
    refine wpAny_bind ?_
    simp only [newTuple]
    refine wpAny_newObj_type ?_ (by size_fits)
    simp only [newFields]
    refine wpAny_newObj_type ?_ (by size_fits)
    have st := (step_push (o := { cls := .type "tuple", data := .seq [rawInt m'.start, rawInt m'.handed].toArray }) i r)
    exact wpAny_pure ⟨H, st.trans (step_push st.inv st.rel), h _⟩
end
end Mine
end

section
open PySem PySem.W PyProof.Rows
set_option maxRecDepth 100000
set_option Elab.async false
set_option linter.unusedVariables false
namespace Mine
/-- the kind of a text's iterator -/
def strIt (x : Str) : String := if x.cps.all (· < 128) then "str_ascii_iterator" else "str_iterator"
section
variable {prog : Program} {w : World} {A : Around} {E : Value → Shared → Prop} {s : Shared}
theorem pyIter_text {x : Str} {t : Tok} {P : Value → Shared → Prop} (h : P (.ref s.heap.objs.size) { s with heap := s.heap.push { cls := .type (strIt x), data := .fields #[.str x t, .int 0 0] } }) : wpAny (model prog w) A (pyIter (.str x t)) P E s := by
  unfold strIt at h
  cases ha : x.cps.all (· < 128)
  · rw [ha] at h; exact wpAny_pyIter_wide ha h
  · rw [ha] at h; exact wpAny_pyIter_ascii ha h
theorem draws_text (hh : A.handled = none) (it : Addr) (x : Str) (t : Tok) : Draws prog w A it [it] x.cps.size (SignAt x) (fun i h => h.IsStrIter it (strIt x) x t i) := by
  unfold strIt
  cases ha : x.cps.all (· < 128)
  · exact Draws.strWide hh it x t
  · exact Draws.strAscii hh it x t
abbrev zH1 (h : Heap) (x : Str) (t : Tok) : Heap := h.push { cls := .type (strIt x), data := .fields #[.str x t, .int 0 0] }
abbrev zH2 (h : Heap) (x : Str) (t : Tok) (y : Str) (u : Tok) : Heap := (zH1 h x t).push { cls := .type (strIt y), data := .fields #[.str y u, .int 0 0] }
abbrev zH3 (h : Heap) (x : Str) (t : Tok) (y : Str) (u : Tok) : Heap := (zH2 h x t y u).push { cls := .type "tuple", data := .seq #[.ref h.objs.size, .ref (zH1 h x t).objs.size] }
abbrev zH4 (h : Heap) (x : Str) (t : Tok) (y : Str) (u : Tok) : Heap := (zH3 h x t y u).push { cls := .type "tuple", data := .seq #[.none, .none] }
abbrev zH5 (h : Heap) (x : Str) (t : Tok) (y : Str) (u : Tok) : Heap := (zH4 h x t y u).push { cls := .type "zip", data := .fields #[.none, .bool false, .bool false, .ref (zH2 h x t y u).objs.size, .ref (zH3 h x t y u).objs.size] }
set_option maxHeartbeats 4000000 in
theorem meets_zip_texts (x : Str) (t : Tok) (y : Str) (u : Tok) :
    Meets (Builtin.«zip.__new__» ⟨[.type "zip", .str x t, .str y u], []⟩) (fun _ R s => R (.ok (.ret (.ref (zH4 s.heap x t y u).objs.size))) { s with heap := zH5 s.heap x t y u }) :=
  .of_wp fun prog w A R s h => by
    obtain ⟨hp, g, d, tk, os⟩ := s
    have hsub := sub_zip
    have p1 : ∀ (P : Value → Shared → Prop), P (.ref hp.objs.size) ⟨zH1 hp x t, g, d, tk, os⟩ → wpAny (model prog w) A.in1 (pyIter (.str x t)) P (fun e s' => R (.error e) s') ⟨hp, g, d, tk, os⟩ := fun P h => pyIter_text h
    have p2 : ∀ (P : Value → Shared → Prop), P (.ref (zH1 hp x t).objs.size) ⟨zH2 hp x t y u, g, d, tk, os⟩ → wpAny (model prog w) A.in1 (pyIter (.str y u)) P (fun e s' => R (.error e) s') ⟨zH1 hp x t, g, d, tk, os⟩ := fun P h => pyIter_text h
    generalize strIt x = kx at *
    generalize strIt y = ky at *
    wp_walk using p1, p2
    exact ⟨_, rfl, h⟩
theorem call_zip_texts {x : Str} {t : Tok} {y : Str} {u : Tok} {P : Value → Shared → Prop}
    (h : ∀ h', IsZip h' (s.heap.objs.size + 4) (s.heap.objs.size + 2) (s.heap.objs.size + 3) .none → IsPair h' (s.heap.objs.size + 2) (.ref s.heap.objs.size) (.ref (s.heap.objs.size + 1)) →
      IsPair h' (s.heap.objs.size + 3) .none .none → h'.IsStrIter s.heap.objs.size (strIt x) x t 0 → h'.IsStrIter (s.heap.objs.size + 1) (strIt y) y u 0 → h'.objs.size = s.heap.objs.size + 5 →
      (∀ c o, s.heap.get? c = some o → h'.get? c = some o) → P (.ref (s.heap.objs.size + 4)) { s with heap := h' }) :
    wpAny (model prog w) A (PySem.call (.type "zip") [.str x t, .str y u]) P E s := by
  refine callType_new F.called_zip (by decide) (F.typeCall_zip_2 _ _) (F.newCall_zip_2 _ _) (fun obj => F.args_object_init_3 obj _ _) F.entry_zip_new (meets_zip_texts x t y u) ?_
  have z1 : (zH1 s.heap x t).objs.size = s.heap.objs.size + 1 := Heap.size_push ..
  have z2 : (zH2 s.heap x t y u).objs.size = s.heap.objs.size + 2 := by rw [Heap.size_push, z1]
  have z3 : (zH3 s.heap x t y u).objs.size = s.heap.objs.size + 3 := by rw [Heap.size_push, z2]
  have z4 : (zH4 s.heap x t y u).objs.size = s.heap.objs.size + 4 := by rw [Heap.size_push, z3]
  have z5 : (zH5 s.heap x t y u).objs.size = s.heap.objs.size + 5 := by rw [Heap.size_push, z4]
  have g5 : (zH5 s.heap x t y u).get? (zH4 s.heap x t y u).objs.size = some _ := Heap.get?_push_size _ rfl
  have g4 : (zH5 s.heap x t y u).get? (zH3 s.heap x t y u).objs.size = some _ := Heap.get?_push_of_some _ (Heap.get?_push_size _ rfl)
  have g3 : (zH5 s.heap x t y u).get? (zH2 s.heap x t y u).objs.size = some _ := Heap.get?_push_of_some _ (Heap.get?_push_of_some _ (Heap.get?_push_size _ rfl))
  have g2 : (zH5 s.heap x t y u).get? (zH1 s.heap x t).objs.size = some _ := Heap.get?_push_of_some _ (Heap.get?_push_of_some _ (Heap.get?_push_of_some _ (Heap.get?_push_size _ rfl)))
  have g1 : (zH5 s.heap x t y u).get? s.heap.objs.size = some _ := Heap.get?_push_of_some _ (Heap.get?_push_of_some _ (Heap.get?_push_of_some _ (Heap.get?_push_of_some _ (Heap.get?_push_size _ rfl))))
  show _ ∧ _
  rw [z2, z3, z4] at g5
  rw [z1, z2] at g3
  rw [z3] at g4
  rw [z1] at g2
  rw [z4]
  exact ⟨⟨_, g5, rfl⟩, h _ g5 g3 g4 ⟨_, g1, rfl, rfl⟩ ⟨_, g2, rfl, rfl⟩ z5 fun c o e =>
    Heap.get?_push_of_some _ (Heap.get?_push_of_some _ (Heap.get?_push_of_some _ (Heap.get?_push_of_some _ (Heap.get?_push_of_some _ e))))⟩
end

/-- the text of a genexpr over zip(x, y), sign by sign -/
def zipTexts (f : Nat → Nat → Str) (x y : Str) : List Str := (x.cps.toList.zip y.cps.toList).map fun p => f p.1 p.2
theorem zipTexts_at {f : Nat → Nat → Str} {x y : Str} {i a b : Nat} (ha : x.cps[i]? = some a) (hb : y.cps[i]? = some b) : (zipTexts f x y)[i]? = some (f a b) := by
  unfold zipTexts
  rw [List.getElem?_map, List.getElem?_zip_eq_some.mpr ⟨(by rw [Array.getElem?_toList]; exact ha : x.cps.toList[i]? = some (a, b).1), (by rw [Array.getElem?_toList]; exact hb : y.cps.toList[i]? = some (a, b).2)⟩]
  rfl
theorem zipTexts_len {f : Nat → Nat → Str} {x y : Str} : (zipTexts f x y).length = min x.cps.size y.cps.size := by simp [zipTexts]
end Mine
end

section
open PySem PySem.W PyProof.Rows
set_option maxRecDepth 100000
set_option Elab.async false
set_option linter.unusedVariables false
namespace Mine
section
variable {W : Wd} {A : Around} {F : Frm} {ρ : Loc} {H : AHeap} {s : Shared} {Q : Value → AHeap → Prop}

/-- a code table grows -/
theorem step_table {c P : Addr} {ps₀ ps more : Array Value} {h' : Heap} {k : Nat} (T : TopOk W) (i : Inv W s) (r : HRel W H s) (ht₀ : W.h₁.TableAt c P ps₀) (hP : P ≠ cStatics) (ht : s.heap.TableAt c P ps) (ht' : h'.TableAt c P (ps ++ more)) (hc' : h'.IsCode c P (ps ++ more)) (hx : Heap.ExtBut P s.heap h') (hz : s.heap.objs.size ≤ h'.objs.size) :
    Step W H s H { s with heap := h', toks := k } := by
  have ns : ∀ b o, s.heap.get? b = some o → Solid o → b ≠ P := by
    rintro b o hb so rfl
    rw [ht.2] at hb; cases hb
    rcases so with q | ⟨_, _, q⟩ | ⟨_, q⟩
    · exact q rfl
    · cases q
    · cases q
  refine ⟨⟨i.old.step_table ht₀ ht ht' hx hP, fun o ho => hx _ _ (Ne.symm hP) (i.stat o ho), i.os, i.bare, Nat.le_trans i.size hz, ?_⟩, fun a x hx' => ?_, fun b o hb so _ _ => hx b o (ns b o hb so) hb, .refl, hz, fun _ _ h _ => h, Nat.le_refl _⟩
  · intro x hx'
    obtain ⟨h1, h2, ps', ⟨⟨o, vs, ho, rr⟩, hp⟩, hcd⟩ := i.tabs x hx'
    by_cases e : x.2 = P
    · have hne : x.1 ≠ P := by
        obtain ⟨_, _, _, _, _, _, _, _, _, _, _, _, _, _, _, _, _, _, _, _, hne⟩ := hcd
        rw [← e]; exact hne
      refine ⟨h1, h2, ps ++ more, ⟨⟨o, vs, hx _ _ hne ho, rr⟩, by rw [e]; exact ht'.2⟩, ?_⟩
      obtain ⟨o', vs', file, tf, flags, tg, inF, text, tt, op, a, r1, r2, r3, r4, r5, r6, b, r7, r8, r9⟩ := hcd
      obtain ⟨_, _, _, _, _, _, _, _, _, op2, _, _, _, _, _, _, _, b2, b3, b4, _⟩ := hc'
      exact ⟨o', vs', file, tf, flags, tg, inF, text, tt, op2, hx _ _ hne a, r1, r2, r3, r4, r5, r6, by rw [e]; exact b2, b3, b4, r9⟩
    · have hne : x.1 ≠ P := by
        rintro q
        rw [q, ht.2] at ho; cases ho
        cases rr.1
      refine ⟨h1, h2, ps', ⟨⟨o, vs, hx _ _ hne ho, rr⟩, hx _ _ e hp⟩, ?_⟩
      obtain ⟨o', vs', file, tf, flags, tg, inF, text, tt, op, a, r1, r2, r3, r4, r5, r6, b, r7⟩ := hcd
      exact ⟨o', vs', file, tf, flags, tg, inF, text, tt, op, hx _ _ hne a, r1, r2, r3, r4, r5, r6, hx _ _ e b, r7⟩
  · exact (r a x hx').keeps (fun o ho so => hx a o (ns a o ho so) ho) rfl

/-- the code of a generator expression -/
theorem gen_code {c P : Addr} {pos : Pos} {qualname : Str} {scope : Scope} {Pp : Value → Shared → Prop} (T : TopOk W) (i : Inv W s) (r : HRel W H s) (hc : F.env.code = .ref c) (hmem : (c, P) ∈ W.tabs) (ht₀ : ∃ ps₀, W.h₁.TableAt c P ps₀) (hP : P ≠ cStatics)
    (h : ∀ code s', Step W H s H s' → s'.gens = s.gens → Pp code s') : wpAny (model W.prog W.w) A (genexprCode F.env pos qualname scope) Pp (fun _ _ => False) s := by
  obtain ⟨_, _, ps, htab, hcode⟩ := i.tabs _ hmem
  obtain ⟨ps₀, ht₀⟩ := ht₀
  cases hf : codeAmong pos ps.toList with
  | some c' => exact wpAny_genexprCode_hit hc hcode hf (h _ _ (.refl i r) rfl)
  | none => exact wpAny_grows (wpAny_genexprCodeX hc hcode htab hf fun c' h' tk hx _ _ hc' _ ht' _ hz => h _ _ (step_table T i r ht₀ hP htab ht' hc' hx hz) rfl)

theorem gen_bi {Pp : Addr → Shared → Prop} (T : TopOk W) (i : Inv W s) (f : F.env.globals = mainGlobals) (h : Pp builtinsNs s) : wpAny (model W.prog W.w) A (builtinsFor F.env.globals F.env.builtins) Pp (fun _ _ => False) s := by
  obtain ⟨bm, ob, h1, h2, h3, h4, h5, h6⟩ := T.bmod
  rw [f]
  exact wpAny_builtinsFor (i.glob T) h1 h2 (i.old.get_of_cls h3 (by rw [h4]; intro q; cases q)) h4 h5 h6 h

theorem oldK_keep {h₀ h h' : Heap} (K : OldK h₀ h) (k : ∀ b o, b < h₀.objs.size → h.get? b = some o → h'.get? b = some o) : OldK h₀ h' := by
  have lt : ∀ {b o}, h₀.get? b = some o → b < h₀.objs.size := fun e => Heap.lt_size e
  refine ⟨fun b o e => ?_, fun b o e => let ⟨o', ho'⟩ := K.there b o e; ⟨o', k b o' (lt e) ho'⟩⟩
  rcases K.old b o e with x | ⟨tt, hc, vs, more, hv, x⟩ | ⟨rfl, hc, ⟨o', es, n, ho', q⟩, z⟩
  · exact .inl (k _ _ (lt e) x)
  · exact .inr (.inl ⟨tt, hc, vs, more, hv, k _ _ (lt e) x⟩)
  · exact .inr (.inr ⟨rfl, hc, ⟨o', es, n, k _ _ (lt e) ho', q⟩, fun key => by rw [OldK.staticOf_congr ((k _ _ (lt e) ho').trans ho'.symm) key]; exact z key⟩)
theorem gens_keep {a b : Array GenState} {gs : GenState} (hm : GenOnlyQ a.size (a.push gs) b) : (∀ (j : Nat) (st : GenState), a[j]? = some st → b[j]? = some st) ∧ a.size ≤ b.size := by
  have hp : ∀ (j : Nat) (st : GenState), a[j]? = some st → (a.push gs)[j]? = some st := fun j st h => by
    have hlt := (Array.getElem?_eq_some_iff.mp h).1
    rw [Array.getElem?_push_lt hlt, ← h]; exact (Array.getElem?_eq_getElem hlt).symm
  rcases hm with rfl | ⟨⟨hs, ho⟩, _⟩
  · exact ⟨hp, by rw [Array.size_push]; omega⟩
  · refine ⟨fun j st h => ?_, by rw [hs, Array.size_push]; omega⟩
    have hlt := (Array.getElem?_eq_some_iff.mp h).1
    rw [ho j (by omega)]; exact hp j st h

theorem ev_join_zip {sep xa xb : Str} {k kt : Nat} {cp apos zp zc pa pb pt gpos pos : Pos} {e1 e2 elt : Expr} {scope : Scope} {c P : Addr} (f : Nat → Nat → Str) (T : TopOk W) (hA : A.handled = none) (hroom : A.depth < recursionLimit)
    (hc : F.env.code = .ref c) (hmem : (c, P) ∈ W.tabs) (ht₀ : ∃ ps₀, W.h₁.TableAt c P ps₀) (hP : P ≠ cStatics)
    (hzip : F.scope.names.lookup ("zip" : Str) = some .globalImplicit) (hz1 : W.mg "zip" = none) (hz2 : W.mb "zip" = some (.type "zip"))
    (hco : scope.isCoroutine = false) (hclos : closureFor scope F.env = pure []) (hcell : ∀ y ∈ scope.names, y.2 ≠ .cell) (h0 : scope.names.lookup (".0" : Str) = some NameKind.local)
    (hxa : scope.names.lookup xa = some .local) (hxb : scope.names.lookup xb = some .local) (hab : xa ≠ xb) (hkind : scope.kind = .function)
    (hline : (apos.endLine == pos.line) = true) (hp1 : plainE e1 = true) (hp2 : plainE e2 = true)
    (helt : ∀ (A' : Around) (E' : Value → Shared → Prop) (ca cb : Nat) (ta tb : Tok) (s₂ : Shared) (m₂ : Str → Option Value) (C : Addr) (code : Value) (bi : Addr), A'.handled = none → s₂.heap.Ns C m₂ → m₂ xa = some (.str ⟨#[ca]⟩ ta) → m₂ xb = some (.str ⟨#[cb]⟩ tb) →
      wpAny (model W.prog W.w) A' (eval elt (genEnv scope [] C code bi F.env)) (fun y s₃ => (∃ u, y = .str (f ca cb) u) ∧ Keeps s₂ s₃) E' s₂)
    (h : EvW W A F e1 ρ H fun v1 H₁ => EvW W A F e2 ρ H₁ fun v2 H₂ => ∃ x y, v1 = .str x 0 ∧ v2 = .str y 0 ∧ x.length ≤ sizeLine ∧ JoinOk sep (zipTexts f x y) = true ∧ Q (.str (Txt.join sep (zipTexts f x y)) 0) H₂) :
    EvW W A F (.Call (.Attribute (.Constant (.str sep) k cp) "join" apos) [.GeneratorExp elt [⟨.Tuple [.Name xa pa, .Name xb pb] kt pt, .Call (.Name "zip" zp) [e1, e2] [] zc, [], 0⟩] scope gpos] [] pos) ρ H Q := by
  intro s i r fr
  refine wpAny_Call_method (T := "str") rfl (by rfl) hline PySem.F.plainAttrs_str PySem.F.slot_str_join PySem.F.type_str_join (wpAny_Constant_str ⟨typeIs_str _ _ _, fun a e => (by cases e), ?_⟩)
  have st₀ := (Step.refl i r).toks (s.toks + 1)
  refine Calls.callWith_builtin (by rfl) (Calls.evalArgs_plain (Calls.spliced_cons ?_))
  have hargs : ArgsW W A F [e1, e2] ρ H fun vs H₂ => ∃ x y, vs = [.str x 0, .str y 0] ∧ x.length ≤ sizeLine ∧ JoinOk sep (zipTexts f x y) = true ∧ Q (.str (Txt.join sep (zipTexts f x y)) 0) H₂ :=
    args_cons (h.mono fun v1 H₁ h₁ => args_cons (h₁.mono fun v2 H₂ ⟨x, y, e1, e2, q⟩ => args_nil ⟨x, y, by rw [e1, e2], q⟩))
  refine wpAny_GeneratorExp_walksQT hA hco hclos hcell h0 hxa hxb hab hkind hroom (wpAny_Call_NameR ?_) (fun _ => rfl)
  refine wpAny_mono (ev_builtin (pos := zp) (ρ := ρ) (H := H) (Q := fun v H' => v = .type "zip" ∧ H' = H) T hzip rfl hz1 hz2 ⟨rfl, rfl⟩ _ st₀.inv st₀.rel (fr.step st₀)) (fun fv s₁ ⟨H₁, x₁, e, eH⟩ => ?_) fun _ _ e => e.elim
  subst eH
  rw [norm_type e, star_plain zc F.env (by simp [hp1, hp2])]
  have st₁ := st₀.trans x₁
  refine PyProof.Rows.callWith_type (any_false _ _) (args_ev hargs x₁.inv x₁.rel (fr.step st₁) fun vs s₂ H₂ x₂ ⟨x, y, ev, hxl, hok, hq⟩ => ?_)
  have st₂ := st₁.trans x₂
  obtain ⟨v1, v2, rfl, hv1, hv2⟩ := args2 ev
  obtain ⟨t, rfl⟩ := norm_str hv1
  obtain ⟨u, rfl⟩ := norm_str hv2
  refine call_zip_texts fun h' hz hTI hTO hi1 hi2 hsz hk => ?_
  have x₃ := step_ext (k := s₂.toks) x₂.inv x₂.rel hk (by omega)
  have st₃ := st₂.trans x₃
  refine wpAny_pyIter_zip hz ⟨x₃.inv.nolimit T, ?_⟩
  refine gen_code T x₃.inv x₃.rel hc hmem ht₀ hP fun code s₄ x₄ hg₄ => gen_bi T x₄.inv fr.glob ?_
  have st₄ := st₃.trans x₄
  have n0 : s₂.heap.objs.size ≤ s₄.heap.objs.size := Nat.le_trans x₃.grow x₄.grow
  have h1s : W.h₁.objs.size ≤ s₂.heap.objs.size := x₂.inv.size
  have nz : ∀ k, H₂ (s₂.heap.objs.size + k) = none := fun k => x₂.rel.none_of (Heap.get?_none_of_le (Nat.le_add_right _ _))
  have kp : ∀ k o, h'.get? (s₂.heap.objs.size + k) = some o → Solid o → s₄.heap.get? (s₂.heap.objs.size + k) = some o := fun k o ho so => x₄.keep _ o ho so (nz k) id
  have hz₄ : IsZip s₄.heap (s₂.heap.objs.size + 4) (s₂.heap.objs.size + 2) (s₂.heap.objs.size + 3) .none := kp 4 _ hz (solid_cls rfl)
  have hTI₄ : IsPair s₄.heap (s₂.heap.objs.size + 2) (.ref s₂.heap.objs.size) (.ref (s₂.heap.objs.size + 1)) := kp 2 _ hTI (solid_cls rfl)
  have hTO₄ : IsPair s₄.heap (s₂.heap.objs.size + 3) .none .none := kp 3 _ hTO (solid_cls rfl)
  have hi1₄ : s₄.heap.IsStrIter s₂.heap.objs.size (strIt x) x t 0 := by
    obtain ⟨o, ho, hc, hd⟩ := hi1
    exact ⟨o, kp 0 o ho (solid_cls hc), hc, hd⟩
  have hi2₄ : s₄.heap.IsStrIter (s₂.heap.objs.size + 1) (strIt y) y u 0 := by
    obtain ⟨o, ho, hc, hd⟩ := hi2
    exact ⟨o, kp 1 o ho (solid_cls hc), hc, hd⟩
  have ad : ∀ a b : Nat, a ≠ b → (s₂.heap.objs.size + a : Addr) ≠ s₂.heap.objs.size + b := fun a b h e => h (Nat.add_left_cancel e)
  have D : ZApart (s₂.heap.objs.size + 4) (s₂.heap.objs.size + 2) (s₂.heap.objs.size + 3) s₂.heap.objs.size (s₂.heap.objs.size + 1) :=
    ⟨ad 2 4 (by decide), ad 3 4 (by decide), ad 0 4 (by decide), ad 1 4 (by decide), ad 2 3 (by decide), ad 2 0 (by decide), ad 2 1 (by decide), ad 3 0 (by decide), ad 3 1 (by decide), ad 0 1 (by decide)⟩
  have wrge : ∀ b ∈ [s₂.heap.objs.size + 4, s₂.heap.objs.size + 3, s₂.heap.objs.size, s₂.heap.objs.size + 1], s₂.heap.objs.size ≤ b := by
    intro b hb
    simp only [List.mem_cons, List.not_mem_nil, or_false] at hb
    rcases hb with e | e | e | e <;> rw [e] <;> first | exact Nat.le_refl _ | exact Nat.le_add_right _ _
  refine ⟨s₂.heap.objs.size + 4, _, _, _, _, _, _, fun _ => true, fun i v => ∃ a b u, x.cps[i]? = some a ∧ y.cps[i]? = some b ∧ v = .str (f a b) u, rfl,
    fun A' hA' => (WalksT_zipD (A := A') D (draws_text (A := A'.in1) hA' _ x t) (draws_text (A := A'.in1) hA' _ y u)).toU, fun i vals ⟨p, q, _, _, e⟩ => ⟨p, q, e⟩, ⟨hz₄, hTI₄, ⟨_, _, hTO₄⟩, hi1₄, hi2₄⟩, ?_, x₄.inv.nolimit T, ?_, ?_, ?_⟩
  · intro b hb
    simp only [List.mem_cons, List.not_mem_nil, or_false] at hb
    rcases hb with e | e | e | e | e <;> rw [e]
    · exact Heap.lt_size hz₄
    · exact Heap.lt_size hTI₄
    · exact Heap.lt_size hTO₄
    · obtain ⟨o, ho, _⟩ := hi1₄; exact Heap.lt_size ho
    · obtain ⟨o, ho, _⟩ := hi2₄; exact Heap.lt_size ho
  · intro hm
    exact absurd (Nat.lt_of_lt_of_le (Inv.lt_stat T) h1s) (Nat.not_lt.mpr (wrge _ hm))
  · intro href _
    refine ⟨fun A' E' i va vb s₅ m₅ hA' hp hn ha hb _ => wpAny_tests_nil ⟨rfl, s₅.heap, s₅.toks, rfl, fun _ _ e => e⟩, fun A' E' i va vb s₅ m₅ hA' hp _ hn ha hb _ => ?_⟩
    obtain ⟨p, q, ⟨ca, ta, h1, h2⟩, ⟨cb, tb, h3, h4⟩, e⟩ := hp
    have e2 : va = p ∧ vb = q := by simpa using e
    rw [e2.1, h2] at ha
    rw [e2.2, h4] at hb
    exact wpAny_mono (helt A' E' ca cb ta tb s₅ m₅ _ code builtinsNs hA' hn ha hb) (fun yv s₆ ⟨⟨u', e⟩, hk⟩ => ⟨⟨ca, cb, u', h1, h3, e⟩, hk⟩) fun _ _ e => e
  · intro a h₅ tk gs hb hlt hsz₅ keep₅ WS GA
    refine Calls.spliced_nil ?_
    have hpass : passing (fun _ => true) (min x.cps.size y.cps.size) 0 = List.range (min x.cps.size y.cps.size) := by
      unfold passing; simp
    refine wpAny_grows (SC.joinGen WS.in4_2 (fun _ _ st => st.1.typeIs) GA (fun b hb' => ?_) (List.mem_cons_self ..) (fun j v ⟨i, _, a, b, u, _, _, e⟩ => ⟨_, u, e⟩) (fun s₆ l hm hit => ?_) ?_)
    · show b < h₅.objs.size
      rw [hsz₅]
      rcases List.mem_cons.mp hb' with e | hb'
      · rw [e]; exact Nat.lt_succ_self _
      · rcases List.mem_cons.mp hb' with e | hb'
        · rw [e]; exact Nat.lt_succ_of_lt hlt
        · exact Nat.lt_succ_of_lt (Nat.lt_trans (List.mem_range.mp hb') hlt)
    · have hl : l.map (·.1) = zipTexts f x y := by
        have hsz' : l.length = min x.cps.size y.cps.size := by
          have := hit.1
          rw [hpass, List.length_range] at this
          simpa [strValues] using this
        apply List.ext_getElem?
        intro j
        by_cases hj : j < min x.cps.size y.cps.size
        · have hj' : j < l.length := by omega
          obtain ⟨i, hpi, ca, cb, u', h1, h2, e⟩ := hit.2 j (.str l[j].1 l[j].2) (by simp [strValues, List.getElem?_eq_getElem hj'])
          rw [hpass, List.getElem?_range hj] at hpi
          cases hpi
          injection e with e1 _
          rw [zipTexts_at h1 h2, List.getElem?_map, List.getElem?_eq_getElem hj']
          simp [e1]
        · rw [List.getElem?_eq_none (by simpa [hsz'] using Nat.le_of_not_lt hj), List.getElem?_eq_none (by rw [zipTexts_len]; exact Nat.le_of_not_lt hj)]
      rw [hl]
      refine ⟨hok, fun t' k' hgrow => ⟨H₂, st₂.trans ?_, hq⟩⟩
      have gk := gens_keep hm.gens
      have kall : ∀ b o, b < s₂.heap.objs.size → s₄.heap.get? b = some o → s₆.heap.get? b = some o := fun b o hb e => hm.heap b o (fun hmem => by
        rcases List.mem_cons.mp hmem with e | hmem
        · rw [e] at hb; exact absurd hb (Nat.not_lt.mpr n0)
        · exact absurd hb (Nat.not_lt.mpr (wrge b hmem))) (keep₅ b o e)
      have x34 := x₃.trans x₄
      have hsz5 : s₄.heap.objs.size ≤ h₅.objs.size := by rw [hsz₅]; exact Nat.le_succ_of_le (Nat.le_of_lt hlt)
      have htot : s₂.heap.objs.size ≤ s₆.heap.objs.size := Nat.le_trans n0 (Nat.le_trans hsz5 hgrow)
      refine ⟨⟨oldK_keep x₄.inv.old fun b o hb e => kall b o (Nat.lt_of_lt_of_le hb h1s) e, fun o ho => kall _ _ (Nat.lt_of_lt_of_le (Inv.lt_stat T) h1s) (x₄.inv.stat o ho), hm.os.trans x₄.inv.os, hm.gens.bare (x₄.inv.bare.push hb), Nat.le_trans h1s htot, x₄.inv.tabs.keep fun b o hb e => kall b o (Nat.lt_of_lt_of_le hb h1s) e⟩, fun b z hz' => ?_, fun b o hb' so hn _ => kall b o (Heap.lt_size hb') (x34.keep b o hb' so hn id), .refl, htot, fun j st hj hn => gk.1 j st (x34.gkeep j st hj hn), Nat.le_trans x34.ggrow gk.2⟩
      obtain ⟨oz, hoz, _⟩ := (x₂.rel b z hz').cls
      exact (x₄.rel b z hz').moves (fun o ho so => kall b o (Heap.lt_size hoz) ho) fun j c' e hj => gk.1 j _ hj
    · rw [hpass, List.length_range]
      exact Nat.le_trans (Nat.min_le_left ..) hxl
end
end Mine
end

section
open PySem PySem.W PyProof.Rows
set_option maxRecDepth 100000
set_option maxHeartbeats 0
set_option Elab.async false
set_option linter.unusedVariables false
namespace Mine
def Wof (w : World) (s₁ : Shared) (mg mb : Str → Option Value) : Wd := ⟨w, pw, s₁.heap, s₁.os, mg, mb, [(269, 265)]⟩
/-- what the walk stands on -/
structure Gd (W : Wd) : Prop where
  prog : W.prog = pw
  top : TopOk W
  obj : ∀ x ∈ ko, ∃ o, W.h₁.get? x.1 = some o ∧ noDoc o = x.2
  nam : ∀ x ∈ kn, ∃ m, W.h₁.Ns x.1 m ∧ m x.2.1 = x.2.2
  tabs : W.tabs = [(269, 265)]
  free : ∀ x, x ∉ startupNames → x ∉ looseW qv loose → x ∉ (recsOf qv).map (·.name) → x ∉ (litsOf qv).map (·.1) → x ∉ (clssOf qv (looseW qv loose)).map (·.name) → W.mg x = none
  boot : ∀ x : Str, x ≠ "__name__" → W.mb x = bootBuiltins x
theorem gd_of {w : World} {s₀ s₁ : Shared} {mg mb : Str → Option Value} (G : Ground qv loose [] (fun _ _ => True) w s₀ mg mb s₁.heap) (Y : YP w s₁.heap) : Gd (Wof w s₁ mg mb) :=
  ⟨rfl, ⟨G.T.g, G.T.b, G.T.nolimit, G.T.bmain⟩, Y.1, Y.2, rfl, G.T.free, G.T.builtins⟩
section
variable {W : Wd}
theorem noDoc_cls (o : Obj) : (noDoc o).cls = o.cls := by
  obtain ⟨c, d, data, s⟩ := o
  cases data <;> rfl
theorem Gd.fields (g : Gd W) {a : Addr} {o : Obj} (h : (a, o) ∈ ko) (hd : ∀ f, o.data ≠ .func f) : W.h₁.get? a = some o := by
  obtain ⟨o', ho, e⟩ := g.obj _ h
  have : o' = o := by
    obtain ⟨c, d, data, s⟩ := o'
    cases data with
    | func f => exact absurd (by have e' : noDoc ⟨c, d, .func f, s⟩ = o := e; rw [← e']; rfl) (hd { f with doc := .none })
    | _ => exact e
  rw [← this]; exact ho
theorem Gd.name (g : Gd W) {x : Str} {v : Option Value} (h : (3, x, v) ∈ kn) : W.mg x = v := by
  obtain ⟨m, hm, hv⟩ := g.nam _ h
  have := hm.agree g.top.g x
  rw [← this]; exact hv
theorem Gd.builtin (g : Gd W) {x : Str} {v : Value} (hx : x ≠ "__name__") (h : bootBuiltins x = some v) : W.mb x = some v := by rw [g.boot x hx]; exact h
theorem zip_builtin (g : Gd W) : W.mb "zip" = some (.type "zip") := g.builtin (by decide) (by kernel_rfl)
theorem zip_free (g : Gd W) : W.mg "zip" = none := g.free _ (by decide +kernel) (by decide +kernel) (by decide +kernel) (by decide +kernel) (by decide +kernel)
end
def stArgs : Stmt → Arguments
  | .FunctionDef _ args _ _ _ _ _ _ _ _ => args
  | _ => ⟨[], [], none, [], [], none, []⟩
def stBody : Stmt → List Stmt
  | .FunctionDef _ _ body _ _ _ _ _ _ _ => body
  | _ => []
def stScope : Stmt → Scope
  | .FunctionDef _ _ _ _ _ _ scope _ _ _ => scope
  | _ => default
def isDef : Stmt → Bool
  | .FunctionDef _ _ _ _ _ _ _ _ _ _ => true
  | _ => false
section
variable {W : Wd}
theorem Gd.fnC (g : Gd W) {a c : Addr} {st : Stmt} {q : Str} {df pm : Value} {oc : Obj} (h : (a, fnObj st q df pm (.ref c)) ∈ ko) (hst : isDef st = true) (hc : (c, oc) ∈ ko) (hcc : oc.cls = .type "code") (hcd : ∃ vs t, oc.data = .fields vs ∧ vs[1]? = some (.str q t)) (hk : (stScope st).kind = .function) :
    FnC W a q (stArgs st) (stBody st) (stScope st) (.ref c) df := by
  obtain ⟨o, ho, e⟩ := g.obj _ h
  obtain ⟨vs, t, hd, hq⟩ := hcd
  have hoc := g.fields hc (by intro f q; rw [hd] at q; cases q)
  cases st <;> first | (exfalso; exact Bool.noConfusion (hst : false = true)) | skip
  refine ⟨?_, ⟨c, oc, vs, t, rfl, hoc, hd, hq⟩, fun c' o' e' ho' => (by cases e'; rw [hoc] at ho'; cases ho'; rw [hcc]; intro q; cases q), hk⟩
  obtain ⟨cl, dd, data, sl⟩ := o
  cases data with
  | func f =>
    dsimp only at e
    have e' := e
    refine ⟨_, f, ho, ?_⟩
    have hcl : cl = .type "function" := congrArg Obj.cls e'
    have hf := congrArg Obj.data e'
    have hf' := Data.func.inj hf
    refine ⟨(by rw [hcl]; intro q; cases q), rfl, congrArg FuncData.qualname hf', congrArg FuncData.params hf', congrArg FuncData.body hf', congrArg FuncData.scope hf', congrArg FuncData.globals hf', congrArg FuncData.closure hf', congrArg FuncData.defaults hf', congrArg FuncData.kwdefaults hf', congrArg FuncData.code hf', congrArg FuncData.builtins hf'⟩
  | _ => cases e
theorem Gd.fn (g : Gd W) {a c : Addr} {st : Stmt} {q : Str} {df pm : Value} {oc : Obj} (h : (a, fnObj st q df pm (.ref c)) ∈ ko) (hst : isDef st = true) (hc : (c, oc) ∈ ko) (hcc : oc.cls = .type "code") (hcd : ∃ vs t, oc.data = .fields vs ∧ vs[1]? = some (.str q t)) (hk : (stScope st).kind = .function)
    (hcl : ((stScope st).names.all fun x => x.2 != .cell) = true) : FnAt W a q (stArgs st) (stBody st) (stScope st) (.ref c) df := by
  have f := g.fnC h hst hc hcc hcd hk
  exact ⟨f.at_, f.code, f.codeCls, f.kind, fun x hx => by have := List.all_eq_true.mp hcl x hx; simpa using this⟩
theorem keep_fn (g : Gd W) : FnAt W 270 (Str.ofString "_keep_original_ws") (stArgs (topSt 7)) (stBody (topSt 7)) (stScope (topSt 7)) (.ref 269) .none :=
  g.fn (oc := ob269) (List.mem_of_getElem? (i := 0) rfl) (by kernel_rfl) (List.mem_of_getElem? (i := 10) rfl) rfl ⟨_, _, rfl, rfl⟩ (by kernel_rfl) (by kernel_rfl)
end
end Mine
end

section
open PySem PySem.W PyProof.Rows
set_option maxRecDepth 100000
set_option maxHeartbeats 0
set_option Elab.async false
set_option linter.unusedVariables false
namespace Mine
/-- one sign below another -/
def keepSign (a b : Nat) : Str := if b = 32 ∧ Txt.isspace ⟨#[a]⟩ = true then ⟨#[a]⟩ else ⟨#[b]⟩
/-- what _keep_original_ws gives -/
def kept (x y : Str) : Str := Txt.join (Str.ofString "") (zipTexts keepSign x y)
theorem sign_eq (a b : Nat) : ((⟨#[a]⟩ : Str) == ⟨⟨[b]⟩⟩) = decide (a = b) := by
  rw [Bool.eq_iff_iff, beq_iff_eq, decide_eq_true_iff]
  constructor
  · intro e
    have := congrArg (fun x : Str => x.cps.toList) e
    simpa using this
  · rintro rfl; rfl
section
variable {W : Wd} {A : Around} {H : AHeap} {Q : Value → AHeap → Prop}
theorem keep_ws (g : Gd W) {x y : Str} (hA : A.handled = none) (hroom : A.depth + 1 < recursionLimit) (hx : x.length ≤ sizeLine) (hok : JoinOk (Str.ofString "") (zipTexts keepSign x y) = true) (h : Q (.str (kept x y) 0) H) : CallW W A (.ref 270) [.str x 0, .str y 0] H Q := by
  refine fn_call (nb := [(Str.ofString "s", .str x 0), (Str.ofString "tag_s", .str y 0)]) g.top (keep_fn g) (by kernel_rfl) (by kernel_rfl) (by omega) (fun s vs fd i hvs e1 e2 e3 => ?_) fun L => ?_
  · obtain ⟨v1, v2, rfl, h1, h2⟩ := args2 hvs
    obtain ⟨fn, fq, fp, fb, fs, fg, fc, fdf, fk, fdc, fpm, fan, fcd, fct, fbi⟩ := fd
    simp only at e1 e2 e3
    subst e1 e2 e3
    refine ⟨[(Str.ofString "s", v1), (Str.ofString "tag_s", v2)], .of_eq (by rfl), by simp [h1, h2], ?_⟩
    intro z hz
    simp only [List.mem_cons, List.not_mem_nil, or_false] at hz
    rcases hz with rfl | rfl
    · kernel_rfl
    · kernel_rfl
  · refine exs_cons ?_
    refine ex_expr rfl rfl (ev_str ?_)
    refine exs_cons (ex_return (ev_join_zip keepSign (c := 269) (P := 265) g.top hA (by show A.depth + 1 < _; exact hroom) rfl (by rw [g.tabs]; exact List.mem_singleton.mpr rfl) ?_ (by decide) rfl (zip_free g) (zip_builtin g) rfl rfl ?_ rfl rfl rfl (by decide) rfl rfl rfl rfl ?_ ?_))
    · exact ⟨#[], ⟨_, _, g.fields (o := ob269) (List.mem_of_getElem? (i := 10) rfl) (by intro f q; cases q), rfl, rfl, rfl⟩, g.fields (o := ob265) (List.mem_of_getElem? (i := 9) rfl) (by intro f q; cases q)⟩
    · decide
    · intro A' E' ca cb ta tb s₂ m₂ C code bi hA' hn ha hb
      refine wpAny_IfExp (wpAny_isTrue_BoolOp (wpAny_allTrue_And_cons (wpAny_isTrue_Compare1 (wpAny_Name (wpAny_loadName_local rfl rfl hn hb (wpAny_Constant_str (eq_str (wpAny_truthy_bool ?_)))) rfl) rfl)))
      have kp : ∀ k, Keeps s₂ { s₂ with toks := k } := fun k => ⟨s₂.heap, k, rfl, fun _ _ e => e⟩
      rw [sign_eq]
      by_cases hc : cb = 32
      · rw [decide_eq_true hc, if_pos rfl]
        refine wpAny_allTrue_And_cons (isTrue_plain (wpAny_Call_method (T := "str") rfl rfl rfl PySem.F.plainAttrs_str PySem.F.slot_str_isspace PySem.F.type_str_isspace (wpAny_Name (wpAny_loadName_local rfl rfl hn ha ⟨typeIs_str _ _ _, fun a e => (by cases e), callWith_method0 (call_meets PySem.F.slot_str_isspace (typeIs_str _ _ _) PySem.F.entry_str_isspace (PySem.F.args_str_isspace_1 _) (gives_str_isspace _ _).meets (wpAny_truthy_bool ?_))⟩) rfl)) rfl)
        cases hs : Txt.isspace ⟨#[ca]⟩ with
        | false =>
          show (if Txt.isspace ⟨#[ca]⟩ = true then _ else _)
          rw [hs, if_neg (by decide), if_neg (by decide)]
          exact wpAny_Name (wpAny_loadName_local rfl rfl hn hb ⟨⟨tb, by unfold keepSign; rw [if_neg (fun q => by rw [hs] at q; exact Bool.noConfusion q.2)]⟩, kp _⟩) rfl
        | true =>
          show (if Txt.isspace ⟨#[ca]⟩ = true then _ else _)
          rw [hs, if_pos rfl]
          refine wpAny_allTrue_And_nil ?_
          rw [if_pos rfl]
          exact wpAny_Name (wpAny_loadName_local rfl rfl hn ha ⟨⟨ta, by unfold keepSign; rw [if_pos ⟨hc, hs⟩]⟩, kp _⟩) rfl
      · rw [decide_eq_false hc, if_neg (by decide), if_neg (by decide)]
        exact wpAny_Name (wpAny_loadName_local rfl rfl hn hb ⟨⟨tb, by unfold keepSign; rw [if_neg (fun q => hc q.1)]⟩, kp _⟩) rfl
    · refine ev_local rfl rfl rfl (ev_local rfl rfl rfl ⟨x, y, rfl, rfl, hx, hok, h⟩)
end
end Mine
end

section
open PySem PySem.W PyProof.Rows
set_option maxRecDepth 100000
set_option maxHeartbeats 0
set_option Elab.async false
set_option linter.unusedVariables false
namespace Mine
theorem over_func_depth (A : Around) (b : List Stmt) (e : Env) : (A.over (.func b e) []).depth = A.depth + 1 := by
  show A.depth + 0 + (Code.func b e).weight = _
  rfl
theorem over_func_handled (A : Around) (b : List Stmt) (e : Env) : (A.over (.func b e) []).handled = A.handled := rfl
/-- the row of marks below a line -/
def marks (x t : Str) : Str := Txt.rstrip (kept x t)
def below (m : Str) : List Str := if m.length = 0 then [] else [Str.ofString "? " ++ m ++ Str.ofString "\n"]
/-- what _qformat gives -/
def qrows (a b ta tb : Str) : List Str := (Str.ofString "- " ++ a) :: (below (marks a ta) ++ (Str.ofString "+ " ++ b) :: below (marks b tb))
section
variable {W : Wd} {A : Around} {H : AHeap} {Q : Value → AHeap → Prop}
theorem qf_fn (g : Gd W) : FnAt W 327 (Str.ofString "Differ._qformat") (stArgs (inSt 8 7)) (stBody (inSt 8 7)) (stScope (inSt 8 7)) (.ref 326) .none :=
  g.fn (oc := ob326) (List.mem_of_getElem? (i := 2) rfl) (by kernel_rfl) (List.mem_of_getElem? (i := 16) rfl) rfl ⟨_, _, rfl, rfl⟩ (by kernel_rfl) (by kernel_rfl)
theorem keep_name (g : Gd W) : W.mg (Str.ofString "_keep_original_ws") = some (.ref 270) := g.name (List.mem_of_getElem? (i := 11) rfl)
/-- sizes that a line and its tags may have -/
structure Fit (x t : Str) : Prop where
  l : x.length + 4 ≤ sizeLine
  ok : JoinOk (Str.ofString "") (zipTexts keepSign x t) = true
  k : (kept x t).length + 4 ≤ sizeLine
theorem qf_drains (g : Gd W) {self : Value} {a b ta tb : Str} {L : Addr} (hA : A.handled = none) (hroom : A.depth + 3 < recursionLimit) (fa : Fit a ta) (fb : Fit b tb) :
    Drains W A (.func (stBody (inSt 8 7)) (envOf (Str.ofString "Differ._qformat") (stScope (inSt 8 7)) L 327 (.ref 326))) ⟨envOf (Str.ofString "Differ._qformat") (stScope (inSt 8 7)) L 327 (.ref 326)⟩
      (locOf [(Str.ofString "self", self), (Str.ofString "aline", .str a 0), (Str.ofString "bline", .str b 0), (Str.ofString "atags", .str ta 0), (Str.ofString "btags", .str tb 0)]) H ((qrows a b ta tb).map fun x => .str x 0) := by
  refine drains_func fun G hGA hGF hys ok vis => ?_
  obtain ⟨GA, GF, N, NG, X, XG, Hc, ys'⟩ := G
  simp only at hGA hGF hys
  subst hGA hGF hys
  refine exsg_cons (exg_plain ok (ex_expr rfl rfl (ev_str ⟨vis, ?_⟩)))
  refine exsg_cons (exg_plain ok (ex_assign rfl (ev_meth (T := "str") rfl rfl (by decide) rfl PySem.F.plainAttrs_str PySem.F.slot_str_rstrip PySem.F.type_str_rstrip (ev_call rfl (ev_global g.top rfl rfl (keep_name g) ⟨(keep_fn g).callee, ?_⟩)))))
  refine args_cons (ev_local rfl rfl rfl (args_cons (ev_local rfl rfl rfl (args_nil (keep_ws g hA (by show GA.depth + 1 + 1 < _; omega) (by have := fa.l; omega) fa.ok ⟨typ_str, args_nil (call_rstrip (by have := fa.k; omega) (st_local g.top rfl ⟨vis, ?_⟩))⟩)))))
  refine exsg_cons (exg_plain ok (ex_assign rfl (ev_meth (T := "str") rfl rfl (by decide) rfl PySem.F.plainAttrs_str PySem.F.slot_str_rstrip PySem.F.type_str_rstrip (ev_call rfl (ev_global g.top rfl rfl (keep_name g) ⟨(keep_fn g).callee, ?_⟩)))))
  refine args_cons (ev_local rfl rfl rfl (args_cons (ev_local rfl rfl rfl (args_nil (keep_ws g hA (by show GA.depth + 1 + 1 < _; omega) (by have := fb.l; omega) fb.ok ⟨typ_str, args_nil (call_rstrip (by have := fb.k; omega) (st_local g.top rfl ⟨vis, ?_⟩))⟩)))))
  refine exsg_cons (exg_yield ok (y := .str (Str.ofString "- " ++ a) 0) rfl rfl rfl rfl rfl (ev_binop (ev_str (ev_local rfl rfl rfl (bop_add_str (by have := fa.l; have e : (Str.ofString "- ").length = 2 := rfl; show 2 + a.length ≤ _; omega) ⟨vis, rfl, ?_⟩)))))
  have hma : (marks a ta).length + 4 ≤ sizeLine := by have := fa.k; have h2 := len_rstrip (kept a ta); unfold marks; omega
  refine exsg_cons (exg_if ok (ts_plain rfl (ev_local rfl rfl rfl (tr_str (by show (marks a ta).length ≤ _; omega) ⟨vis, ?_⟩))))
  have hmb : (marks b tb).length + 4 ≤ sizeLine := by have := fb.k; have h2 := len_rstrip (kept b tb); unfold marks; omega
  show if (((marks a ta).length : Int) != 0) = true then _ else _
  by_cases h0 : (marks a ta).length = 0
  · have ea : below (marks a ta) = [] := by unfold below; rw [if_pos h0]
    have ec : (((marks a ta).length : Int) != 0) = false := by simp [h0]
    rw [ec, ea, if_neg (by decide)]
    refine exsg_nil ?_
    refine exsg_cons (exg_yield ok (y := .str (Str.ofString "+ " ++ b) 0) rfl rfl rfl rfl rfl (ev_binop (ev_str (ev_local rfl rfl rfl (bop_add_str (by have := fb.l; show 2 + b.length ≤ _; omega) ⟨vis, rfl, ?_⟩)))))
    refine exsg_cons (exg_if ok (ts_plain rfl (ev_local rfl rfl rfl (tr_str (by show (marks b tb).length ≤ _; omega) ⟨vis, ?_⟩))))
    show if (((marks b tb).length : Int) != 0) = true then _ else _
    by_cases h1 : (marks b tb).length = 0
    · have eb : below (marks b tb) = [] := by unfold below; rw [if_pos h1]
      have ec : (((marks b tb).length : Int) != 0) = false := by simp [h1]
      rw [ec, eb, if_neg (by decide)]
      exact exsg_nil (exsg_nil ⟨rfl, .inl rfl⟩)
    · have eb : below (marks b tb) = [Str.ofString "? " ++ marks b tb ++ Str.ofString "\n"] := by unfold below; rw [if_neg h1]
      have ec : (((marks b tb).length : Int) != 0) = true := by simp; omega
      rw [ec, eb, if_pos rfl]
      refine exsg_cons (exg_yield ok (y := .str (Str.ofString "? " ++ marks b tb ++ Str.ofString "\n") 0) rfl rfl rfl rfl rfl (ev_fstr (ev_str ⟨_, rfl, by decide, ev_fmt (ev_local rfl rfl rfl ⟨marks b tb, rfl, by omega, marks b tb, rfl, by show 2 + _ ≤ _; omega, ev_str ⟨_, rfl, ?_, ?_, vis, ?_, exsg_nil (exsg_nil ⟨rfl, .inl rfl⟩)⟩⟩)⟩)))
      · show (Str.empty ++ _ ++ marks b tb).length + 1 ≤ _
        rw [strLen_append]; show 2 + _ + 1 ≤ _; omega
      · rw [strLen_append, strLen_append]; show 2 + _ + 1 ≤ _; omega
      · rfl
  · have ea : below (marks a ta) = [Str.ofString "? " ++ marks a ta ++ Str.ofString "\n"] := by unfold below; rw [if_neg h0]
    have ec : (((marks a ta).length : Int) != 0) = true := by simp; omega
    rw [ec, ea, if_pos rfl]
    refine exsg_cons (exg_yield ok (y := .str (Str.ofString "? " ++ marks a ta ++ Str.ofString "\n") 0) rfl rfl rfl rfl rfl (ev_fstr (ev_str ⟨_, rfl, by decide, ev_fmt (ev_local rfl rfl rfl ⟨marks a ta, rfl, by omega, marks a ta, rfl, by show 2 + _ ≤ _; omega, ev_str ⟨_, rfl, ?_, ?_, vis, ?_, exsg_nil ?_⟩⟩)⟩)))
    · show (Str.empty ++ _ ++ marks a ta).length + 1 ≤ _
      rw [strLen_append]; show 2 + _ + 1 ≤ _; omega
    · rw [strLen_append, strLen_append]; show 2 + _ + 1 ≤ _; omega
    · rfl
    refine exsg_cons (exg_yield ok (y := .str (Str.ofString "+ " ++ b) 0) rfl rfl rfl rfl rfl (ev_binop (ev_str (ev_local rfl rfl rfl (bop_add_str (by have := fb.l; show 2 + b.length ≤ _; omega) ⟨vis, rfl, ?_⟩)))))
    refine exsg_cons (exg_if ok (ts_plain rfl (ev_local rfl rfl rfl (tr_str (by show (marks b tb).length ≤ _; omega) ⟨vis, ?_⟩))))
    show if (((marks b tb).length : Int) != 0) = true then _ else _
    by_cases h1 : (marks b tb).length = 0
    · have eb : below (marks b tb) = [] := by unfold below; rw [if_pos h1]
      have ec : (((marks b tb).length : Int) != 0) = false := by simp [h1]
      rw [ec, eb, if_neg (by decide)]
      exact exsg_nil (exsg_nil ⟨rfl, .inl rfl⟩)
    · have eb : below (marks b tb) = [Str.ofString "? " ++ marks b tb ++ Str.ofString "\n"] := by unfold below; rw [if_neg h1]
      have ec : (((marks b tb).length : Int) != 0) = true := by simp; omega
      rw [ec, eb, if_pos rfl]
      refine exsg_cons (exg_yield ok (y := .str (Str.ofString "? " ++ marks b tb ++ Str.ofString "\n") 0) rfl rfl rfl rfl rfl (ev_fstr (ev_str ⟨_, rfl, by decide, ev_fmt (ev_local rfl rfl rfl ⟨marks b tb, rfl, by omega, marks b tb, rfl, by show 2 + _ ≤ _; omega, ev_str ⟨_, rfl, ?_, ?_, vis, ?_, exsg_nil (exsg_nil ⟨rfl, .inl rfl⟩)⟩⟩)⟩)))
      · show (Str.empty ++ _ ++ marks b tb).length + 1 ≤ _
        rw [strLen_append]; show 2 + _ + 1 ≤ _; omega
      · rw [strLen_append, strLen_append]; show 2 + _ + 1 ≤ _; omega
      · rfl
end
end Mine
end

section
open PySem PySem.W PyProof.Rows
set_option maxRecDepth 100000
set_option maxHeartbeats 0
set_option Elab.async false
set_option linter.unusedVariables false
namespace Mine
section
variable {W : Wd} {A : Around} {F : Frm} {ρ : Loc} {H : AHeap} {Q : Value → AHeap → Prop}
theorem init_fn (g : Gd W) : FnAt W 285 (Str.ofString "Differ.__init__") (stArgs (inSt 8 1)) (stBody (inSt 8 1)) (stScope (inSt 8 1)) (.ref 284) (.ref 278) :=
  g.fn (oc := ob284) (List.mem_of_getElem? (i := 1) rfl) (by kernel_rfl) (List.mem_of_getElem? (i := 13) rfl) rfl ⟨_, _, rfl, rfl⟩ (by kernel_rfl) (by kernel_rfl)
/-- the names of the class -/
structure DfCls (W : Wd) (mN : Str → Option Value) : Prop where
  cls : ClsAt W 330 329 mN
  init : mN "__init__" = some (.ref 285)
  qf : mN "_qformat" = some (.ref 327)
  ga : mN "__getattribute__" = none
  gt : mN "__getattr__" = none
  sa : mN "__setattr__" = none
  lj : mN "linejunk" = none
  cj : mN "charjunk" = none
theorem Gd.at329 (g : Gd W) {m : Str → Option Value} (hm : W.h₁.Ns 329 m) {x : Str} {v : Option Value} (h : (329, x, v) ∈ kn) : m x = v := by
  obtain ⟨m', hm', hv⟩ := g.nam _ h
  rw [← hm'.agree hm x]; exact hv
theorem df_cls (g : Gd W) : ∃ mN, DfCls W mN := by
  obtain ⟨m, hm, _⟩ := g.nam (329, Str.ofString "__init__", some (.ref 285)) (List.mem_of_getElem? (i := 0) rfl)
  refine ⟨m, ⟨⟨_, _, _, _, _, _, _, _, _, _, _, _, g.fields (o := ob330) (List.mem_of_getElem? (i := 37) rfl) (by intro f q; cases q)⟩, hm, by decide⟩, g.at329 hm (List.mem_of_getElem? (i := 0) rfl), g.at329 hm (List.mem_of_getElem? (i := 1) rfl), g.at329 hm (List.mem_of_getElem? (i := 4) rfl), g.at329 hm (List.mem_of_getElem? (i := 5) rfl), g.at329 hm (List.mem_of_getElem? (i := 18) rfl), g.at329 hm (List.mem_of_getElem? (i := 19) rfl), g.at329 hm (List.mem_of_getElem? (i := 20) rfl)⟩
theorem lk_linejunk : typeLookup (.type "object") "linejunk" = pure none := by rw [typeLookup_type, builtinLookup_eq_fast]; kernel_rfl
theorem lk_charjunk : typeLookup (.type "object") "charjunk" = pure none := by rw [typeLookup_type, builtinLookup_eq_fast]; kernel_rfl
theorem lk_qformat : typeLookup (.type "object") "_qformat" = pure none := by rw [typeLookup_type, builtinLookup_eq_fast]; kernel_rfl
/-- Differ() -/
theorem differ_call (g : Gd W) (hA : A.handled = none) (hroom : A.depth + 2 < recursionLimit) (h : ∀ x d m, H x = none → H d = none → x ≠ d → (∀ y, y ≠ Str.ofString "linejunk" → y ≠ Str.ofString "charjunk" → m y = none) → ∀ H', InstAt H' x 330 d m → (∀ b, b ≠ x → b ≠ d → H' b = H b) → Q (.ref x) H') : CallW W A (.ref 330) [] H Q := by
  obtain ⟨mN, D⟩ := df_cls g
  have hof : ∃ of, W.h₁.get? 285 = some of ∧ of.cls = .type "function" := by
    obtain ⟨o, ho, e⟩ := g.obj (285, ob285) (List.mem_of_getElem? (i := 1) rfl)
    exact ⟨o, ho, by rw [← noDoc_cls, e]; kernel_rfl⟩
  refine call_new D.cls D.init hof fun x d o hx hd hne hc hdi hnc => ?_
  refine fn_call (nb := [(Str.ofString "self", .ref x), (Str.ofString "linejunk", .none), (Str.ofString "charjunk", .none)]) g.top (init_fn g) (by kernel_rfl) (by kernel_rfl) (by show A.depth + 1 < _; omega) (fun s vs fd i hvs e1 e2 e3 => ?_) fun L => ?_
  · obtain ⟨v1, rfl, h1⟩ := args1 hvs
    obtain ⟨fn, fq, fp, fb, fs, fg, fc, fdf, fk, fdc, fpm, fan, fcd, fct, fbi⟩ := fd
    simp only at e1 e2 e3
    subst e1 e2 e3
    refine ⟨[(Str.ofString "self", v1), (Str.ofString "linejunk", .none), (Str.ofString "charjunk", .none)], .of_defaults rfl (i.old.get_of_cls (g.fields (o := ob278) (List.mem_of_getElem? (i := 32) rfl) (by intro f q; cases q)) (by intro q; cases q)) rfl (by rfl) (by rfl), by rw [List.map_cons, h1]; rfl, ?_⟩
    intro z hz
    simp only [List.mem_cons, List.not_mem_nil, or_false] at hz
    rcases hz with rfl | rfl | rfl
    · kernel_rfl
    · kernel_rfl
    · kernel_rfl
  · have I0 : InstAt ((H.put d (.ns fun _ => none)).put x (.raw o)) x 330 d (fun _ => none) := ⟨⟨o, AHeap.put_self .., hc, hdi, hnc⟩, by rw [AHeap.put_ne (Ne.symm hne), AHeap.put_self]⟩
    refine exs_cons (ex_expr rfl rfl (ev_str ?_))
    refine exs_cons (ex_assign_attr g.top rfl lk_linejunk (ev_local rfl rfl rfl (ev_local rfl rfl rfl ⟨x, 330, 329, d, mN, _, [], rfl, D.cls, D.sa, D.lj, I0, fun y h => absurd rfl h, by decide, ?_⟩)))
    have I1 := I0.set (m' := Loc.put (fun _ => none) (Str.ofString "linejunk") .none)
    refine exs_cons (ex_assign_attr g.top rfl lk_charjunk (ev_local rfl rfl rfl (ev_local rfl rfl rfl ⟨x, 330, 329, d, mN, _, [Str.ofString "linejunk"], rfl, D.cls, D.sa, D.cj, I1, fun y h => ?_, by decide, ?_⟩)))
    · by_cases e : y = Str.ofString "linejunk"
      · rw [e]; exact List.mem_singleton.mpr rfl
      · exfalso; apply h; show (if y = Str.ofString "linejunk" then _ else _) = _; rw [if_neg e]
    · refine exs_nil ⟨rfl, h x d _ hx hd hne ?_ _ I1.set fun b h1 h2 => ?_⟩
      · intro y h1 h2
        show (if y = Str.ofString "charjunk" then _ else (if y = Str.ofString "linejunk" then _ else _)) = _
        rw [if_neg h2, if_neg h1]
      · rw [AHeap.put_ne h2, AHeap.put_ne h2, AHeap.put_ne h1, AHeap.put_ne h2]
end
end Mine
end

section
open PySem PySem.W PyProof.Rows
set_option maxRecDepth 100000
set_option maxHeartbeats 0
set_option Elab.async false
set_option linter.unusedVariables false
namespace Mine
section
variable {W : Wd} {A : Around} {F : Frm} {ρ : Loc} {H : AHeap} {Q : Value → AHeap → Prop}
theorem junk_fn (g : Gd W) : FnAt W 348 (Str.ofString "IS_LINE_JUNK") (stArgs (topSt 10)) (stBody (topSt 10)) (stScope (topSt 10)) (.ref 347) (.ref 341) :=
  g.fn (oc := ob347) (List.mem_of_getElem? (i := 3) rfl) (by kernel_rfl) (List.mem_of_getElem? (i := 19) rfl) rfl ⟨_, _, rfl, rfl⟩ (by kernel_rfl) (by kernel_rfl)
theorem filter_at (g : Gd W) : FilterAt W 340 339 338 := by
  refine ⟨⟨_, g.fields (o := ob340) (List.mem_of_getElem? (i := 35) rfl) (by intro f q; cases q), rfl, rfl⟩, ⟨_, _, _, g.fields (o := ob339) (List.mem_of_getElem? (i := 34) rfl) (by intro f q; cases q), rfl, rfl⟩, ⟨_, _, _, g.fields (o := ob338) (List.mem_of_getElem? (i := 33) rfl) (by intro f q; cases q), rfl, rfl, by kernel_rfl⟩⟩
theorem junk_call (g : Gd W) {x : Str} (hA : A.handled = none) (hroom : A.depth < recursionLimit) (hx : x.length ≤ sizeLine) (h : Q (.bool (Re.J x.cps)) H) : CallW W A (.ref 348) [.str x 0] H Q := by
  refine fn_call (nb := [(Str.ofString "line", .str x 0), (Str.ofString "pat", .ref 340)]) g.top (junk_fn g) (by kernel_rfl) (by kernel_rfl) hroom (fun s vs fd i hvs e1 e2 e3 => ?_) fun L => ?_
  · obtain ⟨v1, rfl, h1⟩ := args1 hvs
    obtain ⟨fn, fq, fp, fb, fs, fg, fc, fdf, fk, fdc, fpm, fan, fcd, fct, fbi⟩ := fd
    simp only at e1 e2 e3
    subst e1 e2 e3
    refine ⟨[(Str.ofString "line", v1), (Str.ofString "pat", .ref 340)], .of_defaults rfl (i.old.get_of_cls (g.fields (o := ob341) (List.mem_of_getElem? (i := 36) rfl) (by intro f q; cases q)) (by intro q; cases q)) rfl (by rfl) (by rfl), by rw [List.map_cons, h1]; rfl, ?_⟩
    intro z hz
    simp only [List.mem_cons, List.not_mem_nil, or_false] at hz
    rcases hz with rfl | rfl
    · kernel_rfl
    · kernel_rfl
  · refine exs_cons (ex_expr rfl rfl (ev_str ?_))
    refine exs_cons (ex_return (ev_compare rfl (ev_callH rfl (ev_local rfl rfl rfl ⟨.bound 340 ob340 _ rfl (g.fields (o := ob340) (List.mem_of_getElem? (i := 35) rfl) (by intro f q; cases q)) rfl rfl, args_cons (ev_local rfl rfl rfl (args_nil (call_filter (filter_at g) hx ?_)))⟩))))
    cases hJ : Re.J x.cps with
    | true =>
      rw [hJ] at h
      exact fun m => ev_none (bop_isnot_none h)
    | false =>
      rw [hJ] at h
      exact ev_none (bop_isnot_none h)
end
end Mine
end

section
open PySem PySem.W PyProof.Rows
set_option maxRecDepth 100000
set_option maxHeartbeats 0
set_option Elab.async false
set_option linter.unusedVariables false
namespace Mine
noncomputable def freeName (x : Str) : Bool := !startupNames.contains x && !(looseW qv loose).contains x && !((recsOf qv).map (·.name)).contains x && !((litsOf qv).map (·.1)).contains x && !((clssOf qv (looseW qv loose)).map (·.name)).contains x && x != "__name__"
section
variable {W : Wd} {A : Around} {F : Frm} {ρ : Loc} {H : AHeap} {Q : Value → AHeap → Prop}
theorem Gd.bi (g : Gd W) {x : Str} {v : Value} (hx : freeName x = true) (h : bootBuiltins x = some v) : W.mg x = none ∧ W.mb x = some v := by
  unfold freeName at hx
  simp only [Bool.and_eq_true, Bool.not_eq_true', bne_iff_ne, ne_eq] at hx
  obtain ⟨⟨⟨⟨⟨h1, h2⟩, h3⟩, h4⟩, h5⟩, h6⟩ := hx
  have nc : ∀ {l : List Str}, l.contains x = false → x ∉ l := fun h q => by rw [List.contains_iff_mem.mpr q] at h; cases h
  exact ⟨g.free x (nc h1) (nc h2) (nc h3) (nc h4) (nc h5), g.builtin h6 h⟩
theorem bi_list (g : Gd W) : W.mg (Str.ofString "list") = none ∧ W.mb (Str.ofString "list") = some (.type "list") := g.bi (by kernel_rfl) (by kernel_rfl)
theorem bi_range (g : Gd W) : W.mg (Str.ofString "range") = none ∧ W.mb (Str.ofString "range") = some (.type "range") := g.bi (by kernel_rfl) (by kernel_rfl)
theorem bi_chr (g : Gd W) : W.mg (Str.ofString "chr") = none ∧ W.mb (Str.ofString "chr") = some (.builtin "chr") := g.bi (by kernel_rfl) (by kernel_rfl)
theorem bi_ord (g : Gd W) : W.mg (Str.ofString "ord") = none ∧ W.mb (Str.ofString "ord") = some (.builtin "ord") := g.bi (by kernel_rfl) (by kernel_rfl)
theorem bi_len (g : Gd W) : W.mg (Str.ofString "len") = none ∧ W.mb (Str.ofString "len") = some (.builtin "len") := g.bi (by kernel_rfl) (by kernel_rfl)
theorem bi_max (g : Gd W) : W.mg (Str.ofString "max") = none ∧ W.mb (Str.ofString "max") = some (.builtin "max") := g.bi (by kernel_rfl) (by kernel_rfl)
theorem AHeap.put_fresh {H : AHeap} {a b : Addr} {x y : AObj} (ha : H a = some x) (hb : H b = none) : H.put b y a = some x := by
  rw [AHeap.put_ne (fun e => by rw [e, hb] at ha; cases ha)]; exact ha
/-- list(range(a, b)) -/
theorem ev_list_range (g : Gd W) {a b : Int} {ka kb : Nat} {p1 p2 p3 p4 p5 p6 : Pos} (hA : A.handled = none) (h1 : F.scope.names.lookup (Str.ofString "list") = some .globalImplicit) (h2 : F.scope.names.lookup (Str.ofString "range") = some .globalImplicit)
    (ha : 0 ≤ a ∧ a ≤ 100000) (hb : 0 ≤ b ∧ b ≤ 100000) (h : ∀ r d o, H r = none → (H.put r (.raw o)) d = none → Q (.ref d) ((H.put r (.raw o)).put d (.list true (upTo a b)))) :
    EvW W A F (.Call (.Name (Str.ofString "list") p1) [.Call (.Name (Str.ofString "range") p2) [.Constant (.int a) ka p3, .Constant (.int b) kb p4] [] p5] [] p6) ρ H Q := by
  refine ev_call rfl (ev_builtin g.top h1 rfl (bi_list g).1 (bi_list g).2 ⟨.inr (.inl ⟨_, rfl⟩), args_cons (ev_call rfl (ev_builtin g.top h2 rfl (bi_range g).1 (bi_range g).2 ⟨.inr (.inl ⟨_, rfl⟩), args_cons (ev_int (args_cons (ev_int (args_nil (call_range2 fun r t u v hr => args_nil ?_)))))⟩))⟩)
  have hs : sizeLine = 16777216 := by decide
  exact call_list_of_range hA (AHeap.put_self ..) (by omega) (by omega) (by omega) (by omega) (by omega) (by omega) fun d hd => h r d _ hr hd
theorem whites_fn (g : Gd W) : FnAt W 353 (Str.ofString "_law_whites") (stArgs (topSt 12)) (stBody (topSt 12)) (stScope (topSt 12)) (.ref 352) .none :=
  g.fn (oc := ob352) (List.mem_of_getElem? (i := 4) rfl) (by kernel_rfl) (List.mem_of_getElem? (i := 22) rfl) rfl ⟨_, _, rfl, rfl⟩ (by kernel_rfl) (by kernel_rfl)
end
end Mine
end

section
open PySem PySem.W PyProof.Rows
set_option maxRecDepth 100000
set_option maxHeartbeats 0
set_option Elab.async false
set_option linter.unusedVariables false
namespace Mine
/-- the numbers of the white signs, as the law lists them -/
def whiteNs : List Nat := [9, 10, 11, 12, 13, 28, 29, 30, 31, 32, 133, 160, 5760, 8192, 8193, 8194, 8195, 8196, 8197, 8198, 8199, 8200, 8201, 8202, 8232, 8233, 8239, 8287, 12288]
def whiteStrs : List Str := whiteNs.map fun n => ⟨#[n]⟩
section
variable {W : Wd} {A : Around} {F : Frm} {ρ : Loc} {H : AHeap} {Q : Value → AHeap → Prop}
theorem compT_map {dep : AHeap → Prop} {x : Str} {elt : Expr} {P : List Value → AHeap → Prop} {f : Value → Value} (hdep : dep H) : ∀ (items acc : List Value) (ρ : Loc), (∀ v ∈ items, ∀ ρ' : Loc, EvW W A F elt (Loc.put ρ' x v) H fun u H' => u = f v ∧ H' = H) → P (acc ++ items.map f) H → CompT W A F dep x [] elt P items acc ρ H
  | [], acc, ρ, he, hq => ⟨hdep, by rw [List.map_nil, List.append_nil] at hq; exact hq⟩
  | v :: l, acc, ρ, he, hq => by
    refine ⟨hdep, ?_⟩
    show EvW W A F elt (ρ.put x v) H fun u H₂ => CompT W A F dep x [] elt P l (acc ++ [u]) (ρ.put x v) H₂
    refine (he v (List.mem_cons_self ..) ρ).mono fun u H' ⟨e1, e2⟩ => ?_
    rw [e1, e2]
    exact compT_map hdep l _ _ (fun v' hv' => he v' (List.mem_cons_of_mem _ hv')) (by rw [List.append_assoc]; exact hq)
theorem whites_call (g : Gd W) (hA : A.handled = none) (hroom : A.depth + 1 < recursionLimit) (h : ∀ d H', H' d = some (.list true (whiteStrs.map fun y => .str y 0)) → (∀ b x, H b = some x → H' b = some x) → Q (.ref d) H') : CallW W A (.ref 353) [] H Q := by
  refine fn_call (nb := []) g.top (whites_fn g) (by kernel_rfl) (by kernel_rfl) (by omega) (fun s vs fd i hvs e1 e2 e3 => ?_) fun L => ?_
  · rw [List.map_eq_nil_iff.mp hvs]
    obtain ⟨fn, fq, fp, fb, fs, fg, fc, fdf, fk, fdc, fpm, fan, fcd, fct, fbi⟩ := fd
    simp only at e1 e2 e3
    subst e1 e2 e3
    exact ⟨[], .of_eq (by rfl), rfl, fun z hz => by cases hz⟩
  · refine exs_cons (ex_assign rfl (ev_binop (ev_binop (ev_binop (ev_binop (ev_list_range g hA rfl rfl (by omega) (by omega) fun r1 d1 o1 hr1 hd1 => ev_list_range g hA rfl rfl (by omega) (by omega) fun r2 d2 o2 hr2 hd2 => ?_))))))
    have hs : sizeLine = 16777216 := by decide
    refine bop_add_list (AHeap.put_fresh (AHeap.put_fresh (AHeap.put_self ..) hr2) hd2) (AHeap.put_self ..) (by decide) fun a1 ha1 => ?_
    refine ev_list rfl (by decide) (args_cons (ev_int (args_cons (ev_int (args_cons (ev_int (args_nil ⟨by decide, fun a2 ha2 => ?_⟩)))))))
    refine bop_add_list (AHeap.put_fresh (AHeap.put_self ..) ha2) (AHeap.put_self ..) (by decide) fun a3 ha3 => ?_
    refine ev_list_range g hA rfl rfl (by omega) (by omega) fun r3 d3 o3 hr3 hd3 => ?_
    refine bop_add_list (AHeap.put_fresh (AHeap.put_fresh (AHeap.put_self ..) hr3) hd3) (AHeap.put_self ..) (by decide) fun a4 ha4 => ?_
    refine ev_list rfl (by decide) (args_cons (ev_int (args_cons (ev_int (args_cons (ev_int (args_cons (ev_int (args_cons (ev_int (args_nil ⟨by decide, fun a5 ha5 => ?_⟩)))))))))))
    refine bop_add_list (AHeap.put_fresh (AHeap.put_self ..) ha5) (AHeap.put_self ..) (by decide) fun a6 ha6 => st_local g.top rfl ?_
    refine exs_cons (ex_return (ev_comp (cl := []) g.top rfl (by decide) rfl (by decide) rfl (fun y c hc => by cases hc) (fun _ => rfl) (ev_local rfl rfl rfl ⟨_, _, iter_list hA (AHeap.put_self ..), by decide, fun C => ?_⟩)))
    refine compT_map (f := fun v => match v with | .int i _ => .str ⟨#[i.toNat]⟩ 0 | v => v) (AHeap.put_self ..) _ [] _ (fun v hv ρ' => ?_) fun a ha => h a _ ?_ ?_
    · have hv' : ∃ i : Int, v = .int i 0 ∧ 0 ≤ i ∧ i ≤ 0x10FFFF := by
        have key : ∀ v ∈ (whiteNs.map fun (n : Nat) => Value.int n 0), ∃ i : Int, v = .int i 0 ∧ 0 ≤ i ∧ i ≤ 0x10FFFF := by
          intro v hv
          obtain ⟨n, hn, rfl⟩ := List.mem_map.mp hv
          have : ∀ n ∈ whiteNs, n ≤ 0x10FFFF := by decide
          have := this n hn
          exact ⟨n, rfl, by omega, by omega⟩
        exact key v hv
      obtain ⟨i, rfl, h0, h1⟩ := hv'
      exact ev_call rfl (ev_builtin g.top rfl rfl (bi_chr g).1 (bi_chr g).2 ⟨.inl ⟨_, rfl⟩, args_cons (ev_local rfl rfl (by exact if_pos rfl) (args_nil (call_chr h0 h1 ⟨rfl, rfl⟩)))⟩)
    · rw [AHeap.put_self]
      rfl
    · intro b x hb
      exact AHeap.put_fresh (AHeap.put_fresh (AHeap.put_fresh (AHeap.put_fresh (AHeap.put_fresh (AHeap.put_fresh (AHeap.put_fresh (AHeap.put_fresh (AHeap.put_fresh (AHeap.put_fresh (AHeap.put_fresh (AHeap.put_fresh (AHeap.put_fresh hb hr1) hd1) hr2) hd2) ha1) ha2) ha3) hr3) hd3) ha4) ha5) ha6) ha
end
end Mine
end

section
open PySem PySem.W PyProof.Rows
set_option maxRecDepth 100000
set_option maxHeartbeats 0
set_option Elab.async false
set_option linter.unusedVariables false
namespace Mine
/-- the sign that a number lays -/
def signOf (x : Int) : Nat :=
  let rest := x.fdiv 4
  if x.fmod 4 = 0 then whiteNs.getD (rest.fmod 29).toNat 0
  else if x.fmod 4 = 1 then ((whiteNs.getD ((rest.fdiv 2).fmod 29).toNat 0 : Nat) + 1 - rest.fmod 2 * 2 : Int).toNat
  else if x.fmod 4 = 2 then (if rest.fmod 2 = 0 then 35 else ((rest.fdiv 2).fmod 128).toNat)
  else (if rest.fmod 1112064 < 55296 then rest.fmod 1112064 else rest.fmod 1112064 + 2048).toNat
def tagOf (x : Int) : Nat := if x.fmod 3 = 0 then 94 else 32
def textOf (ns : List Int) : Str := ⟨(8195 :: 35 :: 133 :: ns.map signOf).toArray⟩
def tagsOf (ns : List Int) : Str := ⟨((if ns.length % 2 = 0 then [32, 94, 32] else [32, 32, 32]) ++ ns.map tagOf).toArray⟩
def forBody : List Stmt → List Stmt
  | [_, .For _ _ b _ _, _] => b
  | _ => []
section
variable {W : Wd} {A : Around} {F : Frm} {ρ : Loc} {H : AHeap} {Q : Value → AHeap → Prop}
theorem bop_iadd_str {a b : Str} (hz : a.length + b.length ≤ sizeLine) (h : Q (.str (a ++ b) 0) H) : BopW W A (inplaceOp .Add) (.str a 0) (.str b 0) H Q := by
  intro s va vb ha hb i r
  obtain ⟨t, rfl⟩ := norm_str ha; obtain ⟨u, rfl⟩ := norm_str hb
  exact iadd_str (fun t' tk => ⟨H, (Step.refl i r).toks _, h⟩) hz
theorem ExW.mono {st : Stmt} {P P' : Flow → Loc → AHeap → Prop} (h : ExW W A F st ρ H P) (k : ∀ f ρ' H', P f ρ' H' → P' f ρ' H') : ExW W A F st ρ H P' :=
  fun s i r f => wpAny_mono (h s i r f) (fun _ _ ⟨ρ', H', x, fr, q⟩ => ⟨ρ', H', x, fr, k _ _ _ q⟩) fun _ _ e => e
theorem ExsW.mono {l : List Stmt} {P P' : Flow → Loc → AHeap → Prop} (h : ExsW W A F l ρ H P) (k : ∀ f ρ' H', P f ρ' H' → P' f ρ' H') : ExsW W A F l ρ H P' :=
  fun s i r f => wpAny_mono (h s i r f) (fun _ _ ⟨ρ', H', x, fr, q⟩ => ⟨ρ', H', x, fr, k _ _ _ q⟩) fun _ _ e => e
theorem text_turn (g : Gd W) {L wl : Addr} {n : Int} {t u : Str} {QQ : Flow → Loc → AHeap → Prop} (hA : A.handled = none) (hx : ρ (Str.ofString "x") = some (.int n 0)) (ht : ρ (Str.ofString "text") = some (.str t 0)) (hu : ρ (Str.ofString "tags") = some (.str u 0)) (hwl : ρ (Str.ofString "whites") = some (.ref wl))
    (hw : H wl = some (.list true (whiteStrs.map fun y => .str y 0))) (hz : t.length + 1 ≤ 1000) (hzu : u.length + 1 ≤ 1000)
    (hq : ∀ (ρ' : Loc) (p : Addr) (y : AObj), H p = none → ρ' (Str.ofString "text") = some (.str (t ++ ⟨#[signOf n]⟩) 0) → ρ' (Str.ofString "tags") = some (.str (u ++ ⟨#[tagOf n]⟩) 0) → ρ' (Str.ofString "whites") = some (.ref wl) → QQ .next ρ' (H.put p y)) :
    ExsW W A ⟨envOf (Str.ofString "_law_text") (stScope (topSt 13)) L 360 (.ref 359)⟩ (forBody (stBody (topSt 13))) ρ H QQ := by
  refine exs_cons (ex_swap (names := [Str.ofString "kind", Str.ofString "rest"]) hA rfl rfl (ev_tuple rfl (args_cons (ev_binop (ev_local rfl rfl hx (ev_int (bop_mod_int (by decide) ?_)))))))
  refine args_cons (ev_binop (ev_local rfl rfl hx (ev_int (bop_div_int (by decide) (PyProof.noPylong_of_log2 (by decide)) (args_nil ⟨by show 2 ≤ sizeLine; decide, fun p hp => ⟨p, _, rfl, AHeap.put_self .., rfl, st_local g.top rfl (st_local g.top rfl ?_)⟩⟩)))))
  have hw1 : (H.put p (.tuple [.int (n.fmod 4) 0, .int (n.fdiv 4) 0])) wl = some (.list true (whiteStrs.map fun y => .str y 0)) := AHeap.put_fresh hw hp
  refine exs_cons (ExW.mono (P := fun f ρ' H' => f = .next ∧ H' = H.put p (.tuple [.int (n.fmod 4) 0, .int (n.fdiv 4) 0]) ∧ ρ' (Str.ofString "text") = some (.str (t ++ ⟨#[signOf n]⟩) 0) ∧ ρ' (Str.ofString "tags") = some (.str u 0) ∧ ρ' (Str.ofString "x") = some (.int n 0) ∧ ρ' (Str.ofString "whites") = some (.ref wl)) (ex_if (ts_compare rfl (ev_local rfl rfl rfl (ev_int (bop_eq_int (tr_bool ?_)))))) ?_)
  · have hsl : sizeLine = 16777216 := by decide
    by_cases h0 : n.fmod 4 = 0
    · have e0 : (n.fmod 4 == 0) = true := by simp [h0]
      rw [e0, if_pos rfl]
      have hr : 0 ≤ (n.fdiv 4).fmod 29 ∧ (n.fdiv 4).fmod 29 < 29 := ⟨Int.fmod_nonneg_of_pos _ (by decide), Int.fmod_lt_of_pos _ (by decide)⟩
      have hl : ((n.fdiv 4).fmod 29).toNat < whiteNs.length := by show _ < 29; omega
      refine exs_cons (ex_aug rfl ht (ev_sub (ev_local rfl rfl hwl (ev_binop (ev_local rfl rfl rfl (ev_int (bop_mod_int (by decide) (sub_list (fun _ _ => rfl) (fun _ _ => rfl) hw1 hr.1 (v := .str ⟨#[whiteNs.getD ((n.fdiv 4).fmod 29).toNat 0]⟩ 0) ?_ (bop_iadd_str (by show t.length + 1 ≤ _; omega) (st_local g.top rfl (exs_nil ?_)))))))))))
      · unfold whiteStrs
        rw [List.getElem?_map, List.getElem?_map, List.getElem?_eq_getElem hl, List.getD_eq_getElem?_getD, List.getElem?_eq_getElem hl]
        rfl
      · have es : signOf n = whiteNs.getD ((n.fdiv 4).fmod 29).toNat 0 := by unfold signOf; simp only [h0, if_true]
        exact ⟨rfl, rfl, by rw [es]; rfl, hu, hx, hwl⟩
    · have e0 : (n.fmod 4 == 0) = false := by simp [h0]
      rw [e0, if_neg (by decide)]
      refine exs_cons (ex_if (ts_compare rfl (ev_local rfl rfl rfl (ev_int (bop_eq_int (tr_bool ?_))))))
      by_cases h1 : n.fmod 4 = 1
      · have e1 : (n.fmod 4 == 1) = true := by simp [h1]
        rw [e1, if_pos rfl]
        have hr : 0 ≤ ((n.fdiv 4).fdiv 2).fmod 29 ∧ ((n.fdiv 4).fdiv 2).fmod 29 < 29 := ⟨Int.fmod_nonneg_of_pos _ (by decide), Int.fmod_lt_of_pos _ (by decide)⟩
        have hr2 : 0 ≤ (n.fdiv 4).fmod 2 ∧ (n.fdiv 4).fmod 2 < 2 := ⟨Int.fmod_nonneg_of_pos _ (by decide), Int.fmod_lt_of_pos _ (by decide)⟩
        have hl : (((n.fdiv 4).fdiv 2).fmod 29).toNat < whiteNs.length := by show _ < 29; omega
        have hb : ∀ m ∈ whiteNs, 9 ≤ m ∧ m ≤ 12288 := by decide
        have hb' := hb _ (List.getElem_mem hl)
        have eg : whiteNs.getD (((n.fdiv 4).fdiv 2).fmod 29).toNat 0 = whiteNs[(((n.fdiv 4).fdiv 2).fmod 29).toNat] := by rw [List.getD_eq_getElem?_getD, List.getElem?_eq_getElem hl]; rfl
        refine exs_cons (ex_aug rfl ht (ev_call rfl (ev_builtin g.top rfl rfl (bi_chr g).1 (bi_chr g).2 ⟨.inl ⟨_, rfl⟩, args_cons (ev_binop (ev_binop (ev_call rfl (ev_builtin g.top rfl rfl (bi_ord g).1 (bi_ord g).2 ⟨.inl ⟨_, rfl⟩, args_cons (ev_sub (ev_local rfl rfl hwl (ev_binop (ev_binop (ev_local rfl rfl rfl (ev_int (bop_div_int (by decide) (PyProof.noPylong_of_log2 (by decide)) (ev_int (bop_mod_int (by decide) (sub_list (fun _ _ => rfl) (fun _ _ => rfl) hw1 hr.1 (v := .str ⟨#[whiteNs.getD (((n.fdiv 4).fdiv 2).fmod 29).toNat 0]⟩ 0) ?_ (args_nil (call_ord ?_))))))))))))⟩)))) ⟩)))
        · unfold whiteStrs
          rw [List.getElem?_map, List.getElem?_map, List.getElem?_eq_getElem hl, eg]
          rfl
        · refine ev_int (bop_add_int (ev_binop (ev_binop (ev_local rfl rfl rfl (ev_int (bop_mod_int (by decide) ?_))))))
          refine ev_int (bop_mul_int (IntMulOk.of_right (by decide)) (bop_sub_int (args_nil (call_chr (by rw [eg]; omega) (by rw [eg]; omega) (bop_iadd_str (by show t.length + 1 ≤ _; omega) (st_local g.top rfl (exs_nil (exs_nil ?_))))))))
          have es : signOf n = ((whiteNs.getD (((n.fdiv 4).fdiv 2).fmod 29).toNat 0 : Nat) + 1 - (n.fdiv 4).fmod 2 * 2 : Int).toNat := by unfold signOf; rw [if_neg h0, if_pos h1]
          exact ⟨rfl, rfl, by rw [es]; rfl, hu, hx, hwl⟩
      · have e1 : (n.fmod 4 == 1) = false := by simp [h1]
        rw [e1, if_neg (by decide)]
        refine exs_cons (ex_if (ts_compare rfl (ev_local rfl rfl rfl (ev_int (bop_eq_int (tr_bool ?_))))))
        by_cases h2 : n.fmod 4 = 2
        · have e2 : (n.fmod 4 == 2) = true := by simp [h2]
          rw [e2, if_pos rfl]
          have es : signOf n = (if (n.fdiv 4).fmod 2 = 0 then 35 else (((n.fdiv 4).fdiv 2).fmod 128).toNat) := by unfold signOf; rw [if_neg h0, if_neg h1, if_pos h2]
          refine exs_cons (ex_aug rfl ht (ev_ifexp (ts_compare rfl (ev_binop (ev_local rfl rfl rfl (ev_int (bop_mod_int (by decide) (ev_int (bop_eq_int (tr_bool ?_))))))))))
          by_cases h3 : (n.fdiv 4).fmod 2 = 0
          · have e3 : ((n.fdiv 4).fmod 2 == 0) = true := by simp [h3]
            rw [e3, if_pos rfl]
            refine ev_str (bop_iadd_str (by show t.length + 1 ≤ _; omega) (st_local g.top rfl (exs_nil (exs_nil (exs_nil ?_)))))
            rw [if_pos h3] at es
            exact ⟨rfl, rfl, by rw [es]; rfl, hu, hx, hwl⟩
          · have e3 : ((n.fdiv 4).fmod 2 == 0) = false := by simp [h3]
            rw [e3, if_neg (by decide)]
            have hr : 0 ≤ ((n.fdiv 4).fdiv 2).fmod 128 ∧ ((n.fdiv 4).fdiv 2).fmod 128 < 128 := ⟨Int.fmod_nonneg_of_pos _ (by decide), Int.fmod_lt_of_pos _ (by decide)⟩
            refine ev_call rfl (ev_builtin g.top rfl rfl (bi_chr g).1 (bi_chr g).2 ⟨.inl ⟨_, rfl⟩, args_cons (ev_binop (ev_binop (ev_local rfl rfl rfl (ev_int (bop_div_int (by decide) (PyProof.noPylong_of_log2 (by decide)) (ev_int (bop_mod_int (by decide) (args_nil (call_chr hr.1 (by omega) (bop_iadd_str (by show t.length + 1 ≤ _; omega) (st_local g.top rfl (exs_nil (exs_nil (exs_nil ?_))))))))))))))⟩)
            rw [if_neg h3] at es
            exact ⟨rfl, rfl, by rw [es]; rfl, hu, hx, hwl⟩
        · have e2 : (n.fmod 4 == 2) = false := by simp [h2]
          rw [e2, if_neg (by decide)]
          have es : signOf n = (if (n.fdiv 4).fmod 1112064 < 55296 then (n.fdiv 4).fmod 1112064 else (n.fdiv 4).fmod 1112064 + 2048).toNat := by unfold signOf; rw [if_neg h0, if_neg h1, if_neg h2]
          have hr : 0 ≤ (n.fdiv 4).fmod 1112064 ∧ (n.fdiv 4).fmod 1112064 < 1112064 := ⟨Int.fmod_nonneg_of_pos _ (by decide), Int.fmod_lt_of_pos _ (by decide)⟩
          refine exs_cons (ex_assign rfl (ev_binop (ev_local rfl rfl rfl (ev_int (bop_mod_int (by decide) (st_local g.top rfl ?_))))))
          refine exs_cons (ex_aug rfl ht (ev_call rfl (ev_builtin g.top rfl rfl (bi_chr g).1 (bi_chr g).2 ⟨.inl ⟨_, rfl⟩, args_cons (ev_ifexp (ts_compare rfl (ev_local rfl rfl rfl (ev_int (bop_lt_int (tr_bool ?_))))))⟩)))
          by_cases h3 : (n.fdiv 4).fmod 1112064 < 55296
          · rw [decide_eq_true h3, if_pos rfl]
            rw [if_pos h3] at es
            exact ev_local rfl rfl rfl (args_nil (call_chr hr.1 (by omega) (bop_iadd_str (by show t.length + 1 ≤ _; omega) (st_local g.top rfl (exs_nil (exs_nil (exs_nil ⟨rfl, rfl, by rw [es]; rfl, hu, hx, hwl⟩)))))))
          · rw [decide_eq_false h3, if_neg (by decide)]
            rw [if_neg h3] at es
            exact ev_binop (ev_local rfl rfl rfl (ev_int (bop_add_int (args_nil (call_chr (by omega) (by omega) (bop_iadd_str (by show t.length + 1 ≤ _; omega) (st_local g.top rfl (exs_nil (exs_nil (exs_nil ⟨rfl, rfl, by rw [es]; rfl, hu, hx, hwl⟩))))))))))
  · rintro f ρ' H' ⟨rfl, rfl, h1, h2, h3, h4⟩
    have hsl : sizeLine = 16777216 := by decide
    refine exs_cons (ex_aug rfl h2 (ev_ifexp (ts_compare rfl (ev_binop (ev_local rfl rfl h3 (ev_int (bop_mod_int (by decide) (ev_int (bop_eq_int (tr_bool ?_))))))))))
    by_cases h5 : n.fmod 3 = 0
    · have e : (n.fmod 3 == 0) = true := by simp [h5]
      rw [e, if_pos rfl]
      have et : tagOf n = 94 := by unfold tagOf; rw [if_pos h5]
      exact ev_str (bop_iadd_str (by show u.length + 1 ≤ _; omega) (st_local g.top rfl (exs_nil (hq _ p _ hp h1 (by rw [et]; rfl) h4))))
    · have e : (n.fmod 3 == 0) = false := by simp [h5]
      rw [e, if_neg (by decide)]
      have et : tagOf n = 32 := by unfold tagOf; rw [if_neg h5]
      exact ev_str (bop_iadd_str (by show u.length + 1 ≤ _; omega) (st_local g.top rfl (exs_nil (hq _ p _ hp h1 (by rw [et]; rfl) h4))))
end
end Mine
end

section
open PySem PySem.W PyProof.Rows
set_option maxRecDepth 100000
set_option maxHeartbeats 0
set_option Elab.async false
set_option linter.unusedVariables false
namespace Mine
section
variable {W : Wd} {A : Around} {F : Frm} {ρ : Loc} {H : AHeap} {Q : Value → AHeap → Prop}
theorem text_fn (g : Gd W) : FnAt W 360 (Str.ofString "_law_text") (stArgs (topSt 13)) (stBody (topSt 13)) (stScope (topSt 13)) (.ref 359) .none :=
  g.fn (oc := ob359) (List.mem_of_getElem? (i := 5) rfl) (by kernel_rfl) (List.mem_of_getElem? (i := 25) rfl) rfl ⟨_, _, rfl, rfl⟩ (by kernel_rfl) (by kernel_rfl)
theorem sign_push (l : List Nat) (c : Nat) : ((⟨l.toArray⟩ : Str) ++ ⟨#[c]⟩) = ⟨(l ++ [c]).toArray⟩ := by
  show (⟨l.toArray ++ #[c]⟩ : Str) = _
  congr 1
  simp
theorem text_turns (g : Gd W) {L wl l : Addr} {own : Bool} {items : List Value} {QQ : Flow → Loc → AHeap → Prop} (hA : A.handled = none) : ∀ (ns : List Int) (tl ul : List Nat) (ρ : Loc) (H : AHeap), H l = some (.list own items) → H wl = some (.list true (whiteStrs.map fun y => .str y 0)) →
    ρ (Str.ofString "text") = some (.str ⟨tl.toArray⟩ 0) → ρ (Str.ofString "tags") = some (.str ⟨ul.toArray⟩ 0) → ρ (Str.ofString "whites") = some (.ref wl) → tl.length + ns.length ≤ 1000 → ul.length + ns.length ≤ 1000 →
    (∀ ρ' H', ρ' (Str.ofString "text") = some (.str ⟨(tl ++ ns.map signOf).toArray⟩ 0) → ρ' (Str.ofString "tags") = some (.str ⟨(ul ++ ns.map tagOf).toArray⟩ 0) → (∀ b x, H b = some x → H' b = some x) → QQ .next ρ' H') →
    TurnsW W A ⟨envOf (Str.ofString "_law_text") (stScope (topSt 13)) L 360 (.ref 359)⟩ (fun H' => H' l = some (.list own items)) (Str.ofString "x") (forBody (stBody (topSt 13))) QQ (ns.map fun n => .int n 0) ρ H
  | [], tl, ul, ρ, H, hl, hw, ht, hu, hwl, hz, hzu, hq => ⟨hl, hq ρ H (by rw [List.map_nil, List.append_nil]; exact ht) (by rw [List.map_nil, List.append_nil]; exact hu) fun _ _ h => h⟩
  | n :: ns, tl, ul, ρ, H, hl, hw, ht, hu, hwl, hz, hzu, hq => by
    refine ⟨hl, st_local g.top rfl ?_⟩
    rw [List.length_cons] at hz hzu
    refine text_turn g (L := L) (wl := wl) (n := n) (t := ⟨tl.toArray⟩) (u := ⟨ul.toArray⟩) hA rfl ht hu hwl hw ?_ ?_ ?_
    · show tl.toArray.size + 1 ≤ 1000
      rw [List.size_toArray]; omega
    · show ul.toArray.size + 1 ≤ 1000
      rw [List.size_toArray]; omega
    · intro ρ' p y hp h1 h2 h3
      rw [sign_push] at h1 h2
      refine text_turns g hA ns (tl ++ [signOf n]) (ul ++ [tagOf n]) ρ' (H.put p y) (AHeap.put_fresh hl hp) (AHeap.put_fresh hw hp) h1 h2 h3 ?_ ?_ ?_
      · rw [List.length_append]; show tl.length + 1 + _ ≤ _; omega
      · rw [List.length_append]; show ul.length + 1 + _ ≤ _; omega
      · intro ρ'' H' k1 k2 k3
        rw [List.append_assoc] at k1 k2
        exact hq ρ'' H' k1 k2 fun b x hb => k3 b x (AHeap.put_fresh hb hp)
theorem text_call (g : Gd W) {l wl : Addr} {ns : List Int} (hA : A.handled = none) (hroom : A.depth + 1 < recursionLimit) (hl : H l = some (.list false (ns.map fun n => .int n 0))) (hw : H wl = some (.list true (whiteStrs.map fun y => .str y 0))) (hn : ns.length ≤ 63)
    (h : ∀ d H', H' d = some (.tuple [.str (textOf ns) 0, .str (tagsOf ns) 0]) → (∀ b x, H b = some x → H' b = some x) → Q (.ref d) H') : CallW W A (.ref 360) [.ref l, .ref wl] H Q := by
  refine fn_call (nb := [(Str.ofString "script", .ref l), (Str.ofString "whites", .ref wl)]) g.top (text_fn g) (by kernel_rfl) (by kernel_rfl) (by omega) (fun s vs fd i hvs e1 e2 e3 => ?_) fun L => ?_
  · obtain ⟨v1, v2, rfl, h1, h2⟩ := args2 hvs
    obtain ⟨fn, fq, fp, fb, fs, fg, fc, fdf, fk, fdc, fpm, fan, fcd, fct, fbi⟩ := fd
    simp only at e1 e2 e3
    subst e1 e2 e3
    refine ⟨[(Str.ofString "script", v1), (Str.ofString "whites", v2)], .of_eq (by rfl), by rw [List.map_cons, List.map_cons, h1, h2]; rfl, ?_⟩
    intro z hz
    simp only [List.mem_cons, List.not_mem_nil, or_false] at hz
    rcases hz with rfl | rfl
    · kernel_rfl
    · kernel_rfl
  · have hsl : sizeLine = 16777216 := by decide
    refine exs_cons (ex_swap (names := [Str.ofString "text", Str.ofString "tags"]) hA rfl rfl (ev_tuple rfl (args_cons (ev_binop (ev_binop (ev_call rfl (ev_builtin g.top rfl rfl (bi_chr g).1 (bi_chr g).2 ⟨.inl ⟨_, rfl⟩, args_cons (ev_int (args_nil (call_chr (by decide) (by decide) ?_)))⟩)))))))
    refine ev_str (bop_add_str (by decide) (ev_call rfl (ev_builtin g.top rfl rfl (bi_chr g).1 (bi_chr g).2 ⟨.inl ⟨_, rfl⟩, args_cons (ev_int (args_nil (call_chr (by decide) (by decide) (bop_add_str (by decide) ?_))))⟩)))
    refine args_cons (EvW.mono (Q := fun v H' => v = .str ⟨(if ns.length % 2 = 0 then [32, 94, 32] else [32, 32, 32]).toArray⟩ 0 ∧ H' = H) (ev_ifexp (ts_compare rfl (ev_binop (ev_call rfl (ev_builtin g.top rfl rfl (bi_len g).1 (bi_len g).2 ⟨.inl ⟨_, rfl⟩, args_cons (ev_local rfl rfl rfl (args_nil (call_len_l hl (ev_int (bop_mod_int (by decide) (ev_int (bop_eq_int (tr_bool ?_)))))))) ⟩))))) fun v H' ⟨e1, e2⟩ => ?_)
    · by_cases h2 : ns.length % 2 = 0
      · have e : (((List.map (fun n => Value.int n 0) ns).length : Int).fmod 2 == 0) = true := by
          rw [List.length_map, beq_iff_eq, Int.fmod_eq_emod_of_nonneg _ (by decide)]; omega
        rw [e, if_pos rfl]
        exact ev_str ⟨by rw [if_pos h2], rfl⟩
      · have e : (((List.map (fun n => Value.int n 0) ns).length : Int).fmod 2 == 0) = false := by
          rw [List.length_map, beq_eq_false_iff_ne, Int.fmod_eq_emod_of_nonneg _ (by decide)]; omega
        rw [e, if_neg (by decide)]
        exact ev_str ⟨by rw [if_neg h2], rfl⟩
    · subst e1
      rw [e2]
      refine args_nil ⟨by show 2 ≤ sizeLine; decide, fun t ht => ⟨t, _, rfl, AHeap.put_self .., rfl, st_local g.top rfl (st_local g.top rfl ?_)⟩⟩
      refine exs_cons (ex_for g.top (fun v => rfl) (ev_local rfl rfl rfl ⟨_, _, iter_list hA (AHeap.put_fresh hl ht), ?_⟩))
      refine text_turns (A := A.deeper _) (L := L) (wl := wl) (l := l) g hA ns [8195, 35, 133] (if ns.length % 2 = 0 then [32, 94, 32] else [32, 32, 32]) _ _ ?_ ?_ ?_ ?_ ?_ ?_ ?_ ?_
      · exact AHeap.put_fresh hl ht
      · exact AHeap.put_fresh hw ht
      · rfl
      · rfl
      · rfl
      · show 3 + _ ≤ _; omega
      · split <;> (show 3 + _ ≤ _; omega)
      intro ρ' H' h1 h2 h3
      refine exs_cons (ex_return (ev_tuple rfl (args_cons (ev_local rfl rfl h1 (args_cons (ev_local rfl rfl h2 (args_nil ⟨by show 2 ≤ sizeLine; omega, fun d hd => h d _ ?_ ?_⟩)))))))
      · rw [AHeap.put_self]; rfl
      · intro b x hb
        exact AHeap.put_fresh (h3 b x (AHeap.put_fresh hb ht)) hd
end
end Mine
end

section
open PySem PySem.W PyProof.Rows
set_option maxRecDepth 100000
set_option maxHeartbeats 0
set_option Elab.async false
set_option linter.unusedVariables false
namespace Mine
/-- L is right behind the last mark -/
def LastIs (t : Str) (L : Nat) : Prop := (L = 0 ∨ ∃ k, L = k + 1 ∧ t.cps[k]? = some 94) ∧ ∀ k, t.cps[k]? = some 94 → k < L
/-- the sign in the row below -/
def belowAt (text tags : Str) (k : Nat) : Str :=
  if tags.cps[k]? = some 94 then ⟨#[94]⟩ else if whiteNs.contains (text.cps[k]?.getD 0) then ⟨#[text.cps[k]?.getD 0]⟩ else ⟨#[32]⟩
def lawRows (code text tags : Str) (L : Nat) : List Str :=
  (code ++ text) :: if L = 0 then [] else [Str.ofString "? " ++ Txt.join (Str.ofString "") ((List.range L).map (belowAt text tags)) ++ Str.ofString "\n"]
theorem str1_inj {a b : Nat} : ((⟨#[a]⟩ : Str) == ⟨#[b]⟩) = (a == b) := by
  rw [Bool.eq_iff_iff, beq_iff_eq, beq_iff_eq]
  constructor
  · intro e
    have := congrArg (fun x : Str => x.cps.toList) e
    simpa using this
  · rintro rfl; rfl
theorem white_any (c : Nat) : whiteStrs.any (· == (⟨#[c]⟩ : Str)) = whiteNs.contains c := by
  unfold whiteStrs
  rw [List.any_map, Bool.eq_iff_iff, List.any_eq_true, List.contains_iff_mem]
  constructor
  · rintro ⟨n, hn, e⟩
    have e' : ((⟨#[n]⟩ : Str) == ⟨#[c]⟩) = true := e
    rw [str1_inj, beq_iff_eq] at e'
    rw [← e']; exact hn
  · intro h
    refine ⟨c, h, ?_⟩
    show ((⟨#[c]⟩ : Str) == ⟨#[c]⟩) = true
    rw [str1_inj]; exact beq_self_eq_true c
section
variable {W : Wd} {A : Around} {F : Frm} {ρ : Loc} {H : AHeap} {Q : Value → AHeap → Prop}
theorem compT_flt {dep : AHeap → Prop} {x : Str} {c elt : Expr} {P : List Value → AHeap → Prop} {f : Value → Value} {p : Value → Bool} {ρ₀ : Loc} (hdep : dep H) : ∀ (items acc : List Value) (ρ : Loc), (∀ y, y ≠ x → ρ y = ρ₀ y) →
    (∀ v ∈ items, ∀ ρ' : Loc, ρ' x = some v → (∀ y, y ≠ x → ρ' y = ρ₀ y) → TsW W A F c ρ' H fun b H' => b = p v ∧ H' = H) → (∀ v ∈ items, p v = true → ∀ ρ' : Loc, ρ' x = some v → (∀ y, y ≠ x → ρ' y = ρ₀ y) → EvW W A F elt ρ' H fun u H' => u = f v ∧ H' = H) →
    P (acc ++ (items.filter p).map f) H → CompT W A F dep x [c] elt P items acc ρ H
  | [], acc, ρ, hρ, ht, he, hq => ⟨hdep, by rw [List.filter_nil, List.map_nil, List.append_nil] at hq; exact hq⟩
  | v :: l, acc, ρ, hρ, ht, he, hq => by
    have hv : (ρ.put x v) x = some v := if_pos rfl
    have hn : ∀ y, y ≠ x → (ρ.put x v) y = ρ₀ y := fun y hy => (if_neg hy).trans (hρ y hy)
    refine ⟨hdep, ?_⟩
    show TsW W A F c (ρ.put x v) H _
    refine fun s i r fr => wpAny_mono (ht v (List.mem_cons_self ..) _ hv hn s i r fr) (fun b s' ⟨H', st, e1, e2⟩ => ⟨H', st, ?_⟩) fun _ _ e => e
    rw [e2, e1]
    cases hp : p v with
    | true =>
      rw [if_pos rfl]
      refine (he v (List.mem_cons_self ..) hp _ hv hn).mono fun u H'' ⟨e3, e4⟩ => ?_
      rw [e3, e4]
      refine compT_flt hdep l _ _ hn (fun v' h' => ht v' (List.mem_cons_of_mem _ h')) (fun v' h' => he v' (List.mem_cons_of_mem _ h')) ?_
      rw [List.filter_cons, if_pos hp, List.map_cons] at hq
      rw [List.append_assoc]; exact hq
    | false =>
      rw [if_neg (by decide)]
      refine compT_flt hdep l _ _ hn (fun v' h' => ht v' (List.mem_cons_of_mem _ h')) (fun v' h' => he v' (List.mem_cons_of_mem _ h')) ?_
      rw [List.filter_cons, if_neg (by rw [hp]; decide)] at hq
      exact hq
theorem compT_mapL {dep : AHeap → Prop} {x : Str} {elt : Expr} {P : List Value → AHeap → Prop} {f : Value → Value} {ρ₀ : Loc} (hdep : dep H) : ∀ (items acc : List Value) (ρ : Loc), (∀ y, y ≠ x → ρ y = ρ₀ y) →
    (∀ v ∈ items, ∀ ρ' : Loc, ρ' x = some v → (∀ y, y ≠ x → ρ' y = ρ₀ y) → EvW W A F elt ρ' H fun u H' => u = f v ∧ H' = H) →
    P (acc ++ items.map f) H → CompT W A F dep x [] elt P items acc ρ H
  | [], acc, ρ, hρ, he, hq => ⟨hdep, by rw [List.map_nil, List.append_nil] at hq; exact hq⟩
  | v :: l, acc, ρ, hρ, he, hq => by
    have hv : (ρ.put x v) x = some v := if_pos rfl
    have hn : ∀ y, y ≠ x → (ρ.put x v) y = ρ₀ y := fun y hy => (if_neg hy).trans (hρ y hy)
    refine ⟨hdep, ?_⟩
    show EvW W A F elt (ρ.put x v) H _
    refine (he v (List.mem_cons_self ..) _ hv hn).mono fun u H'' ⟨e3, e4⟩ => ?_
    rw [e3, e4]
    refine compT_mapL hdep l _ _ hn (fun v' h' => he v' (List.mem_cons_of_mem _ h')) ?_
    rw [List.map_cons] at hq
    rw [List.append_assoc]; exact hq
theorem rows_fn (g : Gd W) : FnC W 365 (Str.ofString "_law_rows") (stArgs (topSt 14)) (stBody (topSt 14)) (stScope (topSt 14)) (.ref 364) .none :=
  g.fnC (oc := ob364) (List.mem_of_getElem? (i := 6) rfl) (by kernel_rfl) (List.mem_of_getElem? (i := 28) rfl) rfl ⟨_, _, rfl, rfl⟩ (by kernel_rfl)
theorem args4 {vs : List Value} {a b c d : Value} (h : vs.map norm = [a, b, c, d]) : ∃ x y z w, vs = [x, y, z, w] ∧ norm x = a ∧ norm y = b ∧ norm z = c ∧ norm w = d := by
  obtain ⟨x, l, rfl, h1, h2⟩ := List.map_eq_cons_iff.mp h
  obtain ⟨y, z, w, rfl, h3, h4, h5⟩ := args3 h2
  exact ⟨x, y, z, w, rfl, h1, h3, h4, h5⟩
/-- the cells of _law_rows -/
def rowsCells (L : Addr) : List (Str × Addr) := [(Str.ofString "whites", L + 1 + 1 + 1), (Str.ofString "tags", L + 1 + 1), (Str.ofString "text", L + 1)]
theorem rows_cells (L : Addr) : cellsFrom (L + 1) (stScope (topSt 14)).names [] = rowsCells L := by rfl
theorem rows_lk {L : Addr} {x : Str} {c : Addr} (h : (rowsCells L).lookup x = some c) : x = Str.ofString "whites" ∨ x = Str.ofString "tags" ∨ x = Str.ofString "text" := by
  unfold rowsCells at h
  simp only [List.lookup_cons, List.lookup_nil] at h
  split at h
  · rename_i e; exact .inl (by simpa using e)
  · split at h
    · rename_i e; exact .inr (.inl (by simpa using e))
    · split at h
      · rename_i e; exact .inr (.inr (by simpa using e))
      · cases h
def isMark (t : Str) (k : Nat) : Bool := decide (t.cps[k]? = some 94)
def ends (t : Str) : List Int := 0 :: ((List.range t.length).filter (isMark t)).map fun (k : Nat) => (k : Int) + 1
def addOne : Value → Value
  | .int i _ => .int (i + 1) 0
  | v => v
def markV (t : Str) : Value → Bool
  | .int i _ => isMark t i.toNat
  | _ => false
theorem ends_eq (t : Str) : [Value.int 0 0] ++ ([] ++ ((upTo 0 t.length).filter (markV t)).map addOne) = (ends t).map fun n => .int n 0 := by
  unfold upTo ends
  rw [List.filter_map, List.map_map, List.map_cons, List.map_map, List.nil_append]
  have e0 : ((t.length : Int) - 0).toNat = t.length := by omega
  rw [e0]
  show _ :: _ = _
  congr 1
  have ep : (markV t ∘ fun (k : Nat) => Value.int (0 + (k : Int)) 0) = isMark t := by
    funext k
    show isMark t (0 + (k : Int)).toNat = _
    rw [show (0 + (k : Int)).toNat = k by omega]
  rw [ep]
  apply List.map_congr_left
  intro k _
  show Value.int (0 + (k : Int) + 1) 0 = Value.int ((k : Int) + 1) 0
  rw [Int.zero_add]
theorem last_of {t : Str} {M : Int} (hM : M ∈ ends t) (hle : ∀ a ∈ ends t, a ≤ M) : ∃ L : Nat, M = L ∧ LastIs t L ∧ L ≤ t.length := by
  have mem : ∀ k, t.cps[k]? = some 94 → k < t.length ∧ ((k : Int) + 1) ∈ ends t := by
    intro k hk
    have hlt : k < t.length := (Array.getElem?_eq_some_iff.mp hk).1
    refine ⟨hlt, List.mem_cons_of_mem _ (List.mem_map.mpr ⟨k, List.mem_filter.mpr ⟨List.mem_range.mpr hlt, ?_⟩, rfl⟩)⟩
    unfold isMark; exact decide_eq_true hk
  have up : ∀ k : Nat, t.cps[k]? = some 94 → (k : Int) < M := fun k hk => by
    have := hle _ (mem k hk).2
    omega
  unfold ends at hM
  rcases List.mem_cons.mp hM with e | h
  · refine ⟨0, by omega, ⟨.inl rfl, fun k hk => ?_⟩, Nat.zero_le _⟩
    have := up k hk
    omega
  · obtain ⟨k, hk, rfl⟩ := List.mem_map.mp h
    obtain ⟨h1, h2⟩ := List.mem_filter.mp hk
    have hk' : t.cps[k]? = some 94 := by unfold isMark at h2; exact of_decide_eq_true h2
    refine ⟨k + 1, by omega, ⟨.inr ⟨k, rfl, hk'⟩, fun j hj => ?_⟩, (mem k hk').1⟩
    have := up j hj
    omega
def belowV (text tags : Str) : Value → Value
  | .int i _ => .str (belowAt text tags i.toNat) 0
  | v => v
theorem below_vals (text tags : Str) (L : Nat) : [] ++ (upTo 0 L).map (belowV text tags) = ((List.range L).map (belowAt text tags)).map fun y => .str y 0 := by
  unfold upTo
  rw [List.nil_append, List.map_map, List.map_map, show ((L : Int) - 0).toNat = L by omega]
  apply List.map_congr_left
  intro k _
  show Value.str (belowAt text tags (0 + (k : Int)).toNat) 0 = _
  rw [show (0 + (k : Int)).toNat = k by omega]
  rfl
theorem mem_upTo {v : Value} {n : Nat} (h : v ∈ upTo 0 n) : ∃ k : Nat, v = .int k 0 ∧ k < n := by
  unfold upTo at h
  obtain ⟨k, hk, rfl⟩ := List.mem_map.mp h
  have := List.mem_range.mp hk
  exact ⟨k, by rw [Int.zero_add], by omega⟩
theorem belowAt_len (text tags : Str) (k : Nat) : (belowAt text tags k).length = 1 := by
  unfold belowAt; split
  · rfl
  · split <;> rfl
theorem join_signs' : ∀ l : List Nat, Str.join (Str.ofString "") (l.map fun c => (⟨#[c]⟩ : Str)) = ⟨l.toArray⟩
  | [] => rfl
  | [c] => rfl
  | c :: d :: l => by
    have ih := join_signs' (d :: l)
    show (⟨#[c]⟩ : Str) ++ Str.ofString "" ++ Str.join (Str.ofString "") ((d :: l).map fun c => (⟨#[c]⟩ : Str)) = _
    rw [ih]
    show (⟨#[c] ++ (Str.ofString "").cps ++ (d :: l).toArray⟩ : Str) = _
    congr 1
    show #[c] ++ #[] ++ (d :: l).toArray = _
    simp
theorem join_signs (l : List Nat) : Txt.join (Str.ofString "") (l.map fun c => (⟨#[c]⟩ : Str)) = ⟨l.toArray⟩ := by
  rw [eq_of_beq (join_plain_closes _ _)]; exact join_signs' l
theorem sum_ones : ∀ n : Nat, (List.replicate n 1).sum = n
  | 0 => rfl
  | n + 1 => by rw [List.replicate_succ, List.sum_cons, sum_ones n]; omega
def belowN (text tags : Str) (k : Nat) : Nat := (belowAt text tags k).cps.getD 0 0
theorem belowAt_one (text tags : Str) (k : Nat) : belowAt text tags k = ⟨#[belowN text tags k]⟩ := by
  unfold belowN belowAt
  split
  · rfl
  · split <;> rfl
theorem below_join (text tags : Str) (L : Nat) : Txt.join (Str.ofString "") ((List.range L).map (belowAt text tags)) = ⟨((List.range L).map (belowN text tags)).toArray⟩ := by
  rw [← join_signs, List.map_map]
  congr 1
  apply List.map_congr_left
  intro k _
  exact belowAt_one text tags k
theorem below_len (text tags : Str) (L : Nat) : (Txt.join (Str.ofString "") ((List.range L).map (belowAt text tags))).length = L := by
  rw [below_join]
  show ((List.range L).map (belowN text tags)).toArray.size = L
  simp
theorem below_ok (text tags : Str) {L : Nat} (h : L ≤ 1000) : JoinOk (Str.ofString "") ((List.range L).map (belowAt text tags)) = true := by
  refine joinOk_of ?_
  have e : ((List.range L).map (belowAt text tags)).map (·.length) = List.replicate L 1 := by
    rw [List.map_map, List.eq_replicate_iff]
    refine ⟨by simp, fun b hb => ?_⟩
    obtain ⟨k, _, rfl⟩ := List.mem_map.mp hb
    exact belowAt_len text tags k
  rw [e, sum_ones, List.length_map, List.length_range]
  show L + L * 0 ≤ _
  omega
theorem rows_call (g : Gd W) {code text tags : Str} {wl : Addr} (hA : A.handled = none) (hroom : A.depth + 1 < recursionLimit) (hw : H wl = some (.list true (whiteStrs.map fun y => .str y 0))) (hc : code.length ≤ 10) (hx : text.length ≤ 1000) (hlen : tags.length = text.length)
    (h : ∀ L d H', LastIs tags L → H' d = some (.list true ((lawRows code text tags L).map fun y => .str y 0)) → (∀ b x, H b = some x → H' b = some x) → Q (.ref d) H') : CallW W A (.ref 365) [.str code 0, .str text 0, .str tags 0, .ref wl] H Q := by
  have hsl : sizeLine = 16777216 := by decide
  refine fn_callC (nb := [(Str.ofString "code", .str code 0), (Str.ofString "text", .str text 0), (Str.ofString "tags", .str tags 0), (Str.ofString "whites", .ref wl)]) g.top (rows_fn g) (by kernel_rfl) (by kernel_rfl) (by omega) (fun L x c hx => ?_) (fun s vs fd i hvs e1 e2 e3 => ?_) fun L hfr => ?_
  · rw [rows_cells] at hx
    rcases rows_lk hx with rfl | rfl | rfl <;> rfl
  · obtain ⟨v1, v2, v3, v4, rfl, h1, h2, h3, h4⟩ := args4 hvs
    obtain ⟨fn, fq, fp, fb, fs, fg, fc, fdf, fk, fdc, fpm, fan, fcd, fct, fbi⟩ := fd
    simp only at e1 e2 e3
    subst e1 e2 e3
    refine ⟨[(Str.ofString "code", v1), (Str.ofString "text", v2), (Str.ofString "tags", v3), (Str.ofString "whites", v4)], .of_eq (by rfl), by simp [h1, h2, h3, h4], ?_⟩
    intro z hz
    rw [rows_cells]
    simp only [List.mem_cons, List.not_mem_nil, or_false] at hz
    rcases hz with rfl | rfl | rfl | rfl
    · exact .inl (by kernel_rfl)
    · exact .inr ⟨by kernel_rfl, rfl⟩
    · exact .inr ⟨by kernel_rfl, rfl⟩
    · exact .inr ⟨by kernel_rfl, rfl⟩
  · refine exs_cons (ex_assign rfl (ev_call rfl (ev_builtin g.top rfl rfl (bi_max g).1 (bi_max g).2 ⟨.inl ⟨_, rfl⟩, args_cons (ev_binop (ev_list rfl (by decide) (args_cons (ev_int (args_nil ⟨by decide, fun a1 ha1 => ?_⟩)))))⟩)))
    refine ev_comp (cl := [(Str.ofString "tags", L + 1 + 1)]) g.top (by rfl) (by decide) rfl (by decide) rfl (fun y c hc => ?_) (fun _ => rfl) ?_
    · simp only [List.lookup_cons, List.lookup_nil] at hc
      split at hc
      · rename_i e
        have e' : y = Str.ofString "tags" := by simpa using e
        subst e'
        cases hc
        exact ⟨rfl, fun q => by cases (show some NameKind.cell = some NameKind.local from q)⟩
      · cases hc
    · refine ev_call rfl (ev_builtin g.top rfl rfl (bi_range g).1 (bi_range g).2 ⟨.inr (.inl ⟨_, rfl⟩), args_cons (ev_call rfl (ev_builtin g.top rfl rfl (bi_len g).1 (bi_len g).2 ⟨.inl ⟨_, rfl⟩, args_cons (ev_cell rfl (by rfl) rfl rfl (args_nil (call_len_s (by omega) (args_nil (call_range1 fun r t u v hr => ?_)))))⟩))⟩)
      refine ⟨_, _, iter_range hA (AHeap.put_self ..) (by decide) (by decide) (by omega) (by omega), ?_, fun C => ?_⟩
      · unfold upTo; rw [List.length_map, List.length_range]; omega
      refine compT_flt (p := markV tags) (f := addOne) (ρ₀ := compLoc _ _ _) trivial _ [] _ (fun _ _ => rfl) (fun v hv ρ' h1 h2 => ?_) (fun v hv hp ρ' h1 h2 => ?_) fun a2 ha2 => ?_
      · obtain ⟨k, rfl, hk⟩ := mem_upTo hv
        have hk' : k < tags.cps.size := hk
        refine ts_compare rfl (ev_sub (ev_cell rfl (by rfl) rfl ((h2 _ (by decide)).trans rfl) (ev_local rfl rfl h1 (sub_str (fun _ _ => rfl) (by omega) (by omega) (c := tags.cps[k]) (by rw [Int.toNat_natCast]; exact Array.getElem?_eq_getElem hk') (ev_str (bop_eq_str (tr_bool ⟨?_, rfl⟩)))))))
        show ((⟨#[tags.cps[k]]⟩ : Str) == ⟨⟨[94]⟩⟩) = isMark tags k
        rw [sign_eq]
        unfold isMark
        rw [Array.getElem?_eq_getElem hk']
        simp only [Option.some.injEq]
      · obtain ⟨k, rfl, hk⟩ := mem_upTo hv
        exact ev_binop (ev_local rfl rfl h1 (ev_int (bop_add_int ⟨rfl, rfl⟩)))
      refine bop_add_list (AHeap.put_fresh (AHeap.put_fresh (AHeap.put_self ..) hr) ha2) (AHeap.put_self ..) ?_ fun a3 ha3 => ?_
      · rw [List.nil_append, List.length_map]
        have h1 := List.length_filter_le (markV tags) (upTo 0 tags.length)
        have h2 : (upTo 0 tags.length).length = tags.length := by unfold upTo; rw [List.length_map, List.length_range]; omega
        show 1 + _ ≤ _
        omega
      rw [ends_eq]
      refine args_nil (call_max hA (AHeap.put_self ..) (by unfold ends; rw [List.length_cons]; omega) fun M hM hle => st_local g.top rfl ?_)
      obtain ⟨Lm, rfl, hL, hLle⟩ := last_of hM hle
      refine exs_cons (ex_assign_comp (cl := [(Str.ofString "whites", L + 1 + 1 + 1), (Str.ofString "text", L + 1), (Str.ofString "tags", L + 1 + 1)]) g.top (by rfl) (by rfl) (by decide) rfl (by decide) rfl (fun y c hc => ?_) (fun _ => rfl) ?_)
      · simp only [List.lookup_cons, List.lookup_nil] at hc
        split at hc
        · rename_i e
          have e' : y = Str.ofString "whites" := by simpa using e
          subst e'; cases hc
          exact ⟨rfl, fun q => by cases (show some NameKind.cell = some NameKind.local from q)⟩
        · split at hc
          · rename_i e
            have e' : y = Str.ofString "text" := by simpa using e
            subst e'; cases hc
            exact ⟨rfl, fun q => by cases (show some NameKind.cell = some NameKind.local from q)⟩
          · split at hc
            · rename_i e
              have e' : y = Str.ofString "tags" := by simpa using e
              subst e'; cases hc
              exact ⟨rfl, fun q => by cases (show some NameKind.cell = some NameKind.local from q)⟩
            · cases hc
      refine ev_call rfl (ev_builtin g.top rfl rfl (bi_range g).1 (bi_range g).2 ⟨.inr (.inl ⟨_, rfl⟩), args_cons (ev_local rfl rfl rfl (args_nil (call_range1 fun r2 t2 u2 v2 hr2 => ?_)))⟩)
      refine ⟨_, _, iter_range hA (AHeap.put_self ..) (by decide) (by decide) (by omega) (by omega), ?_, fun C => ?_⟩
      · unfold upTo; rw [List.length_map, List.length_range]; omega
      refine compT_mapL (f := belowV text tags) (ρ₀ := compLoc _ _ _) trivial _ [] _ (fun _ _ => rfl) (fun v hv ρ' h1 h2 => ?_) fun a4 ha4 => ?_
      · obtain ⟨k, rfl, hk⟩ := mem_upTo hv
        have hk' : k < tags.cps.size := by show k < tags.length; omega
        have hkx : k < text.cps.size := by show k < text.length; omega
        refine ev_ifexp (ts_compare rfl (ev_sub (ev_cell rfl (by rfl) rfl ((h2 _ (by decide)).trans rfl) (ev_local rfl rfl h1 (sub_str (fun _ _ => rfl) (by omega) (by omega) (c := tags.cps[k]) (by rw [Int.toNat_natCast]; exact Array.getElem?_eq_getElem hk') (ev_str (bop_eq_str (tr_bool ?_))))))))
        have e1 : ((⟨#[tags.cps[k]]⟩ : Str) == ⟨⟨[94]⟩⟩) = decide (tags.cps[k] = 94) := sign_eq _ _
        rw [e1]
        have eb : belowV text tags (.int (k : Int) 0) = .str (belowAt text tags k) 0 := rfl
        rw [eb]
        unfold belowAt
        rw [Array.getElem?_eq_getElem hk', Array.getElem?_eq_getElem hkx]
        by_cases hm : tags.cps[k] = 94
        · rw [decide_eq_true hm, if_pos rfl, if_pos (by rw [hm])]
          exact ev_str ⟨rfl, rfl⟩
        · rw [decide_eq_false hm, if_neg (by decide), if_neg (by simpa using hm)]
          refine ev_ifexp (ts_compare rfl (ev_sub (ev_cell rfl (by rfl) rfl ((h2 _ (by decide)).trans rfl) (ev_local rfl rfl h1 (sub_str (fun _ _ => rfl) (by omega) (by omega) (c := text.cps[k]) (by rw [Int.toNat_natCast]; exact Array.getElem?_eq_getElem hkx) (ev_cell rfl (by rfl) rfl ((h2 _ (by decide)).trans rfl) (bop_in_list (AHeap.put_fresh (AHeap.put_fresh (AHeap.put_fresh (AHeap.put_fresh (AHeap.put_fresh hw ha1) hr) ha2) ha3) hr2) (tr_bool ?_))))))))
          rw [white_any]
          show if whiteNs.contains text.cps[k] = true then _ else _
          cases hwc : whiteNs.contains text.cps[k] with
          | true =>
            rw [if_pos rfl]
            refine ev_sub (ev_cell rfl (by rfl) rfl ((h2 _ (by decide)).trans rfl) (ev_local rfl rfl h1 (sub_str (fun _ _ => rfl) (by omega) (by omega) (c := text.cps[k]) (by rw [Int.toNat_natCast]; exact Array.getElem?_eq_getElem hkx) ⟨?_, rfl⟩)))
            rw [show (some text.cps[k]).getD 0 = text.cps[k] from rfl, hwc, if_pos rfl]
          | false =>
            rw [if_neg (by decide)]
            refine ev_str ⟨?_, rfl⟩
            rw [show (some text.cps[k]).getD 0 = text.cps[k] from rfl, hwc, if_neg (by decide)]
      rw [below_vals]
      refine st_local g.top rfl ?_
      have hsum : (code ++ text).length = code.length + text.length := strLen_append ..
      refine exs_cons (ex_return (ev_binop (ev_list rfl (by decide) (args_cons (ev_binop (ev_local rfl rfl rfl (ev_cell rfl (by rfl) rfl rfl (bop_add_str (by omega) (args_nil ⟨by show 1 ≤ _; omega, fun a5 ha5 => ?_⟩)))))))))
      refine ev_ifexp (ts_compare rfl (ev_local rfl rfl rfl (ev_int (bop_gt_int (tr_bool ?_)))))
      by_cases h0 : Lm = 0
      · rw [decide_eq_false (by omega), if_neg (by decide)]
        refine ev_list rfl (by decide) (args_nil ⟨by decide, fun a6 ha6 => ?_⟩)
        refine bop_add_list (AHeap.put_fresh (AHeap.put_self ..) ha6) (AHeap.put_self ..) (by show 1 + _ ≤ _; rw [hsl]; decide) fun a7 ha7 => h Lm a7 _ hL ?_ fun b y hb => ?_
        · rw [AHeap.put_self]
          unfold lawRows
          rw [if_pos h0]
          rfl
        · exact AHeap.put_fresh (AHeap.put_fresh (AHeap.put_fresh (AHeap.put_fresh (AHeap.put_fresh (AHeap.put_fresh (AHeap.put_fresh (AHeap.put_fresh (AHeap.put_fresh hb ha1) hr) ha2) ha3) hr2) ha4) ha5) ha6) ha7
      · rw [decide_eq_true (by omega), if_pos rfl]
        have hbl := below_len text tags Lm
        refine ev_list rfl (by decide) (args_cons (ev_binop (ev_binop (ev_str (ev_meth (T := "str") rfl rfl (by decide) rfl PySem.F.plainAttrs_str PySem.F.slot_str_join PySem.F.type_str_join (ev_str ⟨typ_str, args_cons (ev_local rfl rfl rfl (args_nil (call_join (AHeap.put_fresh (AHeap.put_self ..) ha5) (below_ok text tags (by omega)) (bop_add_str ?_ (ev_str (bop_add_str ?_ (args_nil ⟨by show 1 ≤ _; omega, fun a6 ha6 => ?_⟩)))))))⟩))))))
        · show 2 + (Txt.join (Str.ofString "") _).length ≤ _
          omega
        · rw [strLen_append]
          show 2 + (Txt.join (Str.ofString "") _).length + 1 ≤ _
          omega
        refine bop_add_list (AHeap.put_fresh (AHeap.put_self ..) ha6) (AHeap.put_self ..) (by show 1 + 1 ≤ _; omega) fun a7 ha7 => h Lm a7 _ hL ?_ fun b y hb => ?_
        · rw [AHeap.put_self]
          unfold lawRows
          rw [if_neg h0]
          rfl
        · exact AHeap.put_fresh (AHeap.put_fresh (AHeap.put_fresh (AHeap.put_fresh (AHeap.put_fresh (AHeap.put_fresh (AHeap.put_fresh (AHeap.put_fresh (AHeap.put_fresh hb ha1) hr) ha2) ha3) hr2) ha4) ha5) ha6) ha7
end
end Mine
end

section
open PySem PySem.W PyProof.Rows
set_option maxRecDepth 100000
set_option linter.unusedVariables false
namespace Mine
theorem space_white (c : Nat) : Unicode.isSpace c = whiteNs.contains c := by
  rw [Bool.eq_iff_iff, List.contains_iff_mem]
  unfold Unicode.isSpace UnicodeData.space UnicodeData.space0 whiteNs
  simp only [Unicode.within, List.mem_cons, List.not_mem_nil, or_false]
  constructor
  · intro h
    (repeat' split at h) <;> simp at h <;> omega
  · intro h
    rcases h with rfl | rfl | rfl | rfl | rfl | rfl | rfl | rfl | rfl | rfl | rfl | rfl | rfl | rfl | rfl | rfl | rfl | rfl | rfl | rfl | rfl | rfl | rfl | rfl | rfl | rfl | rfl | rfl | rfl <;> decide
/-- one sign below another, as a number -/
def keepN (a b : Nat) : Nat := if b = 32 ∧ Unicode.isSpace a = true then a else b
theorem isspace_one (a : Nat) : Txt.isspace ⟨#[a]⟩ = Unicode.isSpace a := by
  unfold Txt.isspace
  simp [Str.length]
theorem keepSign_eq (a b : Nat) : keepSign a b = ⟨#[keepN a b]⟩ := by
  unfold keepSign keepN
  rw [isspace_one]
  split <;> rfl
def keptN (x y : List Nat) : List Nat := List.zipWith keepN x y
theorem kept_eq (x y : Str) : kept x y = ⟨(keptN x.cps.toList y.cps.toList).toArray⟩ := by
  unfold kept zipTexts
  rw [← join_signs]
  congr 1
  unfold keptN
  rw [List.zip, List.map_zipWith, List.map_zipWith]
  congr 1
  funext a b
  exact keepSign_eq a b
theorem keptN_at {x y : List Nat} (h : x.length = y.length) (k : Nat) (hk : k < y.length) : (keptN x y)[k]? = some (keepN (x[k]?.getD 0) (y[k]?.getD 0)) := by
  unfold keptN
  rw [List.getElem?_zipWith, List.getElem?_eq_getElem hk, List.getElem?_eq_getElem (by omega)]
  rfl
theorem keptN_len {x y : List Nat} (h : x.length = y.length) : (keptN x y).length = y.length := by
  unfold keptN
  rw [List.length_zipWith, h, Nat.min_self]
theorem marks_eq {x t : Str} {L : Nat} (hl : x.length = t.length) (ht : ∀ c ∈ t.cps.toList, c = 94 ∨ c = 32) (hL : LastIs t L) : L ≤ t.length ∧ marks x t = ⟨((keptN x.cps.toList t.cps.toList).take L).toArray⟩ := by
  obtain ⟨hL1, hL2⟩ := hL
  have hle : L ≤ t.length := by
    rcases hL1 with rfl | ⟨k, rfl, hk⟩
    · exact Nat.zero_le _
    · have := (Array.getElem?_eq_some_iff.mp hk).1
      exact this
  refine ⟨hle, ?_⟩
  have hlx : x.cps.toList.length = t.cps.toList.length := by simpa [Str.length] using hl
  have hlen := keptN_len hlx
  have htl : t.cps.toList.length = t.length := by simp [Str.length]
  unfold marks
  rw [kept_eq]
  obtain ⟨_, h0, h1, h2⟩ := hi_facts Unicode.isSpace (⟨(keptN x.cps.toList t.cps.toList).toArray⟩ : Str) 0 (Nat.zero_le _)
  have hzl : (⟨(keptN x.cps.toList t.cps.toList).toArray⟩ : Str).length = t.length := by
    show (keptN x.cps.toList t.cps.toList).toArray.size = _
    rw [List.size_toArray, hlen, htl]
  rw [hzl] at h0 h1
  have hsp : ∀ k, k < t.length → Unicode.isSpace ((keptN x.cps.toList t.cps.toList).toArray.getD k 0) = !(decide (t.cps[k]? = some 94)) := by
    intro k hk
    have hk' : k < t.cps.toList.length := by rw [htl]; exact hk
    have e := keptN_at hlx k hk'
    have e2 : (keptN x.cps.toList t.cps.toList).toArray.getD k 0 = keepN (x.cps.toList[k]?.getD 0) (t.cps.toList[k]?.getD 0) := by
      rw [Array.getD_eq_getD_getElem?, List.getElem?_toArray, e]; rfl
    rw [e2]
    have e3 : t.cps[k]? = some t.cps.toList[k] := by
      rw [← Array.getElem?_toList, List.getElem?_eq_getElem hk']
    have e4 : t.cps.toList[k]?.getD 0 = t.cps.toList[k] := by rw [List.getElem?_eq_getElem hk']; rfl
    rw [e3, e4]
    rcases ht _ (List.getElem_mem hk') with e | e
    · rw [e]
      unfold keepN
      rw [if_neg (fun q => by cases q.1)]
      decide
    · rw [e]
      unfold keepN
      by_cases hs : Unicode.isSpace (x.cps.toList[k]?.getD 0) = true
      · rw [if_pos ⟨rfl, hs⟩, hs]; decide
      · rw [if_neg (fun q => hs q.2)]; decide
  unfold Txt.rstrip
  rw [PyProof.Rows.stripBy_eq]
  show Builtin.Str.strSub _ 0 (stripHi Unicode.isSpace true ⟨(keptN x.cps.toList t.cps.toList).toArray⟩ 0) = _
  generalize hi_def : stripHi Unicode.isSpace true ⟨(keptN x.cps.toList t.cps.toList).toArray⟩ 0 = hi at h0 h1 h2 ⊢
  have e : hi = L := by
    have a1 : L ≤ hi := by
      rcases hL1 with rfl | ⟨k, rfl, hk⟩
      · exact Nat.zero_le _
      · rcases Nat.lt_or_ge k hi with q | q
        · exact q
        · have z := h1 k q hle
          rw [hsp k hle, decide_eq_true hk] at z
          cases z
    have a2 : hi ≤ L := by
      rcases h2 with q | q
      · omega
      · by_cases hz : hi = 0
        · omega
        · rw [hsp (hi - 1) (by omega)] at q
          have : t.cps[hi - 1]? = some 94 := by simpa using q
          have := hL2 _ this
          omega
    omega
  rw [e, strSub_mk]
  simp
theorem below_eq {x t : Str} {L : Nat} (hl : x.length = t.length) (ht : ∀ c ∈ t.cps.toList, c = 94 ∨ c = 32) (hL : LastIs t L) :
    below (marks x t) = if L = 0 then [] else [Str.ofString "? " ++ Txt.join (Str.ofString "") ((List.range L).map (belowAt x t)) ++ Str.ofString "\n"] := by
  obtain ⟨hle, em⟩ := marks_eq hl ht hL
  have hlx : x.cps.toList.length = t.cps.toList.length := by simpa [Str.length] using hl
  have htl : t.cps.toList.length = t.length := by simp [Str.length]
  have hlen : (marks x t).length = L := by
    rw [em]
    show ((keptN x.cps.toList t.cps.toList).take L).toArray.size = L
    rw [List.size_toArray, List.length_take, keptN_len hlx, htl]
    omega
  have ej : Txt.join (Str.ofString "") ((List.range L).map (belowAt x t)) = marks x t := by
    rw [em, ← join_signs]
    congr 1
    apply List.ext_getElem?
    intro k
    rw [List.getElem?_map, List.getElem?_map, List.getElem?_take]
    by_cases hk : k < L
    · rw [List.getElem?_range hk, if_pos hk, keptN_at hlx k (by omega)]
      simp only [Option.map_some, Option.some.injEq]
      have hk' : k < t.cps.toList.length := by omega
      have e3 : t.cps[k]? = some t.cps.toList[k] := by
        rw [← Array.getElem?_toList, List.getElem?_eq_getElem hk']
      have e4 : t.cps.toList[k]?.getD 0 = t.cps.toList[k] := by rw [List.getElem?_eq_getElem hk']; rfl
      have e5 : x.cps[k]? = x.cps.toList[k]? := by rw [Array.getElem?_toList]
      unfold belowAt
      rw [e3, e4, e5, ← space_white]
      rcases ht _ (List.getElem_mem hk') with e | e
      · rw [e, if_pos rfl]
        unfold keepN
        rw [if_neg (fun q => by cases q.1)]
      · rw [e, if_neg (by decide)]
        unfold keepN
        by_cases hs : Unicode.isSpace (x.cps.toList[k]?.getD 0) = true
        · rw [if_pos hs, if_pos ⟨rfl, hs⟩]
        · rw [if_neg hs, if_neg (fun q => hs q.2)]
    · rw [if_neg hk, List.getElem?_eq_none (by rw [List.length_range]; omega)]
      rfl
  unfold below
  rw [hlen, ej]
theorem qrows_eq {a b ta tb : Str} {L M : Nat} (hla : a.length = ta.length) (hta : ∀ c ∈ ta.cps.toList, c = 94 ∨ c = 32) (hlb : b.length = tb.length) (htb : ∀ c ∈ tb.cps.toList, c = 94 ∨ c = 32) (hL : LastIs ta L) (hM : LastIs tb M) :
    qrows a b ta tb = lawRows (Str.ofString "- ") a ta L ++ lawRows (Str.ofString "+ ") b tb M := by
  unfold qrows lawRows
  rw [below_eq hla hta hL, below_eq hlb htb hM]
  rfl
/-- what the row filter sees of a text -/
theorem whites_take (t : Array Nat) : ∀ n p, p + n = t.size → Re.whites t n p = ((t.toList.drop p).takeWhile Unicode.isSpace).length
  | 0, p, h => by
    rw [List.drop_eq_nil_of_le (by rw [Array.length_toList]; omega)]
    rfl
  | n + 1, p, h => by
    have hp : p < t.toList.length := by rw [Array.length_toList]; omega
    have e : t.getD p 0 = t.toList[p] := by
      rw [Array.getD_eq_getD_getElem?, ← Array.getElem?_toList, List.getElem?_eq_getElem hp]; rfl
    rw [List.drop_eq_getElem_cons hp, List.takeWhile_cons]
    unfold Re.whites
    rw [e]
    by_cases hs : Unicode.isSpace t.toList[p] = true
    · rw [if_pos hs, if_pos hs, whites_take t n (p + 1) (by omega)]
      rfl
    · rw [if_neg hs, if_neg hs]
      rfl
theorem takeWhile_drop (p : Nat → Bool) : ∀ l : List Nat, l = l.takeWhile p ∨ ∃ c r, l.takeWhile p ++ c :: r = l ∧ p c = false
  | [] => .inl rfl
  | c :: l => by
    by_cases h : p c = true
    · rw [List.takeWhile_cons, if_pos h]
      rcases takeWhile_drop p l with e | ⟨d, r, e, hd⟩
      · exact .inl (by rw [← e])
      · exact .inr ⟨d, r, by rw [List.cons_append, e], hd⟩
    · rw [List.takeWhile_cons, if_neg h]
      exact .inr ⟨c, l, rfl, by simpa using h⟩
def seenOf (l : List Nat) : List Nat := l.filter fun c => !Unicode.isSpace c
theorem seen_nil {l : List Nat} : seenOf l = [] ↔ l.takeWhile Unicode.isSpace = l := by
  unfold seenOf
  constructor
  · intro h
    rcases takeWhile_drop Unicode.isSpace l with e | ⟨c, r, e, hc⟩
    · exact e.symm
    · rw [← e, List.filter_append, List.filter_cons, hc] at h
      simp at h
  · intro h
    rw [List.filter_eq_nil_iff]
    intro c hc
    rw [← h] at hc
    have := List.all_takeWhile (p := Unicode.isSpace) (l := l)
    rw [List.all_eq_true] at this
    rw [this c hc]; decide
theorem J_eq (t : Array Nat) : Re.J t = (decide (seenOf t.toList = []) || decide (seenOf t.toList = [35])) := by
  unfold Re.J
  rw [whites_take t t.size 0 (by omega), List.drop_zero]
  rcases takeWhile_drop Unicode.isSpace t.toList with e | ⟨c, r, e, hc⟩
  · have e0 : seenOf t.toList = [] := seen_nil.mpr e.symm
    have e1 : (t.toList.takeWhile Unicode.isSpace).length = t.size := by rw [← e, Array.length_toList]
    simp only [e1, e0, beq_self_eq_true, Bool.true_or, decide_true]
  · have hlen : (t.toList.takeWhile Unicode.isSpace).length + (r.length + 1) = t.size := by
      rw [← Array.length_toList, ← congrArg List.length e, List.length_append]; rfl
    generalize hw : t.toList.takeWhile Unicode.isSpace = w at e hlen
    have hws : seenOf w = [] := by
      rw [seen_nil, ← hw]
      have hall := List.all_takeWhile (p := Unicode.isSpace) (l := t.toList)
      rw [hw] at hall ⊢
      have key : ∀ v : List Nat, v.all Unicode.isSpace = true → v.takeWhile Unicode.isSpace = v := by
        intro v
        induction v with
        | nil => intro _; rfl
        | cons a v ih =>
          intro hv
          rw [List.all_cons, Bool.and_eq_true] at hv
          rw [List.takeWhile_cons, if_pos hv.1, ih hv.2]
      exact key w hall
    have es : seenOf t.toList = c :: seenOf r := by
      rw [← e]
      unfold seenOf at hws ⊢
      rw [List.filter_append, hws, List.filter_cons, hc]
      rfl
    have n0 : (w.length == t.size) = false := by rw [beq_eq_false_iff_ne]; omega
    have eg : t.getD w.length 0 = c := by
      rw [Array.getD_eq_getD_getElem?, ← Array.getElem?_toList, ← e, List.getElem?_append_right (Nat.le_refl _), Nat.sub_self]
      rfl
    have ed : t.toList.drop (w.length + 1) = r := by
      rw [← e, show w.length + 1 = (w ++ [c]).length by simp, show w ++ c :: r = (w ++ [c]) ++ r by simp, List.drop_left]
    have hr : (r.takeWhile Unicode.isSpace).length = r.length ↔ seenOf r = [] := by
      rw [seen_nil]
      exact ⟨fun h => (List.takeWhile_prefix _).eq_of_length h, fun h => by rw [h]⟩
    simp only [n0, eg, es]
    rw [whites_take t _ _ (by omega), ed, Bool.false_or, Bool.eq_iff_iff]
    simp only [Bool.and_eq_true, beq_iff_eq, Bool.or_eq_true, decide_eq_true_iff, List.cons.injEq, reduceCtorEq, false_or]
    constructor
    · rintro ⟨h1, h2⟩
      exact ⟨h1, hr.mp (by omega)⟩
    · rintro ⟨h1, h2⟩
      have := hr.mpr h2
      exact ⟨h1, by omega⟩
/-- a text turned round -/
def rev (x : Str) : Str := ⟨x.cps.toList.reverse.toArray⟩
theorem rev_len (x : Str) : (rev x).length = x.length := by
  show x.cps.toList.reverse.toArray.size = x.cps.size
  simp
theorem picks_rev (x : Str) : picks x none none (some (-1)) = rev x := by
  have e : picks x none none (some (-1)) = PySem.Txt.sliceBy x none none (-1, 0) := by
    unfold picks PySem.Txt.sliceBy
    rw [if_neg (by simp)]
    rfl
  rw [e]
  refine str_ext_getD ((rev_len x).trans (step_rev_len x 0).symm) fun i hi => ?_
  rw [step_rev_len] at hi
  rw [step_rev_getD x 0 i hi]
  show _ = (x.cps.toList.reverse.toArray).getD i 0
  have hi' : i < x.cps.toList.length := by rw [Array.length_toList]; exact hi
  rw [Array.getD_eq_getD_getElem?, Array.getD_eq_getD_getElem?, ← Array.getElem?_toList, ← Array.getElem?_toList, List.toList_toArray, List.getElem?_reverse hi', Array.length_toList]
  rfl
/-- blanks in the place of what is not white -/
def blanked (l : List Nat) : List Str := l.map fun c => if whiteNs.contains c then ⟨#[c]⟩ else ⟨#[32]⟩
theorem keep_blanks (x : Str) : kept x ⟨(List.replicate x.length 32).toArray⟩ = Txt.join (Str.ofString "") (blanked x.cps.toList) := by
  rw [kept_eq]
  have : blanked x.cps.toList = (keptN x.cps.toList (List.replicate x.length 32)).map fun c => (⟨#[c]⟩ : Str) := by
    unfold blanked keptN
    apply List.ext_getElem?
    intro k
    rw [List.getElem?_map, List.getElem?_map, List.getElem?_zipWith]
    by_cases hk : k < x.cps.toList.length
    · rw [List.getElem?_eq_getElem hk, List.getElem?_replicate, if_pos (by rw [Array.length_toList] at hk; exact hk)]
      simp only [Option.map_some, Option.some.injEq]
      rw [← space_white]
      unfold keepN
      by_cases hs : Unicode.isSpace x.cps.toList[k] = true
      · rw [if_pos hs, if_pos ⟨rfl, hs⟩]
      · rw [if_neg hs, if_neg (fun q => hs q.2)]
    · rw [List.getElem?_eq_none (by omega)]
      rfl
  rw [this, join_signs]
theorem mul_blanks (n : Nat) : Txt.mul ⟨#[32]⟩ (n : Int) = ⟨(List.replicate n 32).toArray⟩ := by
  unfold Txt.mul
  have key : ∀ (m : Nat) (a : Array Nat), (List.replicate m #[32]).foldl (· ++ ·) a = a ++ (List.replicate m 32).toArray := by
    intro m
    induction m with
    | zero => intro a; simp
    | succ m ih =>
      intro a
      rw [List.replicate_succ, List.foldl_cons, ih, List.replicate_succ, Array.append_assoc]
      congr 1
      apply Array.ext'
      simp
  by_cases h0 : (n : Int) < 1
  · rw [if_pos h0]
    have : n = 0 := by omega
    subst this; rfl
  · rw [if_neg h0]
    by_cases h1 : n = 1
    · subst h1
      rfl
    · rw [if_neg (by simp; exact ⟨by omega, by decide⟩)]
      rw [show ((n : Int)).toNat = n by omega, key]
      simp
end Mine
end

section
open PySem PySem.W PyProof.Rows
set_option maxRecDepth 100000
set_option maxHeartbeats 0
set_option Elab.async false
set_option linter.unusedVariables false
namespace Mine
def forBodyAt (i : Nat) (l : List Stmt) : List Stmt := match l[i]? with
  | some (.For _ _ b _ _) => b
  | _ => []
/-- the ints from a on, m of them -/
def intsF (a m : Nat) : List Value := (List.range' a m).map fun (k : Nat) => .int (k : Int) 0
theorem upTo_ints (a b : Nat) : upTo a b = intsF a (b - a) := by
  unfold upTo intsF
  rw [List.range'_eq_map_range, List.map_map, show ((b : Int) - a).toNat = b - a by omega]
  apply List.map_congr_left
  intro k _
  show Value.int ((a : Int) + k) 0 = Value.int ((a + k : Nat) : Int) 0
  rw [Int.natCast_add]
def strsOf (l : List Nat) : List Str := l.map fun c => ⟨#[c]⟩
theorem strsOf_inj {l m : List Nat} : strsOf l = strsOf m ↔ l = m := by
  refine ⟨fun h => ?_, fun h => by rw [h]⟩
  have := congrArg (List.map fun x : Str => x.cps.getD 0 0) h
  unfold strsOf at this
  rw [List.map_map, List.map_map] at this
  simpa [Function.comp_def] using this
/-- the stretch of a text from i to j -/
def part (l : List Nat) (i j : Nat) : List Nat := (l.drop i).take (j - i)
theorem part_next {l : List Nat} {i j : Nat} (hi : i ≤ j) (hj : j < l.length) : part l i (j + 1) = part l i j ++ [l[j]] := by
  unfold part
  rw [show j + 1 - i = (j - i) + 1 by omega, List.take_add_one, List.getElem?_drop, show i + (j - i) = j by omega, List.getElem?_eq_getElem hj]
  rfl
theorem part_none (l : List Nat) (i : Nat) : part l i i = [] := by
  unfold part
  rw [Nat.sub_self, List.take_zero]
section
variable {W : Wd} {A : Around} {F : Frm} {ρ : Loc} {H : AHeap} {Q : Value → AHeap → Prop}
theorem junk_name (g : Gd W) : W.mg (Str.ofString "IS_LINE_JUNK") = some (.ref 348) := g.name (List.mem_of_getElem? (i := 13) rfl)
theorem whites_name (g : Gd W) : W.mg (Str.ofString "_law_whites") = some (.ref 353) := g.name (List.mem_of_getElem? (i := 14) rfl)
theorem text_name (g : Gd W) : W.mg (Str.ofString "_law_text") = some (.ref 360) := g.name (List.mem_of_getElem? (i := 15) rfl)
theorem rows_name (g : Gd W) : W.mg (Str.ofString "_law_rows") = some (.ref 365) := g.name (List.mem_of_getElem? (i := 16) rfl)
theorem differ_name (g : Gd W) : W.mg (Str.ofString "Differ") = some (.ref 330) := g.name (List.mem_of_getElem? (i := 12) rfl)
theorem law_fn (g : Gd W) : FnC W 370 (Str.ofString "law") (stArgs (topSt 15)) (stBody (topSt 15)) (stScope (topSt 15)) (.ref 369) .none :=
  g.fnC (oc := ob369) (List.mem_of_getElem? (i := 7) rfl) (by kernel_rfl) (List.mem_of_getElem? (i := 31) rfl) rfl ⟨_, _, rfl, rfl⟩ (by kernel_rfl)
theorem law_cells (L : Addr) : cellsFrom (L + 1) (stScope (topSt 15)).names [] = [(Str.ofString "whites", L + 1)] := by rfl
noncomputable abbrev lawF (L : Addr) : Frm := ⟨envC (Str.ofString "law") (stScope (topSt 15)) L 370 (.ref 369)⟩
theorem law_turn (g : Gd W) {L wl sl : Addr} {x : Str} {i j : Nat} {QQ : Flow → Loc → AHeap → Prop} (hA : A.handled = none) (hu : A.units < cLine) (hroom : A.depth + 1 < recursionLimit) (hx : x.length ≤ 1000)
    (hij : i ≤ j) (hj : j ≤ x.length) (ei : ρ (Str.ofString "i") = some (.int i 0)) (ej : ρ (Str.ofString "j") = some (.int j 0)) (et : ρ (Str.ofString "text") = some (.str x 0)) (es : ρ (Str.ofString "seen") = some (.ref sl)) (ew : ρ (Str.ofString "whites") = some (.ref wl))
    (hw : H wl = some (.list true (whiteStrs.map fun y => .str y 0))) (hs : H sl = some (.list true ((strsOf (seenOf (part x.cps.toList i (j - 1)))).map fun y => .str y 0))) (hne : wl ≠ sl)
    (hq : ∀ H', H' wl = some (.list true (whiteStrs.map fun y => .str y 0)) → H' sl = some (.list true ((strsOf (seenOf (part x.cps.toList i j))).map fun y => .str y 0)) → QQ .next ρ H') :
    ExsW W A (lawF L) (forBodyAt 1 (forBodyAt 2 (stBody (topSt 15)))) ρ H QQ := by
  have hsl : sizeLine = 16777216 := by decide
  have hlen : x.cps.toList.length = x.length := by simp [Str.length]
  refine exs_cons (ExW.mono (P := fun f ρ' H' => f = .next ∧ ρ' = ρ ∧ H' wl = some (.list true (whiteStrs.map fun y => .str y 0)) ∧ H' sl = some (.list true ((strsOf (seenOf (part x.cps.toList i j))).map fun y => .str y 0))) (ex_if (ts_bool (all_and (ts_compare rfl (ev_local rfl rfl ej (ev_local rfl rfl ei (bop_gt_int (tr_bool ?_)))))))) ?_)
  · by_cases hlt : i < j
    · obtain ⟨j', rfl⟩ : ∃ j', j = j' + 1 := ⟨j - 1, by omega⟩
      have hj' : j' < x.cps.toList.length := by omega
      have hc : x.cps[((((j' + 1 : Nat) : Int) - 1)).toNat]? = some x.cps.toList[j'] := by
        rw [show ((((j' + 1 : Nat) : Int) - 1)).toNat = j' by omega, ← Array.getElem?_toList, List.getElem?_eq_getElem hj']
      have h0 : 0 ≤ (((j' + 1 : Nat) : Int) - 1) := by omega
      rw [decide_eq_true (by omega), if_pos rfl]
      refine all_and (ts_compare rfl (ev_sub (ev_local rfl rfl et (ev_binop (ev_local rfl rfl ej (ev_int (bop_sub_int (sub_str (fun _ _ => rfl) (by omega) h0 hc (ev_cell rfl (by rfl) rfl ew (bop_notin_list hw (tr_bool ?_)))))))))))
      rw [white_any]
      have hp : part x.cps.toList i (j' + 1) = part x.cps.toList i j' ++ [x.cps.toList[j']] := part_next (by omega) hj'
      rw [Nat.add_sub_cancel] at hs
      have hll : (seenOf (part x.cps.toList i j')).length ≤ 1000 := by
        have h1 := List.length_filter_le (fun c => !Unicode.isSpace c) (part x.cps.toList i j')
        have h2 : (part x.cps.toList i j').length ≤ x.cps.toList.length := by
          unfold part; rw [List.length_take, List.length_drop]; omega
        unfold seenOf; omega
      cases hwc : whiteNs.contains x.cps.toList[j'] with
      | true =>
        rw [if_neg (by decide), if_neg (by decide)]
        refine exs_nil ⟨rfl, rfl, hw, ?_⟩
        rw [hs, hp]
        unfold seenOf
        rw [List.filter_append, List.filter_cons, space_white, hwc]
        simp
      | false =>
        rw [if_pos (by decide)]
        refine all_and_nil ?_
        rw [if_pos rfl]
        refine exs_cons (ex_expr rfl rfl (ev_meth (T := "list") rfl rfl (by decide) rfl PySem.F.plainAttrs_list PySem.F.slot_list_append PySem.F.type_list_append (ev_local rfl rfl es ⟨typ_list hs, args_cons (ev_sub (ev_local rfl rfl et (ev_binop (ev_local rfl rfl ej (ev_int (bop_sub_int (sub_str (fun _ _ => rfl) (by omega) h0 hc (args_nil (call_append g.top hs ?_ ?_)))))))))⟩)))
        · rw [List.length_map]; unfold strsOf; rw [List.length_map]; omega
        · refine exs_nil ⟨rfl, rfl, (AHeap.put_ne hne).trans hw, ?_⟩
          rw [AHeap.put_self, hp]
          unfold seenOf strsOf
          rw [List.filter_append, List.filter_cons, space_white, hwc]
          simp
    · have e : i = j := by omega
      subst e
      rw [decide_eq_false (by omega), if_neg (by decide), if_neg (by decide)]
      refine exs_nil ⟨rfl, rfl, hw, ?_⟩
      rw [hs, part_none]
      have : part x.cps.toList i (i - 1) = [] := by
        unfold part
        rw [show i - 1 - i = 0 by omega, List.take_zero]
      rw [this]
  · rintro f ρ' H' ⟨rfl, rfl, hw', hs'⟩
    have hpl : (part x.cps.toList i j).length ≤ 1000 := by
      unfold part; rw [List.length_take, List.length_drop]; omega
    have esl : PySem.Txt.slice x (some (i : Int)) (some (j : Int)) = ⟨(part x.cps.toList i j).toArray⟩ := by
      have := eq_of_beq (slice_closesL (x := x) (i := (i : Int)) (j := (j : Int)) (by omega) (by omega) (by omega))
      rw [this]
      unfold part
      rw [show ((i : Int)).toNat = i by omega, show ((j : Int) - (i : Int)).toNat = j - i by omega]
    refine exs_cons (ex_if (ts_compare rfl (ev_call rfl (ev_global g.top rfl rfl (junk_name g) ⟨(junk_fn g).callee, args_cons (ev_slice (fun _ _ => rfl) (ev_local rfl rfl et ⟨x, rfl, by omega, ev_local rfl rfl ei ⟨_, rfl, ev_local rfl rfl ej ⟨_, rfl, args_nil (junk_call g hA (by show A.depth < _; omega) ?_ ?_)⟩⟩⟩))⟩))))
    · rw [esl]; show (part x.cps.toList i j).toArray.size ≤ _; rw [List.size_toArray]; omega
    · rw [esl, J_eq]
      refine ev_or (ev_compare rfl (ev_local rfl rfl es (ev_list rfl (by decide) (args_nil ⟨by decide, fun a ha => bop_eq_strs (ys := []) hu (AHeap.put_fresh hs' ha) (AHeap.put_self ..) (tr_bool ?_)⟩))))
      have e1 : decide (strsOf (seenOf (part x.cps.toList i j)) = []) = decide (seenOf (part x.cps.toList i j) = []) := by
        rw [Bool.eq_iff_iff, decide_eq_true_iff, decide_eq_true_iff]
        exact strsOf_inj (m := [])
      have e2 : decide (strsOf (seenOf (part x.cps.toList i j)) = [⟨#[35]⟩]) = decide (seenOf (part x.cps.toList i j) = [35]) := by
        rw [Bool.eq_iff_iff, decide_eq_true_iff, decide_eq_true_iff]
        exact strsOf_inj (m := [35])
      rw [e1]
      by_cases h1 : seenOf (part x.cps.toList i j) = []
      · rw [decide_eq_true h1, if_pos rfl]
        refine bop_isnot_bool (tr_bool ?_)
        rw [Bool.true_or, if_neg (by decide)]
        exact exs_nil (exs_nil (hq _ (AHeap.put_fresh hw' ha) (AHeap.put_fresh hs' ha)))
      · rw [decide_eq_false h1, if_neg (by decide)]
        refine ev_compare rfl (ev_local rfl rfl es (ev_list rfl (by decide) (args_cons (ev_str (args_nil ⟨by decide, fun b hb => bop_eq_strs (ys := [⟨#[35]⟩]) hu (AHeap.put_fresh (AHeap.put_fresh hs' ha) hb) (AHeap.put_self ..) ?_⟩)))))
        refine bop_isnot_bool (tr_bool ?_)
        rw [e2, Bool.false_or, if_neg (by cases decide (seenOf (part x.cps.toList i j) = [35]) <;> decide)]
        exact exs_nil (exs_nil (hq _ (AHeap.put_fresh (AHeap.put_fresh hw' ha) hb) (AHeap.put_fresh (AHeap.put_fresh hs' ha) hb)))
end
end Mine
end

section
open PySem PySem.W PyProof.Rows
set_option maxRecDepth 100000
set_option maxHeartbeats 0
set_option Elab.async false
set_option linter.unusedVariables false
namespace Mine
section
variable {W : Wd} {A : Around} {F : Frm} {H : AHeap} {Q : Value → AHeap → Prop}
/-- what the law's loops keep -/
structure LawSt (ρ : Loc) (H : AHeap) (x t : Str) (wl : Addr) : Prop where
  text : ρ (Str.ofString "text") = some (.str x 0)
  tags : ρ (Str.ofString "tags") = some (.str t 0)
  whites : ρ (Str.ofString "whites") = some (.ref wl)
  wl : H wl = some (.list true (whiteStrs.map fun y => .str y 0))
theorem inner_turns (g : Gd W) {L wl sl : Addr} {x t : Str} {i : Nat} {QQ : Flow → Loc → AHeap → Prop} (hA : A.handled = none) (hu : A.units < cLine) (hroom : A.depth + 1 < recursionLimit) (hx : x.length ≤ 1000) (hne : wl ≠ sl)
    (hq : ∀ ρ' H', LawSt ρ' H' x t wl → QQ .next ρ' H') : ∀ (m j : Nat) (ρ : Loc) (H : AHeap), j + m = x.length + 1 → i ≤ j → ρ (Str.ofString "i") = some (.int i 0) → ρ (Str.ofString "seen") = some (.ref sl) → LawSt ρ H x t wl →
    H sl = some (.list true ((strsOf (seenOf (part x.cps.toList i (j - 1)))).map fun y => .str y 0)) →
    TurnsW W A (lawF L) (fun _ => True) (Str.ofString "j") (forBodyAt 1 (forBodyAt 2 (stBody (topSt 15)))) QQ (intsF j m) ρ H
  | 0, j, ρ, H, hm, hij, ei, es, S, hs => ⟨trivial, hq _ _ S⟩
  | m + 1, j, ρ, H, hm, hij, ei, es, S, hs => by
    refine ⟨trivial, st_local g.top rfl ?_⟩
    refine law_turn g (x := x) (i := i) (j := j) hA hu hroom hx hij (by omega) ei rfl S.text es S.whites S.wl hs hne fun H' hw' hs' => ?_
    exact inner_turns g hA hu hroom hx hne hq m (j + 1) _ H' (by omega) (by omega) ei es ⟨S.text, S.tags, S.whites, hw'⟩ (by rw [Nat.add_sub_cancel]; exact hs')
theorem outer_turns (g : Gd W) {L wl : Addr} {x t : Str} {QQ : Flow → Loc → AHeap → Prop} (hA : A.handled = none) (hu : A.units < cLine) (hroom : A.depth + 1 < recursionLimit) (hx : x.length ≤ 1000)
    (hq : ∀ ρ' H', LawSt ρ' H' x t wl → QQ .next ρ' H') : ∀ (m i : Nat) (ρ : Loc) (H : AHeap), i + m = x.length + 1 → LawSt ρ H x t wl →
    TurnsW W A (lawF L) (fun _ => True) (Str.ofString "i") (forBodyAt 2 (stBody (topSt 15))) QQ (intsF i m) ρ H
  | 0, i, ρ, H, hm, S => ⟨trivial, hq _ _ S⟩
  | m + 1, i, ρ, H, hm, S => by
    have hsl : sizeLine = 16777216 := by decide
    refine ⟨trivial, st_local g.top rfl ?_⟩
    refine exs_cons (ex_assign rfl (ev_list rfl (by decide) (args_nil ⟨by decide, fun a ha => st_local g.top rfl ?_⟩)))
    have hw1 := AHeap.put_fresh (y := .list true []) S.wl ha
    have hne : wl ≠ a := fun e => by rw [← e, S.wl] at ha; cases ha
    refine exs_cons (ex_for g.top (fun v => rfl) (ev_call rfl (ev_builtin g.top rfl rfl (bi_range g).1 (bi_range g).2 ⟨.inr (.inl ⟨_, rfl⟩), args_cons <| ev_local rfl rfl (by exact rfl) <| args_cons <| ev_binop <| ev_call rfl (ev_builtin g.top rfl rfl (bi_len g).1 (bi_len g).2 ⟨.inl ⟨_, rfl⟩, args_cons <| ev_local rfl rfl S.text <| args_nil <| call_len_s (by omega) <| ev_int <| bop_add_int <| args_nil <| call_range2 fun r t1 u1 v1 hr => ?_⟩)⟩)))
    refine ⟨_, _, iter_range hA (AHeap.put_self ..) (by omega) (by omega) (by omega) (by omega), ?_⟩
    rw [show upTo (i : Int) ((x.length : Int) + 1) = intsF i (x.length + 1 - i) from upTo_ints i (x.length + 1)]
    refine inner_turns (A := A) (L := L) (wl := wl) (sl := a) (x := x) (t := t) (i := i) g hA hu hroom hx hne ?_ (x.length + 1 - i) i _ _ (by omega) (Nat.le_refl _) ?_ ?_ ?_ ?_
    · intro ρ' H' S'
      exact exs_nil (outer_turns g hA hu hroom hx hq m (i + 1) ρ' H' (by omega) S')
    · rfl
    · rfl
    · exact ⟨S.text, S.tags, S.whites, AHeap.put_fresh hw1 hr⟩
    · have e : part x.cps.toList i (i - 1) = [] := by
        unfold part
        rw [show i - 1 - i = 0 by omega, List.take_zero]
      rw [e]
      exact AHeap.put_fresh (AHeap.put_self ..) hr
end
end Mine
end

section
open PySem PySem.W PyProof.Rows
set_option maxRecDepth 100000
set_option maxHeartbeats 0
set_option Elab.async false
set_option linter.unusedVariables false
namespace Mine
def blankV : Value → Value
  | .str y _ => .str (if whiteNs.contains (y.cps.getD 0 0) then ⟨#[y.cps.getD 0 0]⟩ else ⟨#[32]⟩) 0
  | v => v
theorem blank_vals (x : Str) : [] ++ (signs x).map blankV = (blanked x.cps.toList).map fun y => .str y 0 := by
  unfold signs blanked
  rw [List.nil_append, List.map_map, List.map_map]
  rfl
theorem ones_ok {ys : List Str} (h1 : ∀ y ∈ ys, y.length = 1) (h2 : ys.length ≤ 1000) : JoinOk (Str.ofString "") ys = true := by
  refine joinOk_of ?_
  have e : ys.map (·.length) = List.replicate ys.length 1 := by
    rw [List.eq_replicate_iff]
    refine ⟨by simp, fun b hb => ?_⟩
    obtain ⟨y, hy, rfl⟩ := List.mem_map.mp hb
    exact h1 y hy
  rw [e, sum_ones]
  show _ + _ * 0 ≤ _
  omega
theorem keepSign_len (a b : Nat) : (keepSign a b).length = 1 := by rw [keepSign_eq]; rfl
theorem fit_of {x t : Str} (hx : x.length ≤ 1000) : Fit x t := by
  have hsl : sizeLine = 16777216 := by decide
  have hxs : x.cps.size = x.length := rfl
  refine ⟨by omega, ones_ok (fun y hy => ?_) ?_, ?_⟩
  · unfold zipTexts at hy
    obtain ⟨p, _, rfl⟩ := List.mem_map.mp hy
    exact keepSign_len _ _
  · rw [zipTexts_len]; omega
  · rw [kept_eq]
    show (keptN x.cps.toList t.cps.toList).toArray.size + 4 ≤ _
    unfold keptN
    rw [List.size_toArray, List.length_zipWith, Array.length_toList]
    omega
theorem blanked_ok {x : Str} (hx : x.length ≤ 1000) : JoinOk (Str.ofString "") (blanked x.cps.toList) = true := by
  refine ones_ok (fun y hy => ?_) ?_
  · unfold blanked at hy
    obtain ⟨c, _, rfl⟩ := List.mem_map.mp hy
    split <;> rfl
  · unfold blanked
    rw [List.length_map, Array.length_toList]
    exact hx
theorem text_len (ns : List Int) : (textOf ns).length = ns.length + 3 := by
  show (8195 :: 35 :: 133 :: ns.map signOf).toArray.size = _
  simp
theorem tags_len (ns : List Int) : (tagsOf ns).length = ns.length + 3 := by
  show ((if ns.length % 2 = 0 then [32, 94, 32] else [32, 32, 32]) ++ ns.map tagOf).toArray.size = _
  split <;> simp <;> omega
theorem tags_two (ns : List Int) : ∀ c ∈ (tagsOf ns).cps.toList, c = 94 ∨ c = 32 := by
  intro c hc
  have hc' : c ∈ (if ns.length % 2 = 0 then [32, 94, 32] else [32, 32, 32]) ++ ns.map tagOf := by simpa [tagsOf] using hc
  rcases List.mem_append.mp hc' with h | h
  · split at h <;> simp at h <;> omega
  · obtain ⟨n, _, rfl⟩ := List.mem_map.mp h
    unfold tagOf; split
    · exact .inl rfl
    · exact .inr rfl
theorem rev_two {t : Str} (h : ∀ c ∈ t.cps.toList, c = 94 ∨ c = 32) : ∀ c ∈ (rev t).cps.toList, c = 94 ∨ c = 32 := by
  intro c hc
  refine h c ?_
  have : c ∈ t.cps.toList.reverse := by simpa [rev] using hc
  exact List.mem_reverse.mp this
section
variable {W : Wd} {A : Around} {F : Frm} {ρ : Loc} {H : AHeap} {Q : Value → AHeap → Prop}
theorem EvW.hidden {x : Str} {c : Addr} {e : Expr} (hc : F.env.cells.lookup x = some c) (hn : H c = none) (h : EvW W A F e ρ H Q) : EvW W A F e ρ H fun v H' => H' c = none ∧ Q v H' := by
  intro s i r f
  obtain ⟨⟨v, h1, _⟩, _⟩ := f.cells x c hc
  exact wpAny_mono (h s i r f) (fun v s' ⟨H', st, q⟩ => ⟨H', st, st.hid h1.lt hn (fun h => h), q⟩) fun _ _ x => x
theorem ev_neg {e : Expr} {pos : Pos} (h : EvW W A F e ρ H fun v H' => ∃ i, v = .int i 0 ∧ Q (.int (-i) 0) H') : EvW W A F (.UnaryOp .USub e pos) ρ H Q := by
  intro s i r f
  refine wpAny_UnaryOp (wpAny_mono (h s i r f) (fun v s' ⟨H', st, k, e, q⟩ => ?_) fun _ _ x => x)
  obtain ⟨t, rfl⟩ := norm_int e
  exact neg_int ⟨H', st.toks _, q⟩
theorem FnC.callee {a : Addr} {q : Str} {params : Arguments} {body : List Stmt} {scope : Scope} {cd dflt : Value} (f : FnC W a q params body scope cd dflt) : Callee W (.ref a) := by
  obtain ⟨o, fd, h1, h2, h3, _⟩ := f.at_
  exact .inr (.inr ⟨a, o, fd, rfl, h1, h2, h3⟩)
theorem law_end (g : Gd W) {L wl : Addr} {x t : Str} {QQ : Flow → Loc → AHeap → Prop} (hA : A.handled = none) (hu : A.units < cLine) (hroom : A.depth + 6 < recursionLimit) (hx : x.length ≤ 1000) (hlen : t.length = x.length) (ht : ∀ c ∈ t.cps.toList, c = 94 ∨ c = 32)
    (S : LawSt ρ H x t wl) (eb : ρ (Str.ofString "back") = some (.str (rev x) 0)) (et : ρ (Str.ofString "turned") = some (.str (rev t) 0)) (h : ∀ ρ' H', QQ (.ret (.bool true)) ρ' H') : ExsW W A (lawF L) ((stBody (topSt 15)).drop 5) ρ H QQ := by
  have hsl : sizeLine = 16777216 := by decide
  have hrx := rev_len x
  have hrt := rev_len t
  obtain ⟨mN, D⟩ := df_cls g
  have hof : ∃ of fd, W.h₁.get? 327 = some of ∧ of.cls = .type "function" ∧ of.data = .func fd := by
    obtain ⟨o, fd, h1, h2, h3, _⟩ := (qf_fn g).at_
    obtain ⟨o', ho, e⟩ := g.obj (327, ob327) (List.mem_of_getElem? (i := 2) rfl)
    have : o' = o := by rw [h1] at ho; cases ho; rfl
    subst this
    exact ⟨o', fd, ho, by rw [← noDoc_cls, e]; kernel_rfl, h3⟩
  refine exs_cons (ex_assign rfl (ev_call rfl (ev_builtin g.top rfl rfl (bi_list g).1 (bi_list g).2 ⟨.inr (.inl ⟨_, rfl⟩), args_cons <| ev_meth_inst rfl rfl (by decide) rfl lk_qformat <| ev_callH rfl (ev_global g.top rfl rfl (differ_name g) ⟨.cls 330 329 mN rfl D.cls, args_nil <| differ_call g hA (by omega) fun y d m hy hd hne hm H1 I1 hk1 => ?_⟩)⟩)))
  have hw1 : ∀ b z, H b = some z → H1 b = some z := fun b z hb => by
    rw [hk1 b (fun e => by rw [e, hy] at hb; cases hb) (fun e => by rw [e, hd] at hb; cases hb)]; exact hb
  refine ⟨y, 330, 329, d, mN, m, 327, rfl, D.cls, D.ga, D.gt, D.qf, hof, I1, hm _ (by decide) (by decide), ?_⟩
  refine args_cons <| ev_local rfl rfl S.text <| args_cons <| ev_local rfl rfl eb <| args_cons <| ev_local rfl rfl S.tags <| args_cons <| ev_local rfl rfl et <| args_nil ?_
  refine fn_gen (nb := [(Str.ofString "self", .ref y), (Str.ofString "aline", .str x 0), (Str.ofString "bline", .str (rev x) 0), (Str.ofString "atags", .str t 0), (Str.ofString "btags", .str (rev t) 0)]) g.top (qf_fn g) (by kernel_rfl) (by kernel_rfl) (by omega) (fun s vs fd i hvs e1 e2 e3 => ?_) fun LL b gn hLL hb hne2 hgn => ?_
  · obtain ⟨v0, vs', rfl, h0, h5⟩ := List.map_eq_cons_iff.mp hvs
    obtain ⟨v1, v2, v3, v4, rfl, h1, h2, h3, h4⟩ := args4 h5
    obtain ⟨fn, fq, fp, fb, fs, fg, fc, fdf, fk, fdc, fpm, fan, fcd, fct, fbi⟩ := fd
    simp only at e1 e2 e3
    subst e1 e2 e3
    refine ⟨[(Str.ofString "self", v0), (Str.ofString "aline", v1), (Str.ofString "bline", v2), (Str.ofString "atags", v3), (Str.ofString "btags", v4)], .of_eq (by rfl), by simp [h0, h1, h2, h3, h4], ?_⟩
    intro z hz
    simp only [List.mem_cons, List.not_mem_nil, or_false] at hz
    rcases hz with rfl | rfl | rfl | rfl | rfl <;> kernel_rfl
  refine args_nil (call_list_gen (ys := (qrows x (rev x) t (rev t)).map fun y => .str y 0) (ρ := locOf [(Str.ofString "self", .ref y), (Str.ofString "aline", .str x 0), (Str.ofString "bline", .str (rev x) 0), (Str.ofString "atags", .str t 0), (Str.ofString "btags", .str (rev t) 0)]) g.top hA (by omega) (AHeap.put_self ..) (fun a c' e => ?_) ?_ ⟨rfl, by kernel_rfl, rfl, rfl⟩ ?_ (fun o => qf_drains (self := .ref y) (a := x) (b := rev x) (ta := t) (tb := rev t) g hA ?_ (fit_of hx) (fit_of (by omega))) fun d2 hd2 => st_local g.top rfl ?_)
  · by_cases q : a = b
    · exact q
    · rw [AHeap.put_ne q] at e
      by_cases q2 : a = LL
      · rw [q2, AHeap.put_self] at e; cases e
      · rw [AHeap.put_ne q2] at e
        exact absurd e (hgn a c')
  · exact (AHeap.put_ne hne2).trans (AHeap.put_self ..)
  · rw [List.length_map]
    have hb : ∀ m, (below m).length ≤ 1 := fun m => by unfold below; split <;> simp
    have h1 := hb (marks x t)
    have h2 := hb (marks (rev x) (rev t))
    unfold qrows
    rw [List.length_cons, List.length_append, List.length_cons]
    omega
  · show A.depth + 3 < _; omega
  have ql : ∀ c : Str, c.length = 2 → ∀ (a b : Str) (M : Nat), (lawRows c a b M).length ≤ 2 := fun c _ a b M => by
    unfold lawRows; rw [List.length_cons]; split <;> simp
  have hw2 : ∀ z, H1 wl = some z → wl ≠ LL ∧ wl ≠ b := fun z hz => ⟨(fun e => by rw [e, hLL] at hz; cases hz), (fun e => by rw [e, hb] at hz; cases hz)⟩
  obtain ⟨n1, n2⟩ := hw2 _ (hw1 _ _ S.wl)
  have nd2 : wl ≠ d2 := fun e => by
    rw [AHeap.put_ne (by rw [← e]; exact n2), AHeap.put_ne (by rw [← e]; exact n1), ← e, hw1 _ _ S.wl] at hd2
    cases hd2
  refine exs_cons (ex_return (ev_compare rfl (ev_local rfl rfl (by rfl) <| ev_binop <| ev_call rfl (ev_global g.top rfl rfl (rows_name g) ⟨(rows_fn g).callee, args_cons <| ev_str <| args_cons <| ev_local rfl rfl S.text <| args_cons <| ev_local rfl rfl S.tags <| args_cons <| ev_cell rfl (by rfl) rfl S.whites <| args_nil <| rows_call g hA (by omega) ?_ (by decide) hx hlen fun L1 d3 H3 hL1 hd3 hk3 => ?_⟩))))
  · exact (AHeap.put_ne nd2).trans ((AHeap.put_ne n1).trans ((AHeap.put_ne n2).trans ((AHeap.put_ne n2).trans ((AHeap.put_ne n1).trans (hw1 _ _ S.wl)))))
  refine ev_call rfl (ev_global g.top rfl rfl (rows_name g) ⟨(rows_fn g).callee, args_cons <| ev_str <| args_cons <| ev_local rfl rfl eb <| args_cons <| ev_local rfl rfl et <| args_cons <| ev_cell rfl (by rfl) rfl S.whites <| args_nil <| rows_call g hA (by omega) ?_ (by decide) (by omega) (by omega) fun L2 d4 H4 hL2 hd4 hk4 => ?_⟩)
  · exact hk3 _ _ ((AHeap.put_ne nd2).trans ((AHeap.put_ne n1).trans ((AHeap.put_ne n2).trans ((AHeap.put_ne n2).trans ((AHeap.put_ne n1).trans (hw1 _ _ S.wl))))))
  refine bop_add_list (hk4 _ _ hd3) hd4 ?_ fun d5 hd5 => ?_
  · rw [List.length_map, List.length_map]
    have h1 := ql (Str.ofString "- ") rfl x t L1
    have h2 := ql (Str.ofString "+ ") rfl (rev x) (rev t) L2
    exact Nat.le_trans (Nat.add_le_add h1 h2) (by omega)
  refine bop_eq_strs (o2 := true) (xs := qrows x (rev x) t (rev t)) (ys := lawRows (Str.ofString "- ") x t L1 ++ lawRows (Str.ofString "+ ") (rev x) (rev t) L2) hu (AHeap.put_fresh (hk4 _ _ (hk3 _ _ (AHeap.put_self ..))) hd5) ?_ ?_
  · rw [List.map_append]; exact AHeap.put_self ..
  · rw [decide_eq_true (qrows_eq hlen.symm ht (by omega) (rev_two ht) hL1 hL2)]
    exact h _ _
theorem law_rest (g : Gd W) {L wl : Addr} {x t : Str} {QQ : Flow → Loc → AHeap → Prop} (hA : A.handled = none) (hu : A.units < cLine) (hroom : A.depth + 6 < recursionLimit) (hx : x.length ≤ 1000) (hlen : t.length = x.length) (ht : ∀ c ∈ t.cps.toList, c = 94 ∨ c = 32)
    (S : LawSt ρ H x t wl) (h : ∀ ρ' H', QQ (.ret (.bool true)) ρ' H') : ExsW W A (lawF L) ((stBody (topSt 15)).drop 3) ρ H QQ := by
  have hsl : sizeLine = 16777216 := by decide
  have hxs : x.cps.size = x.length := rfl
  refine exs_cons (ex_if (ts_compare rfl (ev_call rfl (ev_global g.top rfl rfl (keep_name g) ⟨(keep_fn g).callee, args_cons <| ev_local rfl rfl S.text <| args_cons <| ev_binop <| ev_str <| ev_call rfl (ev_builtin g.top rfl rfl (bi_len g).1 (bi_len g).2 ⟨.inl ⟨_, rfl⟩, args_cons <| ev_local rfl rfl S.text <| args_nil <| call_len_s (by omega) <| bop_mul_str (mul_spaces_ok rfl (by omega) (by omega)) <| args_nil ?_⟩)⟩))))
  have em : Txt.mul ⟨⟨[32]⟩⟩ (x.length : Int) = ⟨(List.replicate x.length 32).toArray⟩ := mul_blanks x.length
  rw [em]
  refine keep_ws g hA (by omega) (by omega) (fit_of hx).ok ?_
  refine ev_meth (T := "str") rfl rfl (by decide) rfl PySem.F.plainAttrs_str PySem.F.slot_str_join PySem.F.type_str_join (ev_str ⟨typ_str, args_cons <| ev_comp (cl := [(Str.ofString "whites", L + 1)]) g.top (by rfl) (by decide) rfl (by decide) rfl (fun y c hc => ?_) (fun _ => rfl) <| ev_local rfl rfl S.text ⟨_, _, iter_str hA, ?_, fun C => ?_⟩⟩)
  · simp only [List.lookup_cons, List.lookup_nil] at hc
    split at hc
    · rename_i e
      have e' : y = Str.ofString "whites" := by simpa using e
      subst e'; cases hc
      exact ⟨rfl, fun q => by cases (show some NameKind.cell = some NameKind.local from q)⟩
    · cases hc
  · unfold signs; rw [List.length_map, Array.length_toList]; omega
  refine compT_mapL (f := blankV) (ρ₀ := compLoc _ _ _) trivial _ [] _ (fun _ _ => rfl) (fun v hv ρ' h1 h2 => ?_) fun a1 ha1 => ?_
  · unfold signs at hv
    obtain ⟨c, hc, rfl⟩ := List.mem_map.mp hv
    refine ev_ifexp (ts_compare rfl <| ev_local rfl rfl h1 <| ev_cell rfl (by rfl) rfl ((h2 _ (by decide)).trans S.whites) <| bop_in_list S.wl <| tr_bool ?_)
    rw [white_any]
    have eb : blankV (.str ⟨#[c]⟩ 0) = .str (if whiteNs.contains c then ⟨#[c]⟩ else ⟨#[32]⟩) 0 := rfl
    rw [eb]
    cases hwc : whiteNs.contains c with
    | true =>
      rw [if_pos rfl, if_pos rfl]
      exact ev_local rfl rfl h1 ⟨rfl, rfl⟩
    | false =>
      rw [if_neg (by decide), if_neg (by decide)]
      exact ev_str ⟨rfl, rfl⟩
  rw [blank_vals]
  refine args_nil (call_join (AHeap.put_self ..) (blanked_ok hx) (bop_ne_str (tr_bool ?_)))
  rw [if_neg (by rw [keep_blanks]; exact fun q => Bool.noConfusion (show false = true from by rw [← q]; exact (bne_self_eq_false _).symm))]
  refine exs_nil ?_
  have hwl := AHeap.put_fresh (y := .list true ((blanked x.cps.toList).map fun y => .str y 0)) S.wl ha1
  have hcp : ∀ y : Str, y.length ≤ 1000 → (picks y none none (some (-1))).length ≤ sizeLine := fun y hy => by rw [picks_rev, rev_len]; omega
  refine exs_cons (ex_swap (names := [Str.ofString "back", Str.ofString "turned"]) hA rfl rfl (ev_tuple rfl <| args_cons <| ev_slice_step (fun _ _ => rfl) <| ev_local rfl rfl S.text ⟨x, rfl, ev_neg <| ev_int ⟨_, rfl, _, rfl, rfl, rfl, hcp x hx, args_cons <| ev_slice_step (fun _ _ => rfl) <| ev_local rfl rfl S.tags ⟨t, rfl, ev_neg <| ev_int ⟨_, rfl, _, rfl, rfl, rfl, hcp t (by omega), args_nil ⟨by show 2 ≤ _; omega, fun p hp => ⟨p, _, rfl, AHeap.put_self .., rfl, st_local g.top rfl <| st_local g.top rfl ?_⟩⟩⟩⟩⟩⟩))
  exact law_end g hA hu hroom hx hlen ht ⟨S.text, S.tags, S.whites, AHeap.put_fresh hwl hp⟩ (by rw [← picks_rev]; rfl) (by rw [← picks_rev]; rfl) h
theorem law_call (g : Gd W) {l : Addr} {ns : List Int} (hA : A.handled = none) (hu : A.units + 10 < cLine) (hroom : A.depth + 10 < recursionLimit) (hl : H l = some (.list false (ns.map fun n => .int n 0))) (hn : ns.length ≤ 63)
    (h : ∀ H', Q (.bool true) H') : CallW W A (.ref 370) [.ref l] H Q := by
  have hsl : sizeLine = 16777216 := by decide
  have hxl := text_len ns
  have htl := tags_len ns
  refine fn_callC (nb := [(Str.ofString "script", .ref l)]) g.top (law_fn g) (by kernel_rfl) (by kernel_rfl) (by omega) (fun L x c hx => ?_) (fun s vs fd i hvs e1 e2 e3 => ?_) fun L hfr => ?_
  · rw [law_cells] at hx
    simp only [List.lookup_cons, List.lookup_nil] at hx
    split at hx
    · rename_i e
      have e' : x = Str.ofString "whites" := by simpa using e
      subst e'; rfl
    · cases hx
  · obtain ⟨v1, rfl, h1⟩ := args1 hvs
    obtain ⟨fn, fq, fp, fb, fs, fg, fc, fdf, fk, fdc, fpm, fan, fcd, fct, fbi⟩ := fd
    simp only at e1 e2 e3
    subst e1 e2 e3
    refine ⟨[(Str.ofString "script", v1)], .of_eq (by rfl), by simp [h1], ?_⟩
    intro z hz
    simp only [List.mem_cons, List.not_mem_nil, or_false] at hz
    subst hz
    exact .inl (by kernel_rfl)
  · rw [law_cells] at hfr
    have hcn : H (L + 1) = none := hfr (Str.ofString "whites") (L + 1) rfl
    refine exs_cons (ex_assign rfl ((EvW.hidden (x := Str.ofString "whites") (c := L + 1) (by rfl) hcn (Q := fun v H' => ∃ wl, v = .ref wl ∧ H' wl = some (.list true (whiteStrs.map fun y => .str y 0)) ∧ ∀ b x, H b = some x → H' b = some x) ?_).mono fun v H1 ⟨hc1, wl, ev, hwl, hk1⟩ => ?_))
    · refine ev_call rfl (ev_global g.top rfl rfl (whites_name g) ⟨(whites_fn g).callee, args_nil (whites_call g hA (by show A.depth + 1 + 1 < _; omega) fun d H' hd hk => ⟨d, rfl, hd, hk⟩)⟩)
    subst ev
    refine st_cell g.top rfl (by rfl) hc1 ?_
    refine exs_cons (ex_unpack (names := [(Str.ofString "text", ⟨794, 4, 794, 8⟩), (Str.ofString "tags", ⟨794, 10, 794, 14⟩)]) hA rfl rfl (ev_call rfl (ev_global g.top rfl rfl (text_name g) ⟨(text_fn g).callee, args_cons <| ev_local rfl rfl (by rfl) <| args_cons <| ev_cell rfl (by rfl) rfl (by rfl) <| args_nil <| text_call g hA (by show A.depth + 1 + 1 < _; omega) (hk1 _ _ hl) hwl hn fun d H2 hd hk2 => ⟨d, _, rfl, hd, rfl, st_local g.top rfl <| st_local g.top rfl ?_⟩⟩)))
    refine exs_cons (ex_for g.top (fun v => rfl) (ev_call rfl (ev_builtin g.top rfl rfl (bi_range g).1 (bi_range g).2 ⟨.inr (.inl ⟨_, rfl⟩), args_cons <| ev_binop <| ev_call rfl (ev_builtin g.top rfl rfl (bi_len g).1 (bi_len g).2 ⟨.inl ⟨_, rfl⟩, args_cons <| ev_local rfl rfl (by rfl) <| args_nil <| call_len_s (by omega) <| ev_int <| bop_add_int <| args_nil <| call_range1 fun r t1 u1 v1 hr => ?_⟩)⟩)))
    refine ⟨_, _, iter_range hA (AHeap.put_self ..) (by omega) (by omega) (by omega) (by omega), ?_⟩
    rw [show upTo 0 (((textOf ns).length : Int) + 1) = intsF 0 ((textOf ns).length + 1) from upTo_ints 0 ((textOf ns).length + 1)]
    refine outer_turns (A := A.deeper _) (L := L) (wl := wl) (x := textOf ns) (t := tagsOf ns) g hA ?_ ?_ (by omega) (fun ρ' H3 S => ?_) ((textOf ns).length + 1) 0 _ _ (by omega) ?_
    · show A.units + 3 < _; omega
    · show A.depth + 1 + 1 < _; omega
    · exact law_rest (A := A.deeper _) g hA (by show A.units + 3 < _; omega) (by show A.depth + 1 + 6 < _; omega) (by omega) (by omega) (tags_two ns) S fun ρ'' H4 => h H4
    · exact ⟨by rfl, by rfl, by rfl, AHeap.put_fresh (hk2 _ _ hwl) hr⟩
end
end Mine
end

section
open PySem PySem.W PyProof.Rows
set_option maxRecDepth 100000
set_option maxHeartbeats 0
set_option Elab.async false
set_option linter.unusedVariables false
namespace Mine
theorem norm_ints {vs : List Value} {ns : List Int} (h : IntsAre vs ns) : vs.map norm = ns.map fun n => .int n 0 := by
  induction h with
  | nil => rfl
  | cons n t _ ih => rw [List.map_cons, List.map_cons, ih]; rfl
theorem inv_start {w : World} {s₀ s₁ : Shared} {mg mb : Str → Option Value} (g : Gd (Wof w s₁ mg mb)) (hg : s₁.gens = #[]) : Inv (Wof w s₁ mg mb) s₁ := by
  have g269 := g.fields (o := ob269) (List.mem_of_getElem? (i := 10) rfl) (by intro f q; cases q)
  have g265 := g.fields (o := ob265) (List.mem_of_getElem? (i := 9) rfl) (by intro f q; cases q)
  refine ⟨OldK.refl _, fun o e => e, rfl, ?_, Nat.le_refl _, fun x hx => ?_⟩
  · rw [hg]; exact .empty
  · have e : x = (269, 265) := List.mem_singleton.mp hx
    subst e
    refine ⟨Heap.lt_size g269, Heap.lt_size g265, #[], ⟨⟨_, _, g269, rfl, rfl, rfl⟩, g265⟩, ?_⟩
    refine ⟨_, _, _, _, _, _, _, _, _, _, g269, rfl, rfl, rfl, rfl, rfl, rfl, g265, rfl, trivial, by decide⟩
theorem walk : Walk := by
  intro w s₀ s₁ mg mb G Y hg l vs ns hL hI hn
  have g := gd_of G Y
  have hv := norm_ints hI
  have hsl : sizeLine = 16777216 := by decide
  have hlen : vs.length = ns.length := by
    have := congrArg List.length hv
    simpa using this
  have hr : HRel (Wof w s₁ mg mb) (fun a => if a = l then some (.list false (ns.map fun n => .int n 0)) else none) s₁ := by
    intro a x hx
    replace hx : (if a = l then some (AObj.list false (ns.map fun n => .int n 0)) else none) = some x := hx
    by_cases e : a = l
    · subst e
      rw [if_pos rfl] at hx
      cases hx
      exact ⟨vs.toArray, hL, hv, by rw [List.size_toArray]; omega, fun q => Bool.noConfusion q⟩
    · rw [if_neg e] at hx; cases hx
  have c : CallW (Wof w s₁ mg mb) callerA (.ref 370) [.ref l] (fun a => if a = l then some (.list false (ns.map fun n => .int n 0)) else none) fun v _ => v = .bool true :=
    law_call g rfl (by decide) (by decide) (if_pos rfl) hn fun _ => rfl
  refine wpAny_mono (c s₁ [.ref l] rfl (inv_start (s₀ := s₀) g hg) hr) (fun v s' ⟨H', st, q⟩ => ?_) fun _ _ x => x
  exact ⟨norm_bool q, st.inv.old, st.inv.os, st.inv.bare⟩
end Mine
end

theorem PySem.Challenge.cw_dm0047_09_holds : PySem.Challenge.rw_dm0047_09.Holds :=
  Mine.hd Mine.walk
