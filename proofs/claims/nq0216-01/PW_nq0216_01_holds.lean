import PyProof.Rows.All
import Wide.All
import OpenK.AllK
import Wide.FinOn
import PyProof.StrLawsReplace
import Lean
import PySem.Challenge.RW_nq0216_01
set_option Elab.async false
section
open PySem PySem.W PyProof.Rows
set_option Elab.async false
set_option maxRecDepth 100000
namespace Mine

/-- the top's run on a tree state, by the recursor -/
noncomputable def goT (ok : Thread → Bool) (st : SharedT → Thread → Option (SharedT × Thread)) (n : Nat) : SharedT → Thread → Option SharedT :=
  Nat.rec (motive := fun _ => SharedT → Thread → Option SharedT) (fun _ _ => none) (fun _ ih s t => match through t with
    | true => some s
    | false => match ok t with
      | false => none
      | true => match st s t with
        | some (s', t') => ih s' t'
        | none => none) n

theorem goT_spec {tb : String → Option Builtin} {p : Program} {w : World} {n₀ : Nat} {ann : Option Value} : ∀ (n : Nat) (s : SharedT) (t : Thread) (r : SharedT),
    goT (stepOk n₀ ann) (stepT (denote tb) p w) n s t = some r → topRun tb p w n₀ ann n s.abs t = some r.abs
  | 0, _, _, _, h => by cases h
  | n + 1, s, t, r, h => by
    have e : goT (stepOk n₀ ann) (stepT (denote tb) p w) (n + 1) s t = match through t with
      | true => some s
      | false => match stepOk n₀ ann t with
        | false => none
        | true => match stepT (denote tb) p w s t with
          | some (s', t') => goT (stepOk n₀ ann) (stepT (denote tb) p w) n s' t'
          | none => none := rfl
    rw [e] at h
    unfold topRun
    cases ht : through t with
    | true => rw [ht] at h; cases h; rfl
    | false =>
      rw [ht] at h
      cases hk : stepOk n₀ ann t with
      | false => rw [hk] at h; cases h
      | true =>
        rw [hk] at h
        cases hs : stepT (denote tb) p w s t with
        | none => rw [hs] at h; cases h
        | some x => obtain ⟨s₂, t₂⟩ := x; rw [hs] at h; rw [stepT_spec hs]; exact goT_spec n s₂ t₂ r h

noncomputable def fill : List Obj → BT → Nat → Option BT
  | [], T, _ => some T
  | o :: l, T, n => match ((T.ins n o).get n).isSome with
    | true => fill l (T.ins n o) (n + 1)
    | false => none
theorem fill_spec {life : Life} : ∀ (l : List Obj) (T T' : BT) (n : Nat), fill l T n = some T' → absHeap T' (n + l.length) life = ⟨(absHeap T n life).objs ++ l.toArray, life⟩
  | [], T, T', n, h => by cases h; simp [absHeap]
  | o :: l, T, T', n, h => by
    unfold fill at h
    cases e : ((T.ins n o).get n).isSome with
    | false => rw [e] at h; cases h
    | true =>
      rw [e] at h
      have ih := fill_spec (life := life) l _ _ _ h
      rw [List.length_cons, show n + (l.length + 1) = n + 1 + l.length by omega, ih, absHeap_ins e]
      simp [Heap.push]
noncomputable def toT (s : Shared) : Option SharedT := (fill s.heap.objs.toList .nil 0).map fun T => ⟨T, s.heap.objs.size, s.heap.life, s.gens, s.drawn, s.toks, s.os⟩
theorem toT_spec {s : Shared} {sT : SharedT} (h : toT s = some sT) : sT.abs = s := by
  unfold toT at h
  obtain ⟨T, e, rfl⟩ := Option.map_eq_some_iff.mp h
  have q := fill_spec (life := s.heap.life) _ _ _ _ e
  obtain ⟨⟨objs, life⟩, gens, drawn, toks, os⟩ := s
  simp only [SharedT.abs, Shared.mk.injEq, and_true]
  have : objs.size = 0 + objs.toList.length := by simp
  simp only [this, q]
  simp [absHeap, BT.list]

/-- the whole of the head as one function of its parts -/
noncomputable def headE {α β : Type} (p : Program) (N : Nat) (imp : (String → Option Builtin) → Program → World → Nat → Shared → Thread → Option Shared) (tb : String → Option Builtin) (st : Program → Shared × Thread)
    (fence : Program → Shared → Option Shared) (ok : Nat → Option Value → Thread → Bool) (stT : (Code → Sem Fin) → Program → World → SharedT → Thread → Option (SharedT × Thread)) (den : (String → Option Builtin) → Code → Sem Fin)
    (ns : Heap → Addr → Str → Option Value) (F : Shared → Shared → α) (_ : β) (w : World) : Option α :=
  (imp tb (opening p) w N (st (opening p)).1 (st (opening p)).2).bind fun s => (fence p s).bind fun s₀ =>
    match s₀.heap.isNs mainGlobals && s₀.gens.size == 0 with
    | true => (toT s₀).bind fun sT => (goT (ok s₀.heap.objs.size (ns s₀.heap mainGlobals (Str.ofString "__annotations__"))) (stT (den tb) p w) N sT (topStub p)).map fun rT => F s₀ rT.abs
    | false => none

theorem leftO_of_T {p q : Program} {loose : List Str} {Xt : Shared → Bool} {α : Type} {Yf : Shared → α} {Ya : World → α} {N : Nat} {g0 : Bool}
    (h : ∀ w : World, headE p N importEnds treeTable start fenceModules? stepOk stepT denote Heap.nsMap (fun s₀ s₁ =>
      ((staticsOk (importedModules p.main.body) s₀.heap s₁.heap && namesBound p s₁.heap && gensDone s₁ && laidKept s₀.heap s₁.heap), openSeen q loose (importedModules p.main.body) Xt g0 s₁, Yf s₁)) () w = some (true, openGood q loose, Ya w)) :
    LeftO p q loose Xt Yf Ya N g0 := fun w => by
  have h := h w
  unfold headE at h
  obtain ⟨s, hs, h⟩ := Option.bind_eq_some_iff.mp h
  obtain ⟨s₀, hf, h⟩ := Option.bind_eq_some_iff.mp h
  have e0 : fencedOpening treeTable p w N = some s₀ := by unfold fencedOpening; rw [hs]; exact hf
  cases hg : (s₀.heap.isNs mainGlobals && s₀.gens.size == 0) with
  | false => rw [hg] at h; cases h
  | true =>
    rw [hg] at h
    obtain ⟨sT, hT, h⟩ := Option.bind_eq_some_iff.mp h
    obtain ⟨rT, hr, h⟩ := Option.map_eq_some_iff.mp h
    have r := goT_spec _ _ _ _ hr
    rw [toT_spec hT] at r
    simp only [Prod.mk.injEq] at h
    obtain ⟨h1, h2, h3⟩ := h
    unfold openEnds
    rw [e0]
    show (topFrom treeTable p w N s₀).map _ = _
    unfold topFrom
    rw [hg]
    show ((topRun treeTable p w _ _ N s₀ (topStub p)).bind _).map _ = _
    rw [r]
    show (match (staticsOk (importedModules p.main.body) s₀.heap rT.abs.heap && namesBound p rT.abs.heap && gensDone rT.abs && laidKept s₀.heap rT.abs.heap) with | true => some rT.abs | false => none).map _ = _
    rw [h1]
    exact congrArg some (Prod.ext h2 h3)
end Mine
end
section
open PySem PySem.W PyProof.Rows
set_option Elab.async false
set_option maxRecDepth 1000000
set_option maxHeartbeats 0
namespace Mine
theorem said_a1 : sreFenced PySem.Challenge.pw_nq0216_01.main = true := by
  rw [PySem.W.Fast.te11788848310118352699]
  kernel_rfl
theorem said_a2 : ((moduleNames PySem.Challenge.pw_nq0216_01.main.body).isEmpty || lookedIntoSs (moduleNames PySem.Challenge.pw_nq0216_01.main.body) PySem.Challenge.pw_nq0216_01.main.body) = true := by kernel_rfl
theorem said_a3 : namesResolve PySem.Challenge.pw_nq0216_01 = true := by
  rw [PySem.W.Fast.te8377067652309620493]
  kernel_rfl
theorem said_r1 : readsOut PySem.Challenge.pw_nq0216_01 PySem.Challenge.pw_nq0216_01.main.body "vars" = false := by
  unfold readsOut
  rw [PySem.W.Fast.te17119622794617984870]
  kernel_rfl
theorem said_r2 : readsOut PySem.Challenge.pw_nq0216_01 PySem.Challenge.pw_nq0216_01.main.body "dir" = false := by
  unfold readsOut
  rw [PySem.W.Fast.te17119622794617984870]
  kernel_rfl
theorem said_r3 : readsOut PySem.Challenge.pw_nq0216_01 PySem.Challenge.pw_nq0216_01.main.body "locals" = false := by
  unfold readsOut
  rw [PySem.W.Fast.te17119622794617984870]
  kernel_rfl
theorem said_a5b : (["vars", "dir", "locals"] : List Str).filter (readsOut PySem.Challenge.pw_nq0216_01 PySem.Challenge.pw_nq0216_01.main.body) = [] := by
  rw [List.filter_cons_of_neg (by rw [said_r1]; exact Bool.false_ne_true), List.filter_cons_of_neg (by rw [said_r2]; exact Bool.false_ne_true), List.filter_cons_of_neg (by rw [said_r3]; exact Bool.false_ne_true), List.filter_nil]
theorem said_a5c : (importedModules PySem.Challenge.pw_nq0216_01.main.body).all cThrough.contains = true := by kernel_rfl
theorem said_a5d : noRoadLSs { strict := false, foot := none, bare := [] } PySem.Challenge.pw_nq0216_01.main.body = true := by
  rw [PySem.W.Fast.te8326940854005059898]
  kernel_rfl
theorem said_a5 : noRoadLSs { strict := !(importedModules PySem.Challenge.pw_nq0216_01.main.body).all cThrough.contains, foot := none, bare := (["vars", "dir", "locals"] : List Str).filter (readsOut PySem.Challenge.pw_nq0216_01 PySem.Challenge.pw_nq0216_01.main.body) } PySem.Challenge.pw_nq0216_01.main.body = true := by
  rw [said_a5b, said_a5c]
  exact said_a5d
theorem said_a6 : (namesMeet PySem.Challenge.pw_nq0216_01 PySem.Challenge.pw_nq0216_01.main.body fun _ n => attrL n) = true := by
  rw [PySem.W.Fast.te17119622794617984870]
  kernel_rfl
theorem said_a4 : PySem.Challenge.pw_nq0216_01.boundNames.all (fun n => !worldNames.contains n) = true := by kernel_rfl
theorem said_open : looksOpen PySem.Challenge.pw_nq0216_01 = true := by
  unfold looksOpen
  rw [said_a1, said_a2, said_a3, said_a4, said_a5, said_a6]
  rfl
theorem said_part : PySem.Challenge.rw_nq0216_01.row.partSaid = true := by
  have e : looksOpen PySem.Challenge.rw_nq0216_01.row.toRowW.prog = true := said_open
  unfold OpenRow.partSaid
  rw [e]
  kernel_rfl
theorem said_row : PySem.Challenge.rw_nq0216_01.row.wellSaid = true := by
  unfold OpenRow.wellSaid
  rw [said_part]
  kernel_rfl
theorem law_said : PySem.Challenge.rw_nq0216_01.wellSaid = true := by
  unfold OpenLaw.wellSaid
  rw [said_row, PySem.W.Fast.te8326940854005059898, PySem.W.Fast.te17119622794617984870]
  kernel_rfl
end Mine
end
section
open PySem PySem.W PyProof.Rows
set_option Elab.async false
set_option maxRecDepth 1000000
set_option linter.unusedVariables false
namespace Mine
noncomputable abbrev pw : Program := PySem.Challenge.pw_nq0216_01
noncomputable def sL (l : List Nat) : Str := ⟨l.toArray⟩
/-- the statement at a place of the text's body -/
noncomputable def stAt (i : Nat) : Stmt := match pw.main.body[i]? with
  | some s => s
  | none => .Pass default
noncomputable def inCls (st : Stmt) (j : Nat) : Stmt := match st with
  | .ClassDef _ _ _ b .. => match b[j]? with
    | some s => s
    | none => .Pass default
  | _ => .Pass default
/-- the function that a plain def of the text makes -/
noncomputable def fdOf (st : Stmt) (qual : Str) (dflt md code : Value) : FuncData := match st with
  | .FunctionDef name args body _ _ _ scope .. => { name := name, qualname := qual, params := args, body := .stmts body, scope := scope, globals := 3, closure := [], defaults := dflt, kwdefaults := .none, doc := .none, pyModule := md, annotations := none, code := code, closureTuple := .none, builtins := 0 }
  | _ => default
noncomputable def dE (p : Params) (k : Str) (t : Nat) (v : Value) : DictEntry := ⟨PyData.keyHash p k, .str k t, v⟩
noncomputable def k0 (p : Params) : Obj := { cls := (.type "dict"), dict := none, data := (.dict [dE p (sL [95, 95, 110, 97, 109, 101, 95, 95]) 1 (.str (sL [98, 117, 105, 108, 116, 105, 110, 115]) 160), dE p (sL [95, 95, 100, 111, 99, 95, 95]) 2 (.builtin "builtins.__doc__:str#opaque"), dE p (sL [95, 95, 112, 97, 99, 107, 97, 103, 101, 95, 95]) 3 (.builtin "builtins.__package__:str#opaque"), dE p (sL [95, 95, 108, 111, 97, 100, 101, 114, 95, 95]) 4 (.builtin "builtins.__loader__:shared#opaque"), dE p (sL [95, 95, 115, 112, 101, 99, 95, 95]) 5 (.builtin "builtins.__spec__#opaque"), dE p (sL [95, 95, 98, 117, 105, 108, 100, 95, 99, 108, 97, 115, 115, 95, 95]) 6 (.builtin "__build_class__"), dE p (sL [95, 95, 105, 109, 112, 111, 114, 116, 95, 95]) 7 (.builtin "__import__"), dE p (sL [97, 98, 115]) 8 (.builtin "abs"), dE p (sL [97, 108, 108]) 9 (.builtin "all"), dE p (sL [97, 110, 121]) 10 (.builtin "any"), dE p (sL [97, 115, 99, 105, 105]) 11 (.builtin "ascii"), dE p (sL [98, 105, 110]) 12 (.builtin "bin"), dE p (sL [98, 114, 101, 97, 107, 112, 111, 105, 110, 116]) 13 (.builtin "breakpoint"), dE p (sL [99, 97, 108, 108, 97, 98, 108, 101]) 14 (.builtin "callable"), dE p (sL [99, 104, 114]) 15 (.builtin "chr"), dE p (sL [99, 111, 109, 112, 105, 108, 101]) 16 (.builtin "compile"), dE p (sL [100, 101, 108, 97, 116, 116, 114]) 17 (.builtin "delattr"), dE p (sL [100, 105, 114]) 18 (.builtin "dir"), dE p (sL [100, 105, 118, 109, 111, 100]) 19 (.builtin "divmod"), dE p (sL [101, 118, 97, 108]) 20 (.builtin "eval"), dE p (sL [101, 120, 101, 99]) 21 (.builtin "exec"), dE p (sL [102, 111, 114, 109, 97, 116]) 22 (.builtin "format"), dE p (sL [103, 101, 116, 97, 116, 116, 114]) 23 (.builtin "getattr"), dE p (sL [103, 108, 111, 98, 97, 108, 115]) 24 (.builtin "globals"), dE p (sL [104, 97, 115, 97, 116, 116, 114]) 25 (.builtin "hasattr"), dE p (sL [104, 97, 115, 104]) 26 (.builtin "hash"), dE p (sL [104, 101, 120]) 27 (.builtin "hex"), dE p (sL [105, 100]) 28 (.builtin "id"), dE p (sL [105, 110, 112, 117, 116]) 29 (.builtin "input"), dE p (sL [105, 115, 105, 110, 115, 116, 97, 110, 99, 101]) 30 (.builtin "isinstance"), dE p (sL [105, 115, 115, 117, 98, 99, 108, 97, 115, 115]) 31 (.builtin "issubclass"), dE p (sL [105, 116, 101, 114]) 32 (.builtin "iter"), dE p (sL [97, 105, 116, 101, 114]) 33 (.builtin "aiter"), dE p (sL [108, 101, 110]) 34 (.builtin "len"), dE p (sL [108, 111, 99, 97, 108, 115]) 35 (.builtin "locals"), dE p (sL [109, 97, 120]) 36 (.builtin "max"), dE p (sL [109, 105, 110]) 37 (.builtin "min"), dE p (sL [110, 101, 120, 116]) 38 (.builtin "next"), dE p (sL [97, 110, 101, 120, 116]) 39 (.builtin "anext"), dE p (sL [111, 99, 116]) 40 (.builtin "oct"), dE p (sL [111, 114, 100]) 41 (.builtin "ord"), dE p (sL [112, 111, 119]) 42 (.builtin "pow"), dE p (sL [112, 114, 105, 110, 116]) 43 (.builtin "print"), dE p (sL [114, 101, 112, 114]) 44 (.builtin "repr"), dE p (sL [114, 111, 117, 110, 100]) 45 (.builtin "round"), dE p (sL [115, 101, 116, 97, 116, 116, 114]) 46 (.builtin "setattr"), dE p (sL [115, 111, 114, 116, 101, 100]) 47 (.builtin "sorted"), dE p (sL [115, 117, 109]) 48 (.builtin "sum"), dE p (sL [118, 97, 114, 115]) 49 (.builtin "vars"), dE p (sL [78, 111, 110, 101]) 50 .none, dE p (sL [69, 108, 108, 105, 112, 115, 105, 115]) 51 .ellipsis, dE p (sL [78, 111, 116, 73, 109, 112, 108, 101, 109, 101, 110, 116, 101, 100]) 52 .notImplemented, dE p (sL [70, 97, 108, 115, 101]) 53 (.bool false), dE p (sL [84, 114, 117, 101]) 54 (.bool true), dE p (sL [98, 111, 111, 108]) 55 (.type "bool"), dE p (sL [109, 101, 109, 111, 114, 121, 118, 105, 101, 119]) 56 (.type "memoryview"), dE p (sL [98, 121, 116, 101, 97, 114, 114, 97, 121]) 57 (.type "bytearray"), dE p (sL [98, 121, 116, 101, 115]) 58 (.type "bytes"), dE p (sL [99, 108, 97, 115, 115, 109, 101, 116, 104, 111, 100]) 59 (.type "classmethod"), dE p (sL [99, 111, 109, 112, 108, 101, 120]) 60 (.type "complex"), dE p (sL [100, 105, 99, 116]) 61 (.type "dict"), dE p (sL [101, 110, 117, 109, 101, 114, 97, 116, 101]) 62 (.type "enumerate"), dE p (sL [102, 105, 108, 116, 101, 114]) 63 (.type "filter"), dE p (sL [102, 108, 111, 97, 116]) 64 (.type "float"), dE p (sL [102, 114, 111, 122, 101, 110, 115, 101, 116]) 65 (.type "frozenset"), dE p (sL [112, 114, 111, 112, 101, 114, 116, 121]) 66 (.type "property"), dE p (sL [105, 110, 116]) 67 (.type "int"), dE p (sL [108, 105, 115, 116]) 68 (.type "list"), dE p (sL [109, 97, 112]) 69 (.type "map"), dE p (sL [111, 98, 106, 101, 99, 116]) 70 (.type "object"), dE p (sL [114, 97, 110, 103, 101]) 71 (.type "range"), dE p (sL [114, 101, 118, 101, 114, 115, 101, 100]) 72 (.type "reversed"), dE p (sL [115, 101, 116]) 73 (.type "set"), dE p (sL [115, 108, 105, 99, 101]) 74 (.type "slice"), dE p (sL [115, 116, 97, 116, 105, 99, 109, 101, 116, 104, 111, 100]) 75 (.type "staticmethod"), dE p (sL [115, 116, 114]) 76 (.type "str"), dE p (sL [115, 117, 112, 101, 114]) 77 (.type "super"), dE p (sL [116, 117, 112, 108, 101]) 78 (.type "tuple"), dE p (sL [116, 121, 112, 101]) 79 (.type "type"), dE p (sL [122, 105, 112]) 80 (.type "zip"), dE p (sL [95, 95, 100, 101, 98, 117, 103, 95, 95]) 81 (.bool true), dE p (sL [66, 97, 115, 101, 69, 120, 99, 101, 112, 116, 105, 111, 110]) 82 (.type "BaseException"), dE p (sL [66, 97, 115, 101, 69, 120, 99, 101, 112, 116, 105, 111, 110, 71, 114, 111, 117, 112]) 83 (.type "BaseExceptionGroup"), dE p (sL [69, 120, 99, 101, 112, 116, 105, 111, 110]) 84 (.type "Exception"), dE p (sL [71, 101, 110, 101, 114, 97, 116, 111, 114, 69, 120, 105, 116]) 85 (.type "GeneratorExit"), dE p (sL [75, 101, 121, 98, 111, 97, 114, 100, 73, 110, 116, 101, 114, 114, 117, 112, 116]) 86 (.type "KeyboardInterrupt"), dE p (sL [83, 121, 115, 116, 101, 109, 69, 120, 105, 116]) 87 (.type "SystemExit"), dE p (sL [65, 114, 105, 116, 104, 109, 101, 116, 105, 99, 69, 114, 114, 111, 114]) 88 (.type "ArithmeticError"), dE p (sL [65, 115, 115, 101, 114, 116, 105, 111, 110, 69, 114, 114, 111, 114]) 89 (.type "AssertionError"), dE p (sL [65, 116, 116, 114, 105, 98, 117, 116, 101, 69, 114, 114, 111, 114]) 90 (.type "AttributeError"), dE p (sL [66, 117, 102, 102, 101, 114, 69, 114, 114, 111, 114]) 91 (.type "BufferError"), dE p (sL [69, 79, 70, 69, 114, 114, 111, 114]) 92 (.type "EOFError"), dE p (sL [73, 109, 112, 111, 114, 116, 69, 114, 114, 111, 114]) 93 (.type "ImportError"), dE p (sL [76, 111, 111, 107, 117, 112, 69, 114, 114, 111, 114]) 94 (.type "LookupError"), dE p (sL [77, 101, 109, 111, 114, 121, 69, 114, 114, 111, 114]) 95 (.type "MemoryError"), dE p (sL [78, 97, 109, 101, 69, 114, 114, 111, 114]) 96 (.type "NameError"), dE p (sL [79, 83, 69, 114, 114, 111, 114]) 97 (.type "OSError"), dE p (sL [82, 101, 102, 101, 114, 101, 110, 99, 101, 69, 114, 114, 111, 114]) 98 (.type "ReferenceError"), dE p (sL [82, 117, 110, 116, 105, 109, 101, 69, 114, 114, 111, 114]) 99 (.type "RuntimeError"), dE p (sL [83, 116, 111, 112, 65, 115, 121, 110, 99, 73, 116, 101, 114, 97, 116, 105, 111, 110]) 100 (.type "StopAsyncIteration"), dE p (sL [83, 116, 111, 112, 73, 116, 101, 114, 97, 116, 105, 111, 110]) 101 (.type "StopIteration"), dE p (sL [83, 121, 110, 116, 97, 120, 69, 114, 114, 111, 114]) 102 (.type "SyntaxError"), dE p (sL [83, 121, 115, 116, 101, 109, 69, 114, 114, 111, 114]) 103 (.type "SystemError"), dE p (sL [84, 121, 112, 101, 69, 114, 114, 111, 114]) 104 (.type "TypeError"), dE p (sL [86, 97, 108, 117, 101, 69, 114, 114, 111, 114]) 105 (.type "ValueError"), dE p (sL [87, 97, 114, 110, 105, 110, 103]) 106 (.type "Warning"), dE p (sL [70, 108, 111, 97, 116, 105, 110, 103, 80, 111, 105, 110, 116, 69, 114, 114, 111, 114]) 107 (.type "FloatingPointError"), dE p (sL [79, 118, 101, 114, 102, 108, 111, 119, 69, 114, 114, 111, 114]) 108 (.type "OverflowError"), dE p (sL [90, 101, 114, 111, 68, 105, 118, 105, 115, 105, 111, 110, 69, 114, 114, 111, 114]) 109 (.type "ZeroDivisionError"), dE p (sL [66, 121, 116, 101, 115, 87, 97, 114, 110, 105, 110, 103]) 110 (.type "BytesWarning"), dE p (sL [68, 101, 112, 114, 101, 99, 97, 116, 105, 111, 110, 87, 97, 114, 110, 105, 110, 103]) 111 (.type "DeprecationWarning"), dE p (sL [69, 110, 99, 111, 100, 105, 110, 103, 87, 97, 114, 110, 105, 110, 103]) 112 (.type "EncodingWarning"), dE p (sL [70, 117, 116, 117, 114, 101, 87, 97, 114, 110, 105, 110, 103]) 113 (.type "FutureWarning"), dE p (sL [73, 109, 112, 111, 114, 116, 87, 97, 114, 110, 105, 110, 103]) 114 (.type "ImportWarning"), dE p (sL [80, 101, 110, 100, 105, 110, 103, 68, 101, 112, 114, 101, 99, 97, 116, 105, 111, 110, 87, 97, 114, 110, 105, 110, 103]) 115 (.type "PendingDeprecationWarning"), dE p (sL [82, 101, 115, 111, 117, 114, 99, 101, 87, 97, 114, 110, 105, 110, 103]) 116 (.type "ResourceWarning"), dE p (sL [82, 117, 110, 116, 105, 109, 101, 87, 97, 114, 110, 105, 110, 103]) 117 (.type "RuntimeWarning"), dE p (sL [83, 121, 110, 116, 97, 120, 87, 97, 114, 110, 105, 110, 103]) 118 (.type "SyntaxWarning"), dE p (sL [85, 110, 105, 99, 111, 100, 101, 87, 97, 114, 110, 105, 110, 103]) 119 (.type "UnicodeWarning"), dE p (sL [85, 115, 101, 114, 87, 97, 114, 110, 105, 110, 103]) 120 (.type "UserWarning"), dE p (sL [66, 108, 111, 99, 107, 105, 110, 103, 73, 79, 69, 114, 114, 111, 114]) 121 (.type "BlockingIOError"), dE p (sL [67, 104, 105, 108, 100, 80, 114, 111, 99, 101, 115, 115, 69, 114, 114, 111, 114]) 122 (.type "ChildProcessError"), dE p (sL [67, 111, 110, 110, 101, 99, 116, 105, 111, 110, 69, 114, 114, 111, 114]) 123 (.type "ConnectionError"), dE p (sL [70, 105, 108, 101, 69, 120, 105, 115, 116, 115, 69, 114, 114, 111, 114]) 124 (.type "FileExistsError"), dE p (sL [70, 105, 108, 101, 78, 111, 116, 70, 111, 117, 110, 100, 69, 114, 114, 111, 114]) 125 (.type "FileNotFoundError"), dE p (sL [73, 110, 116, 101, 114, 114, 117, 112, 116, 101, 100, 69, 114, 114, 111, 114]) 126 (.type "InterruptedError"), dE p (sL [73, 115, 65, 68, 105, 114, 101, 99, 116, 111, 114, 121, 69, 114, 114, 111, 114]) 127 (.type "IsADirectoryError"), dE p (sL [78, 111, 116, 65, 68, 105, 114, 101, 99, 116, 111, 114, 121, 69, 114, 114, 111, 114]) 128 (.type "NotADirectoryError"), dE p (sL [80, 101, 114, 109, 105, 115, 115, 105, 111, 110, 69, 114, 114, 111, 114]) 129 (.type "PermissionError"), dE p (sL [80, 114, 111, 99, 101, 115, 115, 76, 111, 111, 107, 117, 112, 69, 114, 114, 111, 114]) 130 (.type "ProcessLookupError"), dE p (sL [84, 105, 109, 101, 111, 117, 116, 69, 114, 114, 111, 114]) 131 (.type "TimeoutError"), dE p (sL [73, 110, 100, 101, 110, 116, 97, 116, 105, 111, 110, 69, 114, 114, 111, 114]) 132 (.type "IndentationError"), dE p (sL [95, 73, 110, 99, 111, 109, 112, 108, 101, 116, 101, 73, 110, 112, 117, 116, 69, 114, 114, 111, 114]) 133 (.type "_IncompleteInputError"), dE p (sL [73, 110, 100, 101, 120, 69, 114, 114, 111, 114]) 134 (.type "IndexError"), dE p (sL [75, 101, 121, 69, 114, 114, 111, 114]) 135 (.type "KeyError"), dE p (sL [77, 111, 100, 117, 108, 101, 78, 111, 116, 70, 111, 117, 110, 100, 69, 114, 114, 111, 114]) 136 (.type "ModuleNotFoundError"), dE p (sL [78, 111, 116, 73, 109, 112, 108, 101, 109, 101, 110, 116, 101, 100, 69, 114, 114, 111, 114]) 137 (.type "NotImplementedError"), dE p (sL [80, 121, 116, 104, 111, 110, 70, 105, 110, 97, 108, 105, 122, 97, 116, 105, 111, 110, 69, 114, 114, 111, 114]) 138 (.type "PythonFinalizationError"), dE p (sL [82, 101, 99, 117, 114, 115, 105, 111, 110, 69, 114, 114, 111, 114]) 139 (.type "RecursionError"), dE p (sL [85, 110, 98, 111, 117, 110, 100, 76, 111, 99, 97, 108, 69, 114, 114, 111, 114]) 140 (.type "UnboundLocalError"), dE p (sL [85, 110, 105, 99, 111, 100, 101, 69, 114, 114, 111, 114]) 141 (.type "UnicodeError"), dE p (sL [66, 114, 111, 107, 101, 110, 80, 105, 112, 101, 69, 114, 114, 111, 114]) 142 (.type "BrokenPipeError"), dE p (sL [67, 111, 110, 110, 101, 99, 116, 105, 111, 110, 65, 98, 111, 114, 116, 101, 100, 69, 114, 114, 111, 114]) 143 (.type "ConnectionAbortedError"), dE p (sL [67, 111, 110, 110, 101, 99, 116, 105, 111, 110, 82, 101, 102, 117, 115, 101, 100, 69, 114, 114, 111, 114]) 144 (.type "ConnectionRefusedError"), dE p (sL [67, 111, 110, 110, 101, 99, 116, 105, 111, 110, 82, 101, 115, 101, 116, 69, 114, 114, 111, 114]) 145 (.type "ConnectionResetError"), dE p (sL [84, 97, 98, 69, 114, 114, 111, 114]) 146 (.type "TabError"), dE p (sL [85, 110, 105, 99, 111, 100, 101, 68, 101, 99, 111, 100, 101, 69, 114, 114, 111, 114]) 147 (.type "UnicodeDecodeError"), dE p (sL [85, 110, 105, 99, 111, 100, 101, 69, 110, 99, 111, 100, 101, 69, 114, 114, 111, 114]) 148 (.type "UnicodeEncodeError"), dE p (sL [85, 110, 105, 99, 111, 100, 101, 84, 114, 97, 110, 115, 108, 97, 116, 101, 69, 114, 114, 111, 114]) 149 (.type "UnicodeTranslateError"), dE p (sL [69, 120, 99, 101, 112, 116, 105, 111, 110, 71, 114, 111, 117, 112]) 150 (.type "ExceptionGroup"), dE p (sL [69, 110, 118, 105, 114, 111, 110, 109, 101, 110, 116, 69, 114, 114, 111, 114]) 151 (.type "OSError"), dE p (sL [73, 79, 69, 114, 114, 111, 114]) 152 (.type "OSError"), dE p (sL [111, 112, 101, 110]) 153 (.builtin "open"), dE p (sL [113, 117, 105, 116]) 154 (.builtin "builtins.quit#opaque"), dE p (sL [101, 120, 105, 116]) 155 (.builtin "builtins.exit#opaque"), dE p (sL [99, 111, 112, 121, 114, 105, 103, 104, 116]) 156 (.builtin "builtins.copyright#opaque"), dE p (sL [99, 114, 101, 100, 105, 116, 115]) 157 (.builtin "builtins.credits#opaque"), dE p (sL [108, 105, 99, 101, 110, 115, 101]) 158 (.builtin "builtins.license#opaque"), dE p (sL [104, 101, 108, 112]) 159 (.builtin "builtins.help#opaque")].toArray 159), slots := [].toArray }
noncomputable def k2 (p : Params) : Obj := { cls := .none, dict := none, data := (.dict [dE p (sL [105, 109, 112, 111, 114, 116, 46, 108, 111, 97, 100, 101, 100, 46, 95, 115, 114, 101]) 183 (.bool true), dE p (sL [99, 108, 97, 115, 115, 46, 95, 102, 114, 111, 122, 101, 110, 95, 105, 109, 112, 111, 114, 116, 108, 105, 98, 46, 66, 117, 105, 108, 116, 105, 110, 73, 109, 112, 111, 114, 116, 101, 114]) 185 (.ref 14), dE p (sL [119, 97, 116, 99, 104, 101, 100, 46, 105, 109, 112, 111, 114, 116]) 206 (.ref 18), dE p (sL [99, 108, 97, 115, 115, 46, 95, 102, 114, 111, 122, 101, 110, 95, 105, 109, 112, 111, 114, 116, 108, 105, 98, 46, 77, 111, 100, 117, 108, 101, 83, 112, 101, 99]) 216 (.ref 22), dE p (sL [115, 121, 115, 46, 109, 111, 100, 117, 108, 101, 115, 46, 98, 111, 111, 107, 101, 100, 45, 101, 112, 111, 99, 104]) 245 (.int (4) 0), dE p (sL [105, 109, 112, 111, 114, 116, 46, 108, 97, 116, 101, 114, 45, 108, 97, 105, 100, 46, 95, 115, 114, 101]) 270 (.bool true), dE p (sL [119, 97, 116, 99, 104, 101, 100, 46, 108, 105, 98, 114, 97, 114, 121]) 272 (.ref 27), dE p (sL [119, 97, 116, 99, 104, 101, 100, 46, 108, 105, 98, 114, 97, 114, 121, 45, 111, 98, 106, 101, 99, 116, 115]) 0 (.str (sL [12, 30]) 0), dE p (sL [119, 97, 116, 99, 104, 101, 100, 46, 108, 105, 98, 114, 97, 114, 121, 45, 100, 101, 101, 112, 46, 95, 115, 114, 101]) 273 (.str (sL [4, 0, 0, 11, 4, 0, 0, 11, 4, 0, 0, 3, 4, 0, 0, 11, 8, 4, 100, 105, 99, 116, 2]) 0), dE p (sL [105, 109, 112, 111, 114, 116, 46, 108, 111, 97, 100, 101, 100, 46, 95, 99, 111, 108, 108, 101, 99, 116, 105, 111, 110, 115]) 280 (.bool true), dE p (sL [115, 121, 115, 46, 109, 111, 100, 117, 108, 101, 115, 46, 108, 97, 110, 100, 101, 100, 46, 95, 99, 111, 108, 108, 101, 99, 116, 105, 111, 110, 115]) 294 (.bool true), dE p (sL [105, 109, 112, 111, 114, 116, 46, 108, 97, 116, 101, 114, 45, 108, 97, 105, 100, 46, 95, 99, 111, 108, 108, 101, 99, 116, 105, 111, 110, 115]) 309 (.bool true), dE p (sL [119, 97, 116, 99, 104, 101, 100, 46, 108, 105, 98, 114, 97, 114, 121, 45, 100, 101, 101, 112, 46, 95, 99, 111, 108, 108, 101, 99, 116, 105, 111, 110, 115]) 311 (.str (sL [4, 0, 0, 29, 4, 0, 0, 29, 4, 0, 0, 3, 4, 0, 0, 29, 8, 4, 100, 105, 99, 116, 2]) 0), dE p (sL [116, 121, 112, 101, 46, 95, 95, 115, 117, 98, 99, 108, 97, 115, 115, 101, 115, 95, 95, 46, 79, 83, 69, 114, 114, 111, 114, 46, 48]) 407 (.int (73) 0), dE p (sL [116, 121, 112, 101, 46, 95, 95, 115, 117, 98, 99, 108, 97, 115, 115, 101, 115, 95, 95, 46, 79, 83, 69, 114, 114, 111, 114, 46, 110]) 408 (.int (1) 0)].toArray 15), slots := [].toArray }
noncomputable def k3 (p : Params) : Obj := { cls := (.type "dict"), dict := none, data := (.dict [dE p (sL [95, 95, 110, 97, 109, 101, 95, 95]) 165 (.str (sL [108, 97, 119, 95, 110, 113, 48, 50, 49, 54, 95, 48, 49]) 1290), dE p (sL [95, 95, 100, 111, 99, 95, 95]) 166 .none, dE p (sL [95, 95, 112, 97, 99, 107, 97, 103, 101, 95, 95]) 167 .none, dE p (sL [95, 95, 108, 111, 97, 100, 101, 114, 95, 95]) 168 (.builtin "__main__.__loader__#opaque"), dE p (sL [95, 95, 115, 112, 101, 99, 95, 95]) 169 .none, dE p (sL [95, 95, 97, 110, 110, 111, 116, 97, 116, 105, 111, 110, 115, 95, 95]) 170 (.ref 6), dE p (sL [95, 95, 98, 117, 105, 108, 116, 105, 110, 115, 95, 95]) 171 (.ref 4), dE p (sL [95, 95, 102, 105, 108, 101, 95, 95]) 173 (.str (sL [47, 99, 108, 97, 105, 109, 47, 99, 117, 116, 46, 112, 121]) 172), dE p (sL [95, 95, 99, 97, 99, 104, 101, 100, 95, 95]) 174 .none, dE p (sL [95, 115, 114, 101]) 275 (.ref 12), dE p (sL [100, 101, 113, 117, 101]) 317 (.type "collections.deque"), dE p (sL [95, 119, 97, 108, 108]) 330 (.ref 44), dE p (sL [95, 116, 119, 105, 110, 95, 114, 101, 95, 49]) 370 (.ref 49), dE p (sL [95, 119, 104, 101, 110, 99, 101]) 380 (.ref 56), dE p (sL [95, 105, 110, 100, 101, 120]) 388 (.ref 63), dE p (sL [85, 110, 115, 117, 112, 112, 111, 114, 116, 101, 100, 79, 112, 101, 114, 97, 116, 105, 111, 110]) 410 (.ref 73), dE p (sL [73, 79, 66, 97, 115, 101]) 442 (.ref 93), dE p (sL [66, 117, 102, 102, 101, 114, 101, 100, 73, 79, 66, 97, 115, 101]) 460 (.ref 108), dE p (sL [84, 101, 120, 116, 73, 79, 66, 97, 115, 101]) 478 (.ref 120), dE p (sL [66, 121, 116, 101, 115, 73, 79]) 740 (.ref 350), dE p (sL [83, 116, 114, 105, 110, 103, 73, 79]) 1027 (.ref 597), dE p (sL [95, 107, 105, 110, 100]) 1038 (.ref 606), dE p (sL [95, 102, 115, 112, 97, 116, 104]) 1047 (.ref 613), dE p (sL [95, 99, 104, 101, 99, 107, 95, 97, 114, 103, 95, 116, 121, 112, 101, 115]) 1057 (.ref 620), dE p (sL [105, 115, 97, 98, 115]) 1064 (.ref 627), dE p (sL [106, 111, 105, 110]) 1075 (.ref 634), dE p (sL [100, 105, 114, 110, 97, 109, 101]) 1085 (.ref 641), dE p (sL [115, 104, 108, 101, 120]) 1226 (.ref 732), dE p (sL [115, 112, 108, 105, 116]) 1236 (.ref 744), dE p (sL [95, 102, 105, 110, 100, 95, 117, 110, 115, 97, 102, 101]) 1238 (.ref 745), dE p (sL [113, 117, 111, 116, 101]) 1245 (.ref 752), dE p (sL [84, 117, 112, 108, 101, 67, 111, 109, 112]) 1289 (.ref 776), dE p (sL [95, 108, 97, 119, 95, 119, 111, 114, 100]) 1301 (.ref 787), dE p (sL [95, 108, 97, 119, 95, 98, 97, 114, 101]) 1307 (.ref 792), dE p (sL [95, 108, 97, 119, 95, 111, 114, 100, 101, 114]) 1317 (.ref 799), dE p (sL [95, 108, 97, 119, 95, 100, 117, 101]) 1328 (.ref 806), dE p (sL [95, 108, 97, 119, 95, 97, 110, 115, 119, 101, 114, 115]) 1334 (.ref 811), dE p (sL [108, 97, 119]) 1342 (.ref 818)].toArray 38), slots := [].toArray }
noncomputable def k48 (p : Params) : Obj := { cls := (.type "tuple"), dict := none, data := (.seq [(.int (14) 0), (.int (17) 0), (.int (4) 0), (.int (1) 0), (.int (1) 0), (.int (21) 0), (.int (9) 0), (.int (0) 0), (.int (604043296) 0), (.int (1) 0), (.int (0) 0), (.int (0) 0), (.int (0) 0), (.int (0) 0), (.int (0) 0), (.int (8) 0), (.int (4) 0), (.int (0) 0), (.int (13) 0), (.int (14) 0), (.int (21) 0), (.int (9) 0), (.int (0) 0), (.int (604043296) 0), (.int (1) 0), (.int (0) 0), (.int (0) 0), (.int (0) 0), (.int (0) 0), (.int (0) 0), (.int (8) 0), (.int (4) 0), (.int (0) 0), (.int (1) 0)].toArray 0), slots := [].toArray }
noncomputable def k49 (p : Params) : Obj := { cls := (.type "re.Pattern"), dict := none, data := (.fields [(.str (sL [91, 94, 92, 119, 64, 37, 43, 61, 58, 44, 46, 47, 45, 93]) 332), (.int (256) 369), (.int (0) 0), .none, .none, (.ref 48), (.int (0) 0)].toArray), slots := [].toArray }
noncomputable def k62 (p : Params) : Obj := { cls := (.type "code"), dict := none, data := (.fields [(.str (sL [95, 105, 110, 100, 101, 120]) 381), (.str (sL [95, 105, 110, 100, 101, 120]) 382), (.str (sL [47, 99, 108, 97, 105, 109, 47, 99, 117, 116, 46, 112, 121]) 383), (.int (13) 0), (.int (2) 0), (.int (0) 0), (.int (0) 0), (.int (3) 0), (.ref 57), (.bool true), (.int (318) 0), (.ref 58), .none, (.ref 59), (.ref 60), (.ref 61), (.int (386) 0), (.int (13) 0), (.str (sL [47, 99, 108, 97, 105, 109, 47, 99, 117, 116, 46, 112, 121]) 387)].toArray), slots := [].toArray }
noncomputable def k63 (p : Params) : Obj := { cls := (.type "function"), dict := none, data := (.func (fdOf (stAt 6) (sL [95, 105, 110, 100, 101, 120]) .none (.str (sL [105, 111]) 371) (.ref 62))), slots := [].toArray }
noncomputable def k89 (p : Params) : Obj := { cls := (.type "code"), dict := none, data := (.fields [(.str (sL [95, 95, 110, 101, 119, 95, 95]) 425), (.str (sL [73, 79, 66, 97, 115, 101, 46, 95, 95, 110, 101, 119, 95, 95]) 426), (.str (sL [47, 99, 108, 97, 105, 109, 47, 99, 117, 116, 46, 112, 121]) 427), (.int (25) 0), (.int (1) 0), (.int (1) 0), (.int (0) 0), (.int (15) 0), (.ref 84), (.bool true), (.int (318) 0), (.ref 85), .none, (.ref 86), (.ref 87), (.ref 88), (.int (431) 0), (.int (25) 0), (.str (sL [47, 99, 108, 97, 105, 109, 47, 99, 117, 116, 46, 112, 121]) 432)].toArray), slots := [].toArray }
noncomputable def k90 (p : Params) : Obj := { cls := (.type "function"), dict := none, data := (.func (fdOf (inCls (stAt 8) 1) (sL [73, 79, 66, 97, 115, 101, 46, 95, 95, 110, 101, 119, 95, 95]) .none (.str (sL [105, 111]) 371) (.ref 89))), slots := [].toArray }
noncomputable def k92 (p : Params) : Obj := { cls := (.type "dict"), dict := none, data := (.dict [dE p (sL [95, 95, 109, 111, 100, 117, 108, 101, 95, 95]) 418 (.str (sL [105, 111]) 423), dE p (sL [95, 95, 102, 105, 114, 115, 116, 108, 105, 110, 101, 110, 111, 95, 95]) 422 (.int (22) 421), dE p (sL [95, 95, 110, 101, 119, 95, 95]) 433 (.ref 94), dE p (sL [95, 95, 115, 116, 97, 116, 105, 99, 95, 97, 116, 116, 114, 105, 98, 117, 116, 101, 115, 95, 95]) 434 (.ref 91), dE p (sL [95, 95, 100, 105, 99, 116, 95, 95]) 437 (.ref 95), dE p (sL [95, 95, 119, 101, 97, 107, 114, 101, 102, 95, 95]) 439 (.ref 96), dE p (sL [95, 95, 100, 111, 99, 95, 95]) 440 .none].toArray 4), slots := [].toArray }
noncomputable def k93 (p : Params) : Obj := { cls := (.type "type"), dict := none, data := (.cls { name := (sL [73, 79, 66, 97, 115, 101]), bases := [(.type "object")], mro := [(.ref 93), (.type "object")], ns := 92, qualname := (sL [73, 79, 66, 97, 115, 101]), hasDict := true, slotNames := [], subclasses := [(.ref 108), (.ref 120)], abstract := false, collection := none, hasDel := false }), slots := [none, none, (some (.str (sL [73, 79, 66, 97, 115, 101]) 411)), (some (.str (sL [73, 79, 66, 97, 115, 101]) 419)), (some .none), (some (.bool true))].toArray }
noncomputable def k94 (p : Params) : Obj := { cls := (.type "staticmethod"), dict := none, data := (.fields [(.ref 90)].toArray), slots := [].toArray }
noncomputable def k119 (p : Params) : Obj := { cls := (.type "dict"), dict := none, data := (.dict [dE p (sL [95, 95, 109, 111, 100, 117, 108, 101, 95, 95]) 468 (.str (sL [105, 111]) 473), dE p (sL [95, 95, 102, 105, 114, 115, 116, 108, 105, 110, 101, 110, 111, 95, 95]) 472 (.int (31) 471), dE p (sL [95, 95, 115, 116, 97, 116, 105, 99, 95, 97, 116, 116, 114, 105, 98, 117, 116, 101, 115, 95, 95]) 475 (.ref 118), dE p (sL [95, 95, 100, 111, 99, 95, 95]) 476 .none].toArray 2), slots := [].toArray }
noncomputable def k120 (p : Params) : Obj := { cls := (.type "type"), dict := none, data := (.cls { name := (sL [84, 101, 120, 116, 73, 79, 66, 97, 115, 101]), bases := [(.ref 93)], mro := [(.ref 120), (.ref 93), (.type "object")], ns := 119, qualname := (sL [84, 101, 120, 116, 73, 79, 66, 97, 115, 101]), hasDict := true, slotNames := [], subclasses := [(.ref 597)], abstract := false, collection := none, hasDel := false }), slots := [(some (.ref 111)), none, (some (.str (sL [84, 101, 120, 116, 73, 79, 66, 97, 115, 101]) 461)), (some (.str (sL [84, 101, 120, 116, 73, 79, 66, 97, 115, 101]) 469)), (some .none), (some (.bool true))].toArray }
noncomputable def k350 (p : Params) : Obj := { cls := (.type "type"), dict := none, data := (.cls { name := (sL [66, 121, 116, 101, 115, 73, 79]), bases := [(.ref 108)], mro := [(.ref 350), (.ref 108), (.ref 93), (.type "object")], ns := 349, qualname := (sL [66, 121, 116, 101, 115, 73, 79]), hasDict := true, slotNames := [], subclasses := [], abstract := false, collection := none, hasDel := false }), slots := [(some (.ref 123)), none, (some (.str (sL [66, 121, 116, 101, 115, 73, 79]) 479)), (some (.str (sL [66, 121, 116, 101, 115, 73, 79]) 487)), (some .none), (some (.bool true))].toArray }
noncomputable def k360 (p : Params) : Obj := { cls := (.type "tuple"), dict := none, data := (.seq [(.str (sL []) 755), (.str (sL [10]) 756)].toArray 0), slots := [].toArray }
noncomputable def k366 (p : Params) : Obj := { cls := (.type "code"), dict := none, data := (.fields [(.str (sL [95, 95, 105, 110, 105, 116, 95, 95]) 757), (.str (sL [83, 116, 114, 105, 110, 103, 73, 79, 46, 95, 95, 105, 110, 105, 116, 95, 95]) 758), (.str (sL [47, 99, 108, 97, 105, 109, 47, 99, 117, 116, 46, 112, 121]) 759), (.int (206) 0), (.int (3) 0), (.int (0) 0), (.int (0) 0), (.int (3) 0), (.ref 361), (.bool true), (.int (318) 0), (.ref 362), .none, (.ref 363), (.ref 364), (.ref 365), (.int (763) 0), (.int (206) 0), (.str (sL [47, 99, 108, 97, 105, 109, 47, 99, 117, 116, 46, 112, 121]) 764)].toArray), slots := [].toArray }
noncomputable def k367 (p : Params) : Obj := { cls := (.type "function"), dict := none, data := (.func (fdOf (inCls (stAt 12) 1) (sL [83, 116, 114, 105, 110, 103, 73, 79, 46, 95, 95, 105, 110, 105, 116, 95, 95]) (.ref 360) (.str (sL [105, 111]) 371) (.ref 366))), slots := [].toArray }
noncomputable def k373 (p : Params) : Obj := { cls := (.type "code"), dict := none, data := (.fields [(.str (sL [95, 95, 116, 114, 97, 110, 115, 108, 97, 116, 101, 100]) 766), (.str (sL [83, 116, 114, 105, 110, 103, 73, 79, 46, 95, 95, 116, 114, 97, 110, 115, 108, 97, 116, 101, 100]) 767), (.str (sL [47, 99, 108, 97, 105, 109, 47, 99, 117, 116, 46, 112, 121]) 768), (.int (219) 0), (.int (2) 0), (.int (0) 0), (.int (0) 0), (.int (3) 0), (.ref 368), (.bool true), (.int (318) 0), (.ref 369), .none, (.ref 370), (.ref 371), (.ref 372), (.int (772) 0), (.int (219) 0), (.str (sL [47, 99, 108, 97, 105, 109, 47, 99, 117, 116, 46, 112, 121]) 773)].toArray), slots := [].toArray }
noncomputable def k374 (p : Params) : Obj := { cls := (.type "function"), dict := none, data := (.func (fdOf (inCls (stAt 12) 2) (sL [83, 116, 114, 105, 110, 103, 73, 79, 46, 95, 95, 116, 114, 97, 110, 115, 108, 97, 116, 101, 100]) .none (.str (sL [105, 111]) 371) (.ref 373))), slots := [].toArray }
noncomputable def k380 (p : Params) : Obj := { cls := (.type "code"), dict := none, data := (.fields [(.str (sL [95, 95, 99, 104, 101, 99, 107]) 775), (.str (sL [83, 116, 114, 105, 110, 103, 73, 79, 46, 95, 95, 99, 104, 101, 99, 107]) 776), (.str (sL [47, 99, 108, 97, 105, 109, 47, 99, 117, 116, 46, 112, 121]) 777), (.int (227) 0), (.int (1) 0), (.int (0) 0), (.int (0) 0), (.int (3) 0), (.ref 375), (.bool true), (.int (318) 0), (.ref 376), .none, (.ref 377), (.ref 378), (.ref 379), (.int (779) 0), (.int (227) 0), (.str (sL [47, 99, 108, 97, 105, 109, 47, 99, 117, 116, 46, 112, 121]) 780)].toArray), slots := [].toArray }
noncomputable def k381 (p : Params) : Obj := { cls := (.type "function"), dict := none, data := (.func (fdOf (inCls (stAt 12) 3) (sL [83, 116, 114, 105, 110, 103, 73, 79, 46, 95, 95, 99, 104, 101, 99, 107]) .none (.str (sL [105, 111]) 371) (.ref 380))), slots := [].toArray }
noncomputable def k536 (p : Params) : Obj := { cls := (.type "tuple"), dict := none, data := (.seq [(.int (-1) 948)].toArray 0), slots := [].toArray }
noncomputable def k542 (p : Params) : Obj := { cls := (.type "code"), dict := none, data := (.fields [(.str (sL [114, 101, 97, 100]) 949), (.str (sL [83, 116, 114, 105, 110, 103, 73, 79, 46, 114, 101, 97, 100]) 950), (.str (sL [47, 99, 108, 97, 105, 109, 47, 99, 117, 116, 46, 112, 121]) 951), (.int (349) 0), (.int (2) 0), (.int (2) 0), (.int (0) 0), (.int (3) 0), (.ref 537), (.bool true), (.int (318) 0), (.ref 538), .none, (.ref 539), (.ref 540), (.ref 541), (.int (956) 0), (.int (349) 0), (.str (sL [47, 99, 108, 97, 105, 109, 47, 99, 117, 116, 46, 112, 121]) 957)].toArray), slots := [].toArray }
noncomputable def k543 (p : Params) : Obj := { cls := (.type "function"), dict := none, data := (.func (fdOf (inCls (stAt 12) 25) (sL [83, 116, 114, 105, 110, 103, 73, 79, 46, 114, 101, 97, 100]) (.ref 536) (.str (sL [105, 111]) 371) (.ref 542))), slots := [].toArray }
noncomputable def k596 (p : Params) : Obj := { cls := (.type "dict"), dict := none, data := (.dict [dE p (sL [95, 95, 109, 111, 100, 117, 108, 101, 95, 95]) 748 (.str (sL [95, 105, 111]) 753), dE p (sL [95, 95, 102, 105, 114, 115, 116, 108, 105, 110, 101, 110, 111, 95, 95]) 752 (.int (203) 751), dE p (sL [95, 95, 105, 110, 105, 116, 95, 95]) 765 (.ref 367), dE p (sL [95, 83, 116, 114, 105, 110, 103, 73, 79, 95, 95, 116, 114, 97, 110, 115, 108, 97, 116, 101, 100]) 774 (.ref 374), dE p (sL [95, 83, 116, 114, 105, 110, 103, 73, 79, 95, 95, 99, 104, 101, 99, 107]) 781 (.ref 381), dE p (sL [95, 83, 116, 114, 105, 110, 103, 73, 79, 95, 95, 99, 104, 101, 99, 107, 95, 100, 111, 116]) 788 (.ref 388), dE p (sL [95, 83, 116, 114, 105, 110, 103, 73, 79, 95, 95, 108, 105, 110, 101]) 803 (.ref 395), dE p (sL [99, 108, 111, 115, 101, 100]) 811 (.ref 403), dE p (sL [108, 105, 110, 101, 95, 98, 117, 102, 102, 101, 114, 105, 110, 103]) 819 (.ref 411), dE p (sL [110, 101, 119, 108, 105, 110, 101, 115]) 827 (.ref 419), dE p (sL [101, 110, 99, 111, 100, 105, 110, 103]) 835 (.ref 427), dE p (sL [101, 114, 114, 111, 114, 115]) 843 (.ref 435), dE p (sL [99, 108, 111, 115, 101]) 850 (.ref 442), dE p (sL [95, 95, 101, 110, 116, 101, 114, 95, 95]) 857 (.ref 449), dE p (sL [95, 95, 101, 120, 105, 116, 95, 95]) 865 (.ref 456), dE p (sL [114, 101, 97, 100, 97, 98, 108, 101]) 872 (.ref 463), dE p (sL [119, 114, 105, 116, 97, 98, 108, 101]) 879 (.ref 470), dE p (sL [115, 101, 101, 107, 97, 98, 108, 101]) 886 (.ref 477), dE p (sL [105, 115, 97, 116, 116, 121]) 893 (.ref 484), dE p (sL [102, 108, 117, 115, 104]) 900 (.ref 491), dE p (sL [102, 105, 108, 101, 110, 111]) 907 (.ref 498), dE p (sL [100, 101, 116, 97, 99, 104]) 914 (.ref 505), dE p (sL [103, 101, 116, 118, 97, 108, 117, 101]) 921 (.ref 512), dE p (sL [116, 101, 108, 108]) 928 (.ref 519), dE p (sL [115, 101, 101, 107]) 938 (.ref 527), dE p (sL [116, 114, 117, 110, 99, 97, 116, 101]) 946 (.ref 535), dE p (sL [114, 101, 97, 100]) 958 (.ref 543), dE p (sL [114, 101, 97, 100, 108, 105, 110, 101]) 968 (.ref 551), dE p (sL [114, 101, 97, 100, 108, 105, 110, 101, 115]) 978 (.ref 559), dE p (sL [95, 95, 105, 116, 101, 114, 95, 95]) 985 (.ref 566), dE p (sL [95, 95, 110, 101, 120, 116, 95, 95]) 993 (.ref 573), dE p (sL [119, 114, 105, 116, 101]) 1005 (.ref 580), dE p (sL [119, 114, 105, 116, 101, 108, 105, 110, 101, 115]) 1013 (.ref 587), dE p (sL [95, 95, 114, 101, 112, 114, 95, 95]) 1020 (.ref 594), dE p (sL [95, 95, 115, 116, 97, 116, 105, 99, 95, 97, 116, 116, 114, 105, 98, 117, 116, 101, 115, 95, 95]) 1024 (.ref 595), dE p (sL [95, 95, 100, 111, 99, 95, 95]) 1025 .none].toArray 2), slots := [].toArray }
noncomputable def k597 (p : Params) : Obj := { cls := (.type "type"), dict := none, data := (.cls { name := (sL [83, 116, 114, 105, 110, 103, 73, 79]), bases := [(.ref 120)], mro := [(.ref 597), (.ref 120), (.ref 93), (.type "object")], ns := 596, qualname := (sL [83, 116, 114, 105, 110, 103, 73, 79]), hasDict := true, slotNames := [], subclasses := [], abstract := false, collection := none, hasDel := false }), slots := [(some (.ref 353)), none, (some (.str (sL [83, 116, 114, 105, 110, 103, 73, 79]) 741)), (some (.str (sL [83, 116, 114, 105, 110, 103, 73, 79]) 749)), (some .none), (some (.bool true))].toArray }
noncomputable def k649 (p : Params) : Obj := { cls := (.type "tuple"), dict := none, data := (.seq [.none, .none, (.bool false), (.bool false)].toArray 0), slots := [].toArray }
noncomputable def k655 (p : Params) : Obj := { cls := (.type "code"), dict := none, data := (.fields [(.str (sL [95, 95, 105, 110, 105, 116, 95, 95]) 1100), (.str (sL [115, 104, 108, 101, 120, 46, 95, 95, 105, 110, 105, 116, 95, 95]) 1101), (.str (sL [47, 99, 108, 97, 105, 109, 47, 99, 117, 116, 46, 112, 121]) 1102), (.int (474) 0), (.int (5) 0), (.int (0) 0), (.int (0) 0), (.int (3) 0), (.ref 650), (.bool true), (.int (318) 0), (.ref 651), .none, (.ref 652), (.ref 653), (.ref 654), (.int (1109) 0), (.int (474) 0), (.str (sL [47, 99, 108, 97, 105, 109, 47, 99, 117, 116, 46, 112, 121]) 1110)].toArray), slots := [].toArray }
noncomputable def k656 (p : Params) : Obj := { cls := (.type "function"), dict := none, data := (.func (fdOf (inCls (stAt 21) 0) (sL [115, 104, 108, 101, 120, 46, 95, 95, 105, 110, 105, 116, 95, 95]) (.ref 649) (.str (sL [99, 112, 121, 51, 49, 51, 46, 115, 104, 108, 101, 120]) 1086) (.ref 655))), slots := [].toArray }
noncomputable def k662 (p : Params) : Obj := { cls := (.type "code"), dict := none, data := (.fields [(.str (sL [112, 117, 110, 99, 116, 117, 97, 116, 105, 111, 110, 95, 99, 104, 97, 114, 115]) 1112), (.str (sL [115, 104, 108, 101, 120, 46, 112, 117, 110, 99, 116, 117, 97, 116, 105, 111, 110, 95, 99, 104, 97, 114, 115]) 1113), (.str (sL [47, 99, 108, 97, 105, 109, 47, 99, 117, 116, 46, 112, 121]) 1114), (.int (515) 0), (.int (1) 0), (.int (0) 0), (.int (0) 0), (.int (3) 0), (.ref 657), (.bool true), (.int (318) 0), (.ref 658), .none, (.ref 659), (.ref 660), (.ref 661), (.int (1116) 0), (.int (515) 0), (.str (sL [47, 99, 108, 97, 105, 109, 47, 99, 117, 116, 46, 112, 121]) 1117)].toArray), slots := [].toArray }
noncomputable def k663 (p : Params) : Obj := { cls := (.type "function"), dict := none, data := (.func (fdOf (inCls (stAt 21) 1) (sL [115, 104, 108, 101, 120, 46, 112, 117, 110, 99, 116, 117, 97, 116, 105, 111, 110, 95, 99, 104, 97, 114, 115]) .none (.str (sL [99, 112, 121, 51, 49, 51, 46, 115, 104, 108, 101, 120]) 1086) (.ref 662))), slots := [].toArray }
noncomputable def k664 (p : Params) : Obj := { cls := (.type "property"), dict := none, data := (.fields [(.ref 663), .none, .none, .none, (.str (sL [112, 117, 110, 99, 116, 117, 97, 116, 105, 111, 110, 95, 99, 104, 97, 114, 115]) 1119), (.bool false)].toArray), slots := [].toArray }
noncomputable def k692 (p : Params) : Obj := { cls := (.type "code"), dict := none, data := (.fields [(.str (sL [103, 101, 116, 95, 116, 111, 107, 101, 110]) 1144), (.str (sL [115, 104, 108, 101, 120, 46, 103, 101, 116, 95, 116, 111, 107, 101, 110]) 1145), (.str (sL [47, 99, 108, 97, 105, 109, 47, 99, 117, 116, 46, 112, 121]) 1146), (.int (542) 0), (.int (1) 0), (.int (0) 0), (.int (0) 0), (.int (3) 0), (.ref 687), (.bool true), (.int (318) 0), (.ref 688), .none, (.ref 689), (.ref 690), (.ref 691), (.int (1153) 0), (.int (542) 0), (.str (sL [47, 99, 108, 97, 105, 109, 47, 99, 117, 116, 46, 112, 121]) 1154)].toArray), slots := [].toArray }
noncomputable def k693 (p : Params) : Obj := { cls := (.type "function"), dict := none, data := (.func (fdOf (inCls (stAt 21) 5) (sL [115, 104, 108, 101, 120, 46, 103, 101, 116, 95, 116, 111, 107, 101, 110]) .none (.str (sL [99, 112, 121, 51, 49, 51, 46, 115, 104, 108, 101, 120]) 1086) (.ref 692))), slots := [].toArray }
noncomputable def k699 (p : Params) : Obj := { cls := (.type "code"), dict := none, data := (.fields [(.str (sL [114, 101, 97, 100, 95, 116, 111, 107, 101, 110]) 1156), (.str (sL [115, 104, 108, 101, 120, 46, 114, 101, 97, 100, 95, 116, 111, 107, 101, 110]) 1157), (.str (sL [47, 99, 108, 97, 105, 109, 47, 99, 117, 116, 46, 112, 121]) 1158), (.int (569) 0), (.int (1) 0), (.int (0) 0), (.int (0) 0), (.int (3) 0), (.ref 694), (.bool true), (.int (318) 0), (.ref 695), .none, (.ref 696), (.ref 697), (.ref 698), (.int (1164) 0), (.int (569) 0), (.str (sL [47, 99, 108, 97, 105, 109, 47, 99, 117, 116, 46, 112, 121]) 1165)].toArray), slots := [].toArray }
noncomputable def k700 (p : Params) : Obj := { cls := (.type "function"), dict := none, data := (.func (fdOf (inCls (stAt 21) 6) (sL [115, 104, 108, 101, 120, 46, 114, 101, 97, 100, 95, 116, 111, 107, 101, 110]) .none (.str (sL [99, 112, 121, 51, 49, 51, 46, 115, 104, 108, 101, 120]) 1086) (.ref 699))), slots := [].toArray }
noncomputable def k721 (p : Params) : Obj := { cls := (.type "code"), dict := none, data := (.fields [(.str (sL [95, 95, 105, 116, 101, 114, 95, 95]) 1184), (.str (sL [115, 104, 108, 101, 120, 46, 95, 95, 105, 116, 101, 114, 95, 95]) 1185), (.str (sL [47, 99, 108, 97, 105, 109, 47, 99, 117, 116, 46, 112, 121]) 1186), (.int (716) 0), (.int (1) 0), (.int (0) 0), (.int (0) 0), (.int (3) 0), (.ref 716), (.bool true), (.int (318) 0), (.ref 717), .none, (.ref 718), (.ref 719), (.ref 720), (.int (1188) 0), (.int (716) 0), (.str (sL [47, 99, 108, 97, 105, 109, 47, 99, 117, 116, 46, 112, 121]) 1189)].toArray), slots := [].toArray }
noncomputable def k722 (p : Params) : Obj := { cls := (.type "function"), dict := none, data := (.func (fdOf (inCls (stAt 21) 9) (sL [115, 104, 108, 101, 120, 46, 95, 95, 105, 116, 101, 114, 95, 95]) .none (.str (sL [99, 112, 121, 51, 49, 51, 46, 115, 104, 108, 101, 120]) 1086) (.ref 721))), slots := [].toArray }
noncomputable def k728 (p : Params) : Obj := { cls := (.type "code"), dict := none, data := (.fields [(.str (sL [95, 95, 110, 101, 120, 116, 95, 95]) 1191), (.str (sL [115, 104, 108, 101, 120, 46, 95, 95, 110, 101, 120, 116, 95, 95]) 1192), (.str (sL [47, 99, 108, 97, 105, 109, 47, 99, 117, 116, 46, 112, 121]) 1193), (.int (719) 0), (.int (1) 0), (.int (0) 0), (.int (0) 0), (.int (3) 0), (.ref 723), (.bool true), (.int (318) 0), (.ref 724), .none, (.ref 725), (.ref 726), (.ref 727), (.int (1196) 0), (.int (719) 0), (.str (sL [47, 99, 108, 97, 105, 109, 47, 99, 117, 116, 46, 112, 121]) 1197)].toArray), slots := [].toArray }
noncomputable def k729 (p : Params) : Obj := { cls := (.type "function"), dict := none, data := (.func (fdOf (inCls (stAt 21) 10) (sL [115, 104, 108, 101, 120, 46, 95, 95, 110, 101, 120, 116, 95, 95]) .none (.str (sL [99, 112, 121, 51, 49, 51, 46, 115, 104, 108, 101, 120]) 1086) (.ref 728))), slots := [].toArray }
noncomputable def k731 (p : Params) : Obj := { cls := (.type "dict"), dict := none, data := (.dict [dE p (sL [95, 95, 109, 111, 100, 117, 108, 101, 95, 95]) 1095 (.str (sL [99, 112, 121, 51, 49, 51, 46, 115, 104, 108, 101, 120]) 1086), dE p (sL [95, 95, 102, 105, 114, 115, 116, 108, 105, 110, 101, 110, 111, 95, 95]) 1099 (.int (472) 1098), dE p (sL [95, 95, 105, 110, 105, 116, 95, 95]) 1111 (.ref 656), dE p (sL [112, 117, 110, 99, 116, 117, 97, 116, 105, 111, 110, 95, 99, 104, 97, 114, 115]) 1119 (.ref 664), dE p (sL [112, 117, 115, 104, 95, 116, 111, 107, 101, 110]) 1127 (.ref 671), dE p (sL [112, 117, 115, 104, 95, 115, 111, 117, 114, 99, 101]) 1136 (.ref 679), dE p (sL [112, 111, 112, 95, 115, 111, 117, 114, 99, 101]) 1143 (.ref 686), dE p (sL [103, 101, 116, 95, 116, 111, 107, 101, 110]) 1155 (.ref 693), dE p (sL [114, 101, 97, 100, 95, 116, 111, 107, 101, 110]) 1166 (.ref 700), dE p (sL [115, 111, 117, 114, 99, 101, 104, 111, 111, 107]) 1174 (.ref 707), dE p (sL [101, 114, 114, 111, 114, 95, 108, 101, 97, 100, 101, 114]) 1183 (.ref 715), dE p (sL [95, 95, 105, 116, 101, 114, 95, 95]) 1190 (.ref 722), dE p (sL [95, 95, 110, 101, 120, 116, 95, 95]) 1198 (.ref 729), dE p (sL [95, 95, 115, 116, 97, 116, 105, 99, 95, 97, 116, 116, 114, 105, 98, 117, 116, 101, 115, 95, 95]) 1219 (.ref 730), dE p (sL [95, 95, 100, 105, 99, 116, 95, 95]) 1221 (.ref 733), dE p (sL [95, 95, 119, 101, 97, 107, 114, 101, 102, 95, 95]) 1223 (.ref 734), dE p (sL [95, 95, 100, 111, 99, 95, 95]) 1224 .none].toArray 4), slots := [].toArray }
noncomputable def k732 (p : Params) : Obj := { cls := (.type "type"), dict := none, data := (.cls { name := (sL [115, 104, 108, 101, 120]), bases := [(.type "object")], mro := [(.ref 732), (.type "object")], ns := 731, qualname := (sL [115, 104, 108, 101, 120]), hasDict := true, slotNames := [], subclasses := [], abstract := false, collection := none, hasDel := false }), slots := [none, none, (some (.str (sL [115, 104, 108, 101, 120]) 1088)), (some (.str (sL [115, 104, 108, 101, 120]) 1096)), (some (.builtin "object.__new__")), (some (.bool true))].toArray }
noncomputable def k737 (p : Params) : Obj := { cls := (.type "tuple"), dict := none, data := (.seq [(.bool false), (.bool true)].toArray 0), slots := [].toArray }
noncomputable def k743 (p : Params) : Obj := { cls := (.type "code"), dict := none, data := (.fields [(.str (sL [115, 112, 108, 105, 116]) 1227), (.str (sL [115, 112, 108, 105, 116]) 1228), (.str (sL [47, 99, 108, 97, 105, 109, 47, 99, 117, 116, 46, 112, 121]) 1229), (.int (724) 0), (.int (3) 0), (.int (0) 0), (.int (0) 0), (.int (3) 0), (.ref 738), (.bool true), (.int (318) 0), (.ref 739), .none, (.ref 740), (.ref 741), (.ref 742), (.int (1234) 0), (.int (724) 0), (.str (sL [47, 99, 108, 97, 105, 109, 47, 99, 117, 116, 46, 112, 121]) 1235)].toArray), slots := [].toArray }
noncomputable def k744 (p : Params) : Obj := { cls := (.type "function"), dict := none, data := (.func (fdOf (stAt 22) (sL [115, 112, 108, 105, 116]) (.ref 737) (.str (sL [99, 112, 121, 51, 49, 51, 46, 115, 104, 108, 101, 120]) 1086) (.ref 743))), slots := [].toArray }
noncomputable def k745 (p : Params) : Obj := { cls := (.type "builtin_function_or_method"), dict := none, data := (.fields [(.builtin "re.Pattern.search"), (.ref 49)].toArray), slots := [].toArray }
noncomputable def k751 (p : Params) : Obj := { cls := (.type "code"), dict := none, data := (.fields [(.str (sL [113, 117, 111, 116, 101]) 1239), (.str (sL [113, 117, 111, 116, 101]) 1240), (.str (sL [47, 99, 108, 97, 105, 109, 47, 99, 117, 116, 46, 112, 121]) 1241), (.int (733) 0), (.int (1) 0), (.int (0) 0), (.int (0) 0), (.int (3) 0), (.ref 746), (.bool true), (.int (318) 0), (.ref 747), .none, (.ref 748), (.ref 749), (.ref 750), (.int (1243) 0), (.int (733) 0), (.str (sL [47, 99, 108, 97, 105, 109, 47, 99, 117, 116, 46, 112, 121]) 1244)].toArray), slots := [].toArray }
noncomputable def k752 (p : Params) : Obj := { cls := (.type "function"), dict := none, data := (.func (fdOf (stAt 24) (sL [113, 117, 111, 116, 101]) .none (.str (sL [99, 112, 121, 51, 49, 51, 46, 115, 104, 108, 101, 120]) 1086) (.ref 751))), slots := [].toArray }
noncomputable def k765 (p : Params) : Obj := { cls := (.type "code"), dict := none, data := (.fields [(.str (sL [95, 95, 105, 110, 105, 116, 95, 95]) 1260), (.str (sL [84, 117, 112, 108, 101, 67, 111, 109, 112, 46, 95, 95, 105, 110, 105, 116, 95, 95]) 1261), (.str (sL [47, 99, 108, 97, 105, 109, 47, 99, 117, 116, 46, 112, 121]) 1262), (.int (742) 0), (.int (2) 0), (.int (0) 0), (.int (0) 0), (.int (3) 0), (.ref 760), (.bool true), (.int (318) 0), (.ref 761), .none, (.ref 762), (.ref 763), (.ref 764), (.int (1265) 0), (.int (742) 0), (.str (sL [47, 99, 108, 97, 105, 109, 47, 99, 117, 116, 46, 112, 121]) 1266)].toArray), slots := [].toArray }
noncomputable def k766 (p : Params) : Obj := { cls := (.type "function"), dict := none, data := (.func (fdOf (inCls (stAt 26) 0) (sL [84, 117, 112, 108, 101, 67, 111, 109, 112, 46, 95, 95, 105, 110, 105, 116, 95, 95]) .none (.str (sL [99, 112, 121, 51, 49, 51, 46, 112, 115, 116, 97, 116, 115]) 1246) (.ref 765))), slots := [].toArray }
noncomputable def k772 (p : Params) : Obj := { cls := (.type "code"), dict := none, data := (.fields [(.str (sL [99, 111, 109, 112, 97, 114, 101]) 1268), (.str (sL [84, 117, 112, 108, 101, 67, 111, 109, 112, 46, 99, 111, 109, 112, 97, 114, 101]) 1269), (.str (sL [47, 99, 108, 97, 105, 109, 47, 99, 117, 116, 46, 112, 121]) 1270), (.int (745) 0), (.int (3) 0), (.int (0) 0), (.int (0) 0), (.int (3) 0), (.ref 767), (.bool true), (.int (318) 0), (.ref 768), .none, (.ref 769), (.ref 770), (.ref 771), (.int (1278) 0), (.int (745) 0), (.str (sL [47, 99, 108, 97, 105, 109, 47, 99, 117, 116, 46, 112, 121]) 1279)].toArray), slots := [].toArray }
noncomputable def k773 (p : Params) : Obj := { cls := (.type "function"), dict := none, data := (.func (fdOf (inCls (stAt 26) 1) (sL [84, 117, 112, 108, 101, 67, 111, 109, 112, 46, 99, 111, 109, 112, 97, 114, 101]) .none (.str (sL [99, 112, 121, 51, 49, 51, 46, 112, 115, 116, 97, 116, 115]) 1246) (.ref 772))), slots := [].toArray }
noncomputable def k775 (p : Params) : Obj := { cls := (.type "dict"), dict := none, data := (.dict [dE p (sL [95, 95, 109, 111, 100, 117, 108, 101, 95, 95]) 1255 (.str (sL [99, 112, 121, 51, 49, 51, 46, 112, 115, 116, 97, 116, 115]) 1246), dE p (sL [95, 95, 102, 105, 114, 115, 116, 108, 105, 110, 101, 110, 111, 95, 95]) 1259 (.int (740) 1258), dE p (sL [95, 95, 105, 110, 105, 116, 95, 95]) 1267 (.ref 766), dE p (sL [99, 111, 109, 112, 97, 114, 101]) 1280 (.ref 773), dE p (sL [95, 95, 115, 116, 97, 116, 105, 99, 95, 97, 116, 116, 114, 105, 98, 117, 116, 101, 115, 95, 95]) 1282 (.ref 774), dE p (sL [95, 95, 100, 105, 99, 116, 95, 95]) 1284 (.ref 777), dE p (sL [95, 95, 119, 101, 97, 107, 114, 101, 102, 95, 95]) 1286 (.ref 778), dE p (sL [95, 95, 100, 111, 99, 95, 95]) 1287 .none].toArray 4), slots := [].toArray }
noncomputable def k776 (p : Params) : Obj := { cls := (.type "type"), dict := none, data := (.cls { name := (sL [84, 117, 112, 108, 101, 67, 111, 109, 112]), bases := [(.type "object")], mro := [(.ref 776), (.type "object")], ns := 775, qualname := (sL [84, 117, 112, 108, 101, 67, 111, 109, 112]), hasDict := true, slotNames := [], subclasses := [], abstract := false, collection := none, hasDel := false }), slots := [none, none, (some (.str (sL [84, 117, 112, 108, 101, 67, 111, 109, 112]) 1248)), (some (.str (sL [84, 117, 112, 108, 101, 67, 111, 109, 112]) 1256)), (some (.builtin "object.__new__")), (some (.bool true))].toArray }
noncomputable def k786 (p : Params) : Obj := { cls := (.type "code"), dict := none, data := (.fields [(.str (sL [95, 108, 97, 119, 95, 119, 111, 114, 100]) 1292), (.str (sL [95, 108, 97, 119, 95, 119, 111, 114, 100]) 1293), (.str (sL [47, 99, 108, 97, 105, 109, 47, 99, 117, 116, 46, 112, 121]) 1294), (.int (755) 0), (.int (1) 0), (.int (0) 0), (.int (0) 0), (.int (3) 0), (.ref 781), (.bool true), (.int (318) 0), (.ref 782), .none, (.ref 783), (.ref 784), (.ref 785), (.int (1299) 0), (.int (755) 0), (.str (sL [47, 99, 108, 97, 105, 109, 47, 99, 117, 116, 46, 112, 121]) 1300)].toArray), slots := [].toArray }
noncomputable def k787 (p : Params) : Obj := { cls := (.type "function"), dict := none, data := (.func (fdOf (stAt 28) (sL [95, 108, 97, 119, 95, 119, 111, 114, 100]) .none (.str (sL [108, 97, 119, 95, 110, 113, 48, 50, 49, 54, 95, 48, 49]) 1290) (.ref 786))), slots := [].toArray }
noncomputable def k791 (p : Params) : Obj := { cls := (.type "code"), dict := none, data := (.fields [(.str (sL [95, 108, 97, 119, 95, 98, 97, 114, 101]) 1302), (.str (sL [95, 108, 97, 119, 95, 98, 97, 114, 101]) 1303), (.str (sL [47, 99, 108, 97, 105, 109, 47, 99, 117, 116, 46, 112, 121]) 1304), (.int (761) 0), (.int (1) 0), (.int (0) 0), (.int (0) 0), (.int (3) 0), (.ref 788), (.bool true), (.int (318) 0), (.ref 789), .none, .none, .none, (.ref 790), (.int (1305) 0), (.int (761) 0), (.str (sL [47, 99, 108, 97, 105, 109, 47, 99, 117, 116, 46, 112, 121]) 1306)].toArray), slots := [].toArray }
noncomputable def k792 (p : Params) : Obj := { cls := (.type "function"), dict := none, data := (.func (fdOf (stAt 29) (sL [95, 108, 97, 119, 95, 98, 97, 114, 101]) .none (.str (sL [108, 97, 119, 95, 110, 113, 48, 50, 49, 54, 95, 48, 49]) 1290) (.ref 791))), slots := [].toArray }
noncomputable def k798 (p : Params) : Obj := { cls := (.type "code"), dict := none, data := (.fields [(.str (sL [95, 108, 97, 119, 95, 111, 114, 100, 101, 114]) 1308), (.str (sL [95, 108, 97, 119, 95, 111, 114, 100, 101, 114]) 1309), (.str (sL [47, 99, 108, 97, 105, 109, 47, 99, 117, 116, 46, 112, 121]) 1310), (.int (764) 0), (.int (2) 0), (.int (0) 0), (.int (0) 0), (.int (3) 0), (.ref 793), (.bool true), (.int (318) 0), (.ref 794), .none, (.ref 795), (.ref 796), (.ref 797), (.int (1315) 0), (.int (764) 0), (.str (sL [47, 99, 108, 97, 105, 109, 47, 99, 117, 116, 46, 112, 121]) 1316)].toArray), slots := [].toArray }
noncomputable def k799 (p : Params) : Obj := { cls := (.type "function"), dict := none, data := (.func (fdOf (stAt 30) (sL [95, 108, 97, 119, 95, 111, 114, 100, 101, 114]) .none (.str (sL [108, 97, 119, 95, 110, 113, 48, 50, 49, 54, 95, 48, 49]) 1290) (.ref 798))), slots := [].toArray }
noncomputable def k805 (p : Params) : Obj := { cls := (.type "code"), dict := none, data := (.fields [(.str (sL [95, 108, 97, 119, 95, 100, 117, 101]) 1318), (.str (sL [95, 108, 97, 119, 95, 100, 117, 101]) 1319), (.str (sL [47, 99, 108, 97, 105, 109, 47, 99, 117, 116, 46, 112, 121]) 1320), (.int (774) 0), (.int (3) 0), (.int (0) 0), (.int (0) 0), (.int (3) 0), (.ref 800), (.bool true), (.int (318) 0), (.ref 801), .none, (.ref 802), (.ref 803), (.ref 804), (.int (1326) 0), (.int (774) 0), (.str (sL [47, 99, 108, 97, 105, 109, 47, 99, 117, 116, 46, 112, 121]) 1327)].toArray), slots := [].toArray }
noncomputable def k806 (p : Params) : Obj := { cls := (.type "function"), dict := none, data := (.func (fdOf (stAt 31) (sL [95, 108, 97, 119, 95, 100, 117, 101]) .none (.str (sL [108, 97, 119, 95, 110, 113, 48, 50, 49, 54, 95, 48, 49]) 1290) (.ref 805))), slots := [].toArray }
noncomputable def k810 (p : Params) : Obj := { cls := (.type "code"), dict := none, data := (.fields [(.str (sL [95, 108, 97, 119, 95, 97, 110, 115, 119, 101, 114, 115]) 1329), (.str (sL [95, 108, 97, 119, 95, 97, 110, 115, 119, 101, 114, 115]) 1330), (.str (sL [47, 99, 108, 97, 105, 109, 47, 99, 117, 116, 46, 112, 121]) 1331), (.int (781) 0), (.int (1) 0), (.int (0) 0), (.int (0) 0), (.int (3) 0), (.ref 807), (.bool true), (.int (318) 0), (.ref 808), .none, .none, .none, (.ref 809), (.int (1332) 0), (.int (781) 0), (.str (sL [47, 99, 108, 97, 105, 109, 47, 99, 117, 116, 46, 112, 121]) 1333)].toArray), slots := [].toArray }
noncomputable def k811 (p : Params) : Obj := { cls := (.type "function"), dict := none, data := (.func (fdOf (stAt 32) (sL [95, 108, 97, 119, 95, 97, 110, 115, 119, 101, 114, 115]) .none (.str (sL [108, 97, 119, 95, 110, 113, 48, 50, 49, 54, 95, 48, 49]) 1290) (.ref 810))), slots := [].toArray }
noncomputable def k817 (p : Params) : Obj := { cls := (.type "code"), dict := none, data := (.fields [(.str (sL [108, 97, 119]) 1335), (.str (sL [108, 97, 119]) 1336), (.str (sL [47, 99, 108, 97, 105, 109, 47, 99, 117, 116, 46, 112, 121]) 1337), (.int (796) 0), (.int (1) 0), (.int (0) 0), (.int (0) 0), (.int (3) 0), (.ref 812), (.bool true), (.int (318) 0), (.ref 813), .none, (.ref 814), (.ref 815), (.ref 816), (.int (1340) 0), (.int (796) 0), (.str (sL [47, 99, 108, 97, 105, 109, 47, 99, 117, 116, 46, 112, 121]) 1341)].toArray), slots := [].toArray }
noncomputable def k818 (p : Params) : Obj := { cls := (.type "function"), dict := none, data := (.func (fdOf (stAt 33) (sL [108, 97, 119]) .none (.str (sL [108, 97, 119, 95, 110, 113, 48, 50, 49, 54, 95, 48, 49]) 1290) (.ref 817))), slots := [].toArray }
noncomputable def kList (p : Params) : List (Nat × Obj) := [(732, k732 p), (597, k597 p), (731, k731 p), (596, k596 p), (776, k776 p), (3, k3 p), (0, k0 p), (2, k2 p), (775, k775 p), (93, k93 p), (120, k120 p), (92, k92 p), (119, k119 p), (664, k664 p), (663, k663 p), (662, k662 p), (48, k48 p), (49, k49 p), (62, k62 p), (63, k63 p), (89, k89 p), (90, k90 p), (94, k94 p), (350, k350 p), (360, k360 p), (366, k366 p), (367, k367 p), (373, k373 p), (374, k374 p), (380, k380 p), (381, k381 p), (536, k536 p), (542, k542 p), (543, k543 p), (649, k649 p), (655, k655 p), (656, k656 p), (692, k692 p), (693, k693 p), (699, k699 p), (700, k700 p), (721, k721 p), (722, k722 p), (728, k728 p), (729, k729 p), (737, k737 p), (743, k743 p), (744, k744 p), (745, k745 p), (751, k751 p), (752, k752 p), (765, k765 p), (766, k766 p), (772, k772 p), (773, k773 p), (786, k786 p), (787, k787 p), (791, k791 p), (792, k792 p), (798, k798 p), (799, k799 p), (805, k805 p), (806, k806 p), (810, k810 p), (811, k811 p), (817, k817 p), (818, k818 p)]
noncomputable def kAddrs : List Nat := [732, 597, 731, 596, 776, 3, 0, 2, 775, 93, 120, 92, 119, 664, 663, 662, 48, 49, 62, 63, 89, 90, 94, 350, 360, 366, 367, 373, 374, 380, 381, 536, 542, 543, 649, 655, 656, 692, 693, 699, 700, 721, 722, 728, 729, 737, 743, 744, 745, 751, 752, 765, 766, 772, 773, 786, 787, 791, 792, 798, 799, 805, 806, 810, 811, 817, 818]
noncomputable def kGet : List (Nat × Obj) → Nat → Option Obj
  | [], _ => none
  | x :: l, a => match Nat.beq x.1 a with
    | true => some x.2
    | false => kGet l a
noncomputable def kLook (p : Params) (a : Nat) : Option Obj := kGet (kList p) a
noncomputable def q0 : Program := PySem.W.view pw [0, 1, 33]
noncomputable def loose0 : List Str := ["_wall", "_twin_re_1", "__name__", "_whence", "_index", "UnsupportedOperation", "IOBase", "BufferedIOBase", "TextIOBase", "BytesIO", "StringIO", "_kind", "_fspath", "_check_arg_types", "isabs", "join", "dirname", "shlex", "split", "_find_unsafe", "quote", "TupleComp", "_law_word", "_law_bare", "_law_order", "_law_due", "_law_answers"]
end Mine
end
section
open PySem PySem.W PyProof.Rows
set_option Elab.async false
set_option maxRecDepth 1000000
set_option maxHeartbeats 0
namespace Mine
theorem tw_head {α : Type} (p : Program) (N : Nat) (F : Shared → Shared → α) (w : World) :
    headE p N importEnds treeTable start fenceModules? stepOk stepT denote Heap.nsMap F () w =
    headE p N PySem.W.Fast.tw10274390034422433532 PySem.W.Fast.tw14364793385576792824 PySem.W.Fast.tw1435165496053646825 PySem.W.Fast.tw14289696077712309145 PySem.W.Fast.tw6613529449190102663 PySem.W.Fast.tw10156331382660048174 PySem.W.Fast.tw11892475500146522536 PySem.W.Fast.tw8920871248978507458 F () w := by
  rw [PySem.W.Fast.te10274390034422433532, PySem.W.Fast.te14364793385576792824, PySem.W.Fast.te1435165496053646825, PySem.W.Fast.te14289696077712309145, PySem.W.Fast.te6613529449190102663, PySem.W.Fast.te10156331382660048174, PySem.W.Fast.te11892475500146522536, PySem.W.Fast.te8920871248978507458]
theorem left0 : LeftO pw q0 loose0 (fun _ => true) (fun s => kAddrs.map s.heap.get?) (fun w => (kList w.params).map fun x => some x.2) 10748 := by
  refine leftO_of_T fun w => ?_
  rw [tw_head, PySem.W.Fast.te4187177175401517315]
  kernel_rfl
end Mine
end
section
open PySem PySem.W PyProof.Rows
set_option Elab.async false
set_option maxRecDepth 100000
namespace Mine
open PySem.W.X (Kont Means aroundOf endOf okMark XV)

noncomputable abbrev Led := List (Addr × Obj)

/-- what is known of the heap h: it keeps the ghost g, and bears the ledger's objects, none of which is in g -/
structure Own (g h : Heap) (led : Led) : Prop where
  keep : ∀ b o, g.get? b = some o → h.get? b = some o
  has : ∀ p ∈ led, h.get? p.1 = some p.2
  away : ∀ p ∈ led, g.get? p.1 = none
  nodup : (led.map (·.1)).Nodup

theorem Own.alloc {g h : Heap} {led : Led} (D : Own g h led) {o : Obj} (hf : o.isFreed = false) : Own g (h.push o) ((h.objs.size, o) :: led) := by
  refine ⟨fun b o' e => Heap.get?_push_of_some _ (D.keep b o' e), fun p hp => ?_, fun p hp => ?_, ?_⟩
  · rcases List.mem_cons.mp hp with rfl | hp
    · exact Heap.get?_push_size _ hf
    · exact Heap.get?_push_of_some _ (D.has p hp)
  · rcases List.mem_cons.mp hp with rfl | hp
    · cases e : g.get? h.objs.size with
      | none => rfl
      | some o' => exact absurd (Heap.lt_size (D.keep _ _ e)) (Nat.lt_irrefl _)
    · exact D.away p hp
  · rw [List.map_cons, List.nodup_cons]
    refine ⟨fun hm => ?_, D.nodup⟩
    obtain ⟨q, hq, e⟩ := List.mem_map.mp hm
    have := Heap.lt_size (D.has q hq)
    rw [e] at this
    exact Nat.lt_irrefl _ this

noncomputable def nth : Led → Nat → Option (Addr × Obj)
  | [], _ => none
  | x :: _, 0 => some x
  | _ :: l, n + 1 => nth l n
noncomputable def put : Led → Nat → Obj → Led
  | [], _, _ => []
  | x :: l, 0, o => (x.1, o) :: l
  | x :: l, n + 1, o => x :: put l n o
theorem nth_mem {p : Addr × Obj} : ∀ (l : Led) (j : Nat), nth l j = some p → p ∈ l := by
  intro l
  induction l with
  | nil => intro j h; simp [nth] at h
  | cons x l ih =>
    intro j h
    cases j with
    | zero =>
      simp only [nth, Option.some.injEq] at h
      rw [h]; exact List.mem_cons_self
    | succ n => exact List.mem_cons_of_mem _ (ih n h)
theorem put_addrs : ∀ (l : Led) (j : Nat) (o : Obj), (put l j o).map (·.1) = l.map (·.1)
  | [], _, _ => rfl
  | _ :: _, 0, _ => rfl
  | _ :: l, n + 1, o => by simp only [put, List.map_cons, put_addrs l n o]
theorem put_mem {a : Addr} {o o' : Obj} : ∀ (l : Led) (j : Nat), (l.map (·.1)).Nodup → nth l j = some (a, o) → ∀ p ∈ put l j o', p = (a, o') ∨ (p ∈ l ∧ p.1 ≠ a) := by
  intro l
  induction l with
  | nil => intro j _ h; simp [nth] at h
  | cons x l ih =>
    intro j nd h p hp
    rw [List.map_cons, List.nodup_cons] at nd
    cases j with
    | zero =>
      simp only [nth, Option.some.injEq] at h
      subst h
      simp only [put] at hp
      rcases List.mem_cons.mp hp with e | hp
      · exact Or.inl e
      · refine Or.inr ⟨List.mem_cons_of_mem _ hp, fun e => nd.1 ?_⟩
        have := List.mem_map_of_mem (f := fun (y : Addr × Obj) => y.1) hp
        rw [e] at this
        exact this
    | succ n =>
      simp only [nth] at h
      simp only [put] at hp
      rcases List.mem_cons.mp hp with e | hp
      · refine Or.inr ⟨e ▸ List.mem_cons_self, fun q => nd.1 ?_⟩
        have := List.mem_map_of_mem (f := fun (y : Addr × Obj) => y.1) (nth_mem _ _ h)
        rw [← e, q]
        exact this
      · rcases ih n nd.2 h p hp with q | ⟨q, r⟩
        · exact Or.inl q
        · exact Or.inr ⟨List.mem_cons_of_mem _ q, r⟩
theorem Own.update {g h : Heap} {led : Led} (D : Own g h led) {j : Nat} {a : Addr} {o : Obj} {f : Obj → Obj} (hj : nth led j = some (a, o)) (hf : (f o).isFreed = false) : Own g (h.update a f) (put led j (f o)) := by
  have ho := D.has _ (nth_mem _ _ hj)
  have ga := D.away _ (nth_mem _ _ hj)
  have hs : Heap.SameBut a h (h.update a f) := Heap.SameBut.update ..
  have ge : (h.update a f).get? a = some (f o) := by first | exact Heap.get?_update_self f ho hf | exact Heap.get?_update_self _ ho hf
  refine ⟨fun b o' e => ?_, fun p hp => ?_, fun p hp => ?_, by rw [put_addrs]; exact D.nodup⟩
  · have hb : b ≠ a := fun q => by subst q; rw [ga] at e; cases e
    exact (hs.2 b hb).trans (D.keep b o' e)
  · rcases put_mem _ _ D.nodup hj p hp with rfl | ⟨q, r⟩
    · exact ge
    · exact (hs.2 _ r).trans (D.has p q)
  · have hm : p.1 ∈ led.map (·.1) := by rw [← put_addrs led j (f o)]; exact List.mem_map_of_mem hp
    obtain ⟨q, hq, e⟩ := List.mem_map.mp hm
    exact e ▸ D.away q hq

/-- a place of the machine, as far as it is told -/
structure Cf where
  c : Code
  κ : Kont
  t : Sem Fin
  led : Led
  sz : Nat
  tk : Nat
/-- hints that are left, and what is to be checked: pairs of lists that must agree -/
structure Ac where
  hs : List Nat
  a1 : List Nat := []
  a2 : List Nat := []
  f1 : List (Pos → List (Code × Pos) → Sem Fin) := []
  f2 : List (Pos → List (Code × Pos) → Sem Fin) := []
  q1 : List Bool := []
  q2 : List Bool := []
  s1 : List Bool := []
  s2 : List Bool := []
structure Ac.Ok (x : Ac) : Prop where
  a : x.a1 = x.a2
  f : x.f1 = x.f2
  q : x.q1 = x.q2
  s : x.s1 = x.s2

/-- what a pure built-in gives: its value, how many tokens it took, a condition, addresses that must agree -/
structure Pure where
  v : Value
  n : Nat := 0
  ok : Bool := true
  p1 : List Nat := []
  p2 : List Nat := []
  new : Option Obj := none
  upd : Option (Nat × Obj) := none

/-- the place behind a pure built-in -/
noncomputable def afterP (cf : Cf) (k : Result → Sem Fin) (x : Pure) : Cf := match x.new with
  | none => match x.upd with
    | none => { cf with t := k (.ok (.ret x.v)), tk := cf.tk + x.n }
    | some (j, o) => { cf with t := k (.ok (.ret x.v)), tk := cf.tk + x.n, led := put cf.led j o }
  | some o => { cf with t := k (.ok (.ret (.ref cf.sz))), tk := cf.tk + x.n, led := (cf.sz, o) :: cf.led, sz := cf.sz + 1 }

/-- what the run is given: how a code is told, the setting, the top's objects, the pure built-ins, the guards -/
structure Par where
  den : Code → Sem Fin
  set : Setting
  look : Nat → Option Obj
  ro : Led := []
  pv : Nat → Nat → Code → Led → Nat → Option Pure
  bnd : Sem Unit → (Unit → Sem Fin) → Sem Fin
  enter : Sem Unit
  room : String → Sem Unit
  msgs : List String
  weight : Code → Nat
  units : Code → Nat

inductive Out where
  | go (cf : Cf) (ac : Ac)
  | stop (cf : Cf) (ac : Ac)
  | bad (n : Nat)

noncomputable def depthK (P : Par) : Kont → Nat
  | .ret c _ _ κ => depthK P κ + P.weight c
  | _ => 0
noncomputable def unitsK (P : Par) : Kont → Nat
  | .ret c _ _ κ => unitsK P κ + P.units c
  | _ => 0
noncomputable def handledK : Kont → Option Value
  | .ret _ hd _ κ => hd.or (handledK κ)
  | _ => none
noncomputable def onlyRet : Kont → Bool
  | .base => true
  | .ret _ _ _ κ => onlyRet κ
  | _ => false

noncomputable def retC (cf : Cf) (ac : Ac) (r : Result) : Out := match cf.κ with
  | .ret c _ k κ => .go { cf with c := c, κ := κ, t := k r } ac
  | .base => .stop cf ac
  | _ => .bad 1

noncomputable def stepC (P : Par) (cf : Cf) (ac : Ac) : Out := match cf.t with
  | .pure (.done (.ret (.bool x))) => match ac.hs with
    | 0 :: hs => retC cf { ac with hs := hs } (.ok (.ret (.bool x)))
    | 1 :: hs => .go { cf with t := .pure (.done (.ret (.bool false))) } { ac with hs := 0 :: hs, s1 := x :: ac.s1, s2 := false :: ac.s2 }
    | _ :: hs => .go { cf with t := .pure (.done (.ret (.bool true))) } { ac with hs := 0 :: hs, s1 := x :: ac.s1, s2 := true :: ac.s2 }
    | [] => .bad 20
  | .pure (.done f) => retC cf ac (.ok f)
  | .raise e => retC cf ac (.error e)
  | .pure (.again c') => match ac.hs with
    | 0 :: hs => match c'.quiet with
      | true => .go { cf with c := c', t := P.den c' } { ac with hs := hs }
      | false => .bad 2
    | _ :: hs => .stop cf { ac with hs := hs }
    | [] => .bad 3
  | .rule _ k => .go { cf with t := k () } ac
  | .at _ k => .go { cf with t := k () } ac
  | .point _ k => .go { cf with t := k () } ac
  | .ask k => .go { cf with t := k P.set } ac
  | .fresh k => .go { cf with t := k cf.tk, tk := cf.tk + 1 } ac
  | .load a _ k => match ac.hs with
    | 0 :: hs => match P.look a with
      | some o => .go { cf with t := k o } { ac with hs := hs }
      | none => .bad 4
    | j :: hs => match Nat.ble 1000 j with
     | true => match nth P.ro (j - 1000) with
      | some (b, o) => .go { cf with t := k o } { ac with hs := hs, a1 := a :: ac.a1, a2 := b :: ac.a2 }
      | none => .bad 21
     | false => match nth cf.led (j - 1) with
      | some (b, o) => .go { cf with t := k o } { ac with hs := hs, a1 := a :: ac.a1, a2 := b :: ac.a2 }
      | none => .bad 5
    | [] => .bad 6
  | .update a _ f k => match ac.hs with
    | j :: hs => match nth cf.led (j - 1) with
      | some (b, o) => match (f o).isFreed with
        | false => .go { cf with t := k (), led := put cf.led (j - 1) (f o) } { ac with hs := hs, a1 := a :: ac.a1, a2 := b :: ac.a2 }
        | true => .bad 7
      | none => .bad 8
    | [] => .bad 9
  | .alloc o k => match o.isFreed with
    | false => .go { cf with t := k cf.sz, led := (cf.sz, o) :: cf.led, sz := cf.sz + 1 } ac
    | true => .bad 10
  | .handled false k => .go { cf with t := k (handledK cf.κ) } ac
  | .stack k => match ac.hs with
    | 0 :: hs => match k [] with
      | .load a _ k' => match P.look a with
        | some o => .go { cf with t := k' o } { ac with hs := hs, f1 := (fun _ _ => cf.t) :: ac.f1, f2 := (fun _ _ => P.bnd P.enter fun _ => k' o) :: ac.f2, q1 := Nat.ble (depthK P cf.κ + P.weight cf.c) 200 :: ac.q1, q2 := true :: ac.q2 }
        | none => .bad 11
      | _ => .bad 12
    | j :: hs => match Nat.ble 50 j with
     | true => .go { cf with t := k [(cf.c, default)] } { ac with hs := hs, f1 := (fun p b => k ((cf.c, p) :: b)) :: ac.f1, f2 := (fun _ _ => k [(cf.c, default)]) :: ac.f2 }
     | false => match P.msgs[j - 1]? with
      | some m => .go { cf with t := k [] } { ac with hs := hs, f1 := (fun _ _ => cf.t) :: ac.f1, f2 := (fun _ _ => P.bnd (P.room m) fun _ => k []) :: ac.f2, q1 := Nat.ble (unitsK P cf.κ + P.units cf.c) 2000 :: ac.q1, q2 := true :: ac.q2 }
      | none => .bad 13
    | [] => .bad 14
  | .call c' hd _ _ k => match ac.hs with
    | 0 :: hs => match okMark hd with
      | true => .go { cf with c := c', κ := .ret cf.c hd k cf.κ, t := P.den c' } { ac with hs := hs }
      | false => .bad 15
    | 1 :: hs => .stop cf { ac with hs := hs }
    | (n + 2) :: hs => match hd with
      | none => match P.pv (n / 2 % 32) (n / 64) c' cf.led cf.tk with
        | some x => match Nat.beq (n % 2) 0 with
          | true => .go (afterP cf k x) { ac with hs := hs, a1 := x.p1 ++ ac.a1, a2 := x.p2 ++ ac.a2, q1 := x.ok :: ac.q1, q2 := true :: ac.q2 }
          | false => .go (afterP cf k x) { ac with hs := hs, a1 := x.p1 ++ ac.a1, a2 := x.p2 ++ ac.a2, s1 := x.ok :: ac.s1, s2 := true :: ac.s2 }
        | none => .bad 16
      | some _ => .bad 17
    | [] => .bad 18
  | _ => .bad 19

/-- runs to the next stop -/
noncomputable def runC (P : Par) (n : Nat) : Cf → Ac → Option (Cf × Ac) :=
  Nat.rec (motive := fun _ => Cf → Ac → Option (Cf × Ac)) (fun _ _ => none) (fun _ ih cf ac => match stepC P cf ac with
    | .go cf' ac' => ih cf' ac'
    | .stop cf' ac' => some (cf', ac')
    | .bad _ => none) n
end Mine
end
section
open PySem PySem.W PyProof.Rows
set_option Elab.async false
set_option maxRecDepth 100000
namespace Mine
open PySem.W.X (Kont Means aroundOf endOf okMark XV)

/-- the view of the thread that X's words ask for -/
noncomputable abbrev vOf (prog : Program) (w : World) (g : Heap) (A₀ : Around) (R₀ : Result → Shared → Prop) (d : Drawn) (os : OsState) : XV := ⟨prog, w, g, 0, .nil, [], A₀, R₀, d, 0, os⟩

/-- what a pure built-in leaves -/
noncomputable def PvPost (x : Pure) (g : Heap) (led : Led) (Q : Value → Shared → Prop) (s : Shared) : Prop := match x.new with
  | none => match x.upd with
    | none => Q x.v { s with toks := s.toks + x.n }
    | some (j, o) => ∀ H, Own g H (put led j o) → H.objs.size = s.heap.objs.size → Q x.v { s with heap := H, toks := s.toks + x.n }
  | some o => Q (.ref s.heap.objs.size) { s with heap := s.heap.push o, toks := s.toks + x.n }
structure PvOk (prog : Program) (w : World) (pv : Nat → Nat → Code → Led → Nat → Option Pure) : Prop where
  len : ∀ i j c led tk x, pv i j c led tk = some x → x.p1.length = x.p2.length
  free : ∀ i j c led tk x o, pv i j c led tk = some x → x.new = some o → o.isFreed = false
  ok : ∀ i j c led tk x, pv i j c led tk = some x → x.ok = true → x.p1 = x.p2 → ∀ (A : Around) (Q : Value → Shared → Prop) (g : Heap) (s : Shared), Own g s.heap led → s.toks = tk →
    PvPost x g led Q s →
    ∃ f pos, c = .call f ⟨pos, []⟩ ∧ wpAny (model prog w) A (call f pos) Q (fun _ _ => False) s

theorem own_call {prog : Program} {w : World} {A : Around} {c : Code} {f : Value} {pos : List Value} {gd : Bool} {l : List Value} {k : Result → Sem Fin} {Q : Fin → Shared → Prop} {E : Value → Shared → Prop} {s : Shared}
    (h : wpAny (model prog w) (A.under c) (call f pos) (fun v s' => wpOwn (model prog w) A c (k (.ok (.ret v))) Q E s') (fun _ _ => False) s) : wpOwn (model prog w) A c (.call (.call f ⟨pos, []⟩) none gd l k) Q E s := by
  intro Γ p hc hΓ
  have z := h Γ p (hc ▸ hΓ.in)
  have z' : Sem.wp (model prog w) Γ (runValue (.call f ⟨pos, []⟩)) (fun v _ s' => wpOwn (model prog w) A c (k (.ok (.ret v))) Q E s') (fun _ _ _ => False) p s := z
  rw [Sem.wp_runValue] at z'
  refine wpCode_mono (fun r s' q => ?_) z'
  split at q
  · exact q Γ p hc hΓ
  · exact q.elim
  · exact q.elim

structure ParOk (P : Par) (V : XV) : Prop where
  den : P.den = denote table
  set : P.set = ⟨V.prog, V.w.params⟩
  look : ∀ a o, P.look a = some o → V.h₀.get? a = some o
  ro : ∀ p ∈ P.ro, V.h₀.get? p.1 = some p.2
  pv : PvOk V.prog V.w P.pv
  bnd : P.bnd = Sem.bind
  enter : P.enter = enterFrame
  room : P.room = cRoom
  weight : P.weight = Code.weight
  units : P.units = Code.cUnits
  lim : V.h₀.NoLimit
  depth : V.A₀.depth ≤ 700
  unit : V.A₀.units ≤ 7000
  handled : V.A₀.handled = none

noncomputable def Good (V : XV) (gens : Array GenState) (cf : Cf) : Prop :=
  ∀ h, Own V.h₀ h cf.led → h.objs.size = cf.sz → Means V cf.c none cf.κ cf.t ⟨h, gens, V.d, cf.tk, V.os⟩

section
variable {P : Par} {V : XV} {gens : Array GenState}

theorem around_depth (O : ParOk P V) : ∀ κ : Kont, (aroundOf V true κ).depth ≤ V.A₀.depth + depthK P κ
  | .base => by simp [aroundOf, depthK]
  | .ret c hd k κ => by
    have := around_depth O κ
    have e : (aroundOf V true (.ret c hd k κ)).depth = (aroundOf V true κ).depth + c.weight := rfl
    rw [e]
    simp only [depthK, O.weight]
    omega
  | .gen .. => by simp [aroundOf, depthK]
  | .genS .. => by simp [aroundOf, depthK]
theorem around_units (O : ParOk P V) : ∀ κ : Kont, (aroundOf V true κ).units ≤ V.A₀.units + unitsK P κ
  | .base => by simp [aroundOf, unitsK]
  | .ret c hd k κ => by
    have := around_units O κ
    have e : (aroundOf V true (.ret c hd k κ)).units = (aroundOf V true κ).units + c.cUnits := rfl
    rw [e]
    simp only [unitsK, O.units]
    omega
  | .gen .. => by simp [aroundOf, unitsK]
  | .genS .. => by simp [aroundOf, unitsK]
theorem around_handled (O : ParOk P V) : ∀ κ : Kont, (aroundOf V true κ).handled = handledK κ
  | .base => O.handled
  | .ret c hd k κ => by
    have := around_handled O κ
    have e : (aroundOf V true (.ret c hd k κ)).handled = hd.or (aroundOf V true κ).handled := rfl
    rw [e, this]; rfl
  | .gen .. => O.handled
  | .genS .. => O.handled

theorem okMark_ne {hd : Option Value} (q : okMark hd = true) : hd ≠ some byPass := by
  intro e
  subst e
  simp [okMark] at q

theorem ok_a {x y : List Nat} {a b : Nat} (h : a :: x = b :: y) : a = b ∧ x = y := ⟨(List.cons.inj h).1, (List.cons.inj h).2⟩

theorem retC_sound {cf cf' : Cf} {ac ac' : Ac} {r : Result} (ht : cf.t = leafOf r) (h : retC cf ac r = .go cf' ac') : ac' = ac ∧ (Good V gens cf' → Good V gens cf) := by
  obtain ⟨c, κ, t, led, sz, tk⟩ := cf
  unfold retC at h
  cases κ with
  | base => cases h
  | gen => cases h
  | genS => cases h
  | ret c₁ hd k κ =>
    obtain ⟨rfl, rfl⟩ := Out.go.inj h
    refine ⟨rfl, fun G h D hs => ?_⟩
    have z := G h D hs
    dsimp only at ht
    subst ht
    cases r with
    | ok f => exact PySem.W.X.y_pure _ _ _ _ _ _ _ _ _ (PySem.W.X.y_done _ _ _ _ _ _ z)
    | error e => exact PySem.W.X.y_raise _ _ _ _ _ _ _ _ _ (PySem.W.X.y_err _ _ _ z)

theorem stepC_sound (O : ParOk P V) {cf cf' : Cf} {ac ac' : Ac} (h : stepC P cf ac = .go cf' ac') (k : ac'.Ok) : ac.Ok ∧ (Good V gens cf' → Good V gens cf) := by
  obtain ⟨c, κ, t, led, sz, tk⟩ := cf
  obtain ⟨hs, a1, a2, f1, f2, q1, q2, s1, s2⟩ := ac
  cases t with
  | pure fin =>
    cases fin with
    | done f =>
      have plain : ∀ {hs' : List Nat}, retC ⟨c, κ, .pure (.done f), led, sz, tk⟩ ⟨hs', a1, a2, f1, f2, q1, q2, s1, s2⟩ (.ok f) = .go cf' ac' → Ac.Ok ⟨hs, a1, a2, f1, f2, q1, q2, s1, s2⟩ ∧ (Good V gens cf' → Good V gens ⟨c, κ, .pure (.done f), led, sz, tk⟩) := by
        intro hs' h
        obtain ⟨rfl, z⟩ := retC_sound (V := V) (gens := gens) (r := .ok f) rfl h
        exact ⟨⟨k.a, k.f, k.q, k.s⟩, z⟩
      cases f with
      | next => exact plain h
      | brk => exact plain h
      | cont => exact plain h
      | ret v =>
        cases v with
        | bool x =>
          unfold stepC at h
          dsimp only at h
          split at h
          · exact plain h
          · obtain ⟨rfl, rfl⟩ := Out.go.inj h
            have es := List.cons.inj k.s
            refine ⟨⟨k.a, k.f, k.q, es.2⟩, fun G => ?_⟩
            rw [es.1]; exact G
          · obtain ⟨rfl, rfl⟩ := Out.go.inj h
            have es := List.cons.inj k.s
            refine ⟨⟨k.a, k.f, k.q, es.2⟩, fun G => ?_⟩
            rw [es.1]; exact G
          · cases h
        | _ => exact plain h
    | again c' =>
      unfold stepC at h
      dsimp only at h
      split at h
      · rename_i hs' 
        split at h
        · rename_i q
          obtain ⟨rfl, rfl⟩ := Out.go.inj h
          refine ⟨⟨k.a, k.f, k.q, k.s⟩, fun G h D hz => ?_⟩
          have z := G h D hz
          rw [O.den] at z
          exact PySem.W.X.y_pure _ _ _ _ _ _ _ _ _ (PySem.W.X.y_again _ _ _ _ _ _ q (PySem.W.X.y_code _ _ _ _ _ _ z))
        · cases h
      · cases h
      · cases h
  | raise e =>
    obtain ⟨rfl, z⟩ := retC_sound (V := V) (gens := gens) (r := .error e) rfl h
    exact ⟨k, z⟩
  | rule tag kk =>
    obtain ⟨rfl, rfl⟩ := Out.go.inj h
    exact ⟨k, fun G h D hz => PySem.W.X.y_skim _ _ _ _ _ _ _ _ _ 1 (G h D hz)⟩
  | «at» q kk =>
    obtain ⟨rfl, rfl⟩ := Out.go.inj h
    exact ⟨k, fun G h D hz => PySem.W.X.y_skim _ _ _ _ _ _ _ _ _ 1 (G h D hz)⟩
  | point l kk =>
    obtain ⟨rfl, rfl⟩ := Out.go.inj h
    exact ⟨k, fun G h D hz => PySem.W.X.y_skim _ _ _ _ _ _ _ _ _ 1 (G h D hz)⟩
  | ask kk =>
    obtain ⟨rfl, rfl⟩ := Out.go.inj h
    refine ⟨k, fun G h D hz => ?_⟩
    have z := G h D hz
    rw [O.set] at z
    exact PySem.W.X.y_skim _ _ _ _ _ _ _ _ _ 1 z
  | fresh kk =>
    obtain ⟨rfl, rfl⟩ := Out.go.inj h
    exact ⟨k, fun G h D hz => PySem.W.X.y_fresh _ _ _ _ _ _ _ _ _ _ _ _ _ (G h D hz)⟩
  | load a q kk =>
    unfold stepC at h
    dsimp only at h
    split at h
    · split at h
      · rename_i o e
        obtain ⟨rfl, rfl⟩ := Out.go.inj h
        exact ⟨⟨k.a, k.f, k.q, k.s⟩, fun G h D hz => PySem.W.X.y_load _ _ _ _ _ _ _ _ _ _ _ _ _ _ _ _ (D.keep _ _ (O.look _ _ e)) (G h D hz)⟩
      · cases h
    · split at h
      · split at h
        · rename_i b o e
          obtain ⟨rfl, rfl⟩ := Out.go.inj h
          obtain ⟨ea, er⟩ := ok_a k.a
          refine ⟨⟨er, k.f, k.q, k.s⟩, fun G H D hz => ?_⟩
          subst ea
          exact PySem.W.X.y_load _ _ _ _ _ _ _ _ _ _ _ _ _ _ _ _ (D.keep _ _ (O.ro _ (nth_mem _ _ e))) (G H D hz)
        · cases h
      · split at h
        · rename_i b o e
          obtain ⟨rfl, rfl⟩ := Out.go.inj h
          obtain ⟨ea, er⟩ := ok_a k.a
          refine ⟨⟨er, k.f, k.q, k.s⟩, fun G H D hz => ?_⟩
          subst ea
          exact PySem.W.X.y_load _ _ _ _ _ _ _ _ _ _ _ _ _ _ _ _ (D.has _ (nth_mem _ _ e)) (G H D hz)
        · cases h
    · cases h
  | update a q f kk =>
    unfold stepC at h
    dsimp only at h
    split at h
    · split at h
      · rename_i b o e
        split at h
        · rename_i hf
          obtain ⟨rfl, rfl⟩ := Out.go.inj h
          obtain ⟨ea, er⟩ := ok_a k.a
          refine ⟨⟨er, k.f, k.q, k.s⟩, fun G H D hz => ?_⟩
          subst ea
          have z := G (H.update a f) (D.update e hf) (by have hs : Heap.SameBut a H (H.update a f) := Heap.SameBut.update ..; exact hs.1.trans hz)
          exact wpOwn_bind (m := updatePart a q f) (f := kk) (wpOwn_of_wpAny (wpAny_updatePart (D.has _ (nth_mem _ _ e)) z))
        · cases h
      · cases h
    · cases h
  | alloc o kk =>
    unfold stepC at h
    dsimp only at h
    split at h
    · rename_i hf
      obtain ⟨rfl, rfl⟩ := Out.go.inj h
      refine ⟨k, fun G h D hz => ?_⟩
      dsimp only at hz
      have D' := D.alloc hf
      have z := G (h.push o) (by rw [← hz]; exact D') (by rw [Heap.size_push, hz])
      exact wpOwn_bind (m := alloc o) (f := kk) (wpOwn_of_wpAny (wpAny_alloc (by rw [hz]; exact z)))
    · cases h
  | handled own kk =>
    cases own with
    | true => cases h
    | false =>
      obtain ⟨rfl, rfl⟩ := Out.go.inj h
      refine ⟨k, fun G h D hz => ?_⟩
      have z := G h D hz
      refine PySem.W.X.y_handled _ _ _ _ _ _ _ _ _ ?_
      rw [around_handled O]
      exact z
  | stack kk =>
    unfold stepC at h
    dsimp only at h
    split at h
    · split at h
      · split at h
        · rename_i o e
          obtain ⟨rfl, rfl⟩ := Out.go.inj h
          have ef := List.cons.inj k.f
          have eq := List.cons.inj k.q
          refine ⟨⟨k.a, ef.2, eq.2, k.s⟩, fun G h D hz => ?_⟩
          have z := G h D hz
          have e1 : Sem.stack kk = P.bnd P.enter fun _ => _ := congrFun (congrFun ef.1 default) []
          show wpOwn _ _ _ (Sem.stack kk) _ _ _
          rw [e1, O.bnd, O.enter]
          refine wpOwn_bind (m := enterFrame) (wpOwn_of_wpAny (wpAny_enterFrame ?_ ?_ z))
          · exact O.lim.keeps D.keep
          · have l1 := around_depth O κ
            have l2 := Nat.le_of_ble_eq_true eq.1
            have l3 := O.depth
            rw [O.weight] at l2
            show (aroundOf V true κ).depth + c.weight < recursionLimit
            have : recursionLimit = 1000 := rfl
            try dsimp only at l2
            omega
        · cases h
      · cases h
    · split at h
      · obtain ⟨rfl, rfl⟩ := Out.go.inj h
        have ef := List.cons.inj k.f
        refine ⟨⟨k.a, ef.2, k.q, k.s⟩, fun G h D hz => ?_⟩
        refine PySem.W.X.y_stack _ _ _ _ _ _ _ _ _ fun p below _ => ?_
        have e1 : kk ((c, p) :: below) = kk [(c, default)] := congrFun (congrFun ef.1 p) below
        rw [e1]
        exact G h D hz
      · split at h
        · rename_i m e
          obtain ⟨rfl, rfl⟩ := Out.go.inj h
          have ef := List.cons.inj k.f
          have eq := List.cons.inj k.q
          refine ⟨⟨k.a, ef.2, eq.2, k.s⟩, fun G h D hz => ?_⟩
          have z := G h D hz
          have e1 : Sem.stack kk = P.bnd (P.room m) fun _ => _ := congrFun (congrFun ef.1 default) []
          show wpOwn _ _ _ (Sem.stack kk) _ _ _
          rw [e1, O.bnd, O.room]
          refine wpOwn_bind (m := cRoom m) (wpOwn_of_wpAny (wpAny_cRoom ?_ z))
          have l1 := around_units O κ
          have l2 := Nat.le_of_ble_eq_true eq.1
          have l3 := O.unit
          rw [O.units] at l2
          show (aroundOf V true κ).units + c.cUnits < cLine
          have : cLine = 9900 := rfl
          try dsimp only at l2
          omega
        · cases h
    · cases h
  | call c' hd g l kk =>
    have pure_ : hd = none → ∀ i j x, P.pv i j c' led tk = some x → x.ok = true → x.p1 = x.p2 → Good V gens (afterP ⟨c, κ, .call c' hd g l kk, led, sz, tk⟩ kk x) → Good V gens ⟨c, κ, .call c' hd g l kk, led, sz, tk⟩ := by
      intro q i j x e hb hp G H D hz
      subst q
      dsimp only at D hz
      obtain ⟨f, pos, rfl, z⟩ := O.pv.ok _ _ _ _ _ _ e hb hp ((aroundOf V true κ).under c) (fun v s' => wpOwn (model V.prog V.w) (aroundOf V true κ) c (kk (.ok (.ret v))) _ _ s') _ ⟨H, gens, V.d, tk, V.os⟩ D rfl (by
        unfold afterP at G
        unfold PvPost
        cases hn : x.new with
        | none =>
          rw [hn] at G
          cases hu : x.upd with
          | none => rw [hu] at G; exact G H D hz
          | some jo =>
            obtain ⟨j, o⟩ := jo
            rw [hu] at G
            exact fun H' D' hz' => G H' D' (hz'.trans hz)
        | some o =>
          rw [hn] at G
          have D' := D.alloc (O.pv.free _ _ _ _ _ _ _ e hn)
          have z := G (H.push o) (by rw [← hz]; exact D') (by rw [Heap.size_push, hz])
          show wpOwn _ _ _ (kk (.ok (.ret (.ref H.objs.size)))) _ _ _
          rw [hz]; exact z)
      exact own_call z
    unfold stepC at h
    dsimp only at h
    split at h
    · split at h
      · rename_i q
        obtain ⟨rfl, rfl⟩ := Out.go.inj h
        refine ⟨⟨k.a, k.f, k.q, k.s⟩, fun G h D hz => ?_⟩
        have z := G h D hz
        rw [O.den] at z
        exact PySem.W.X.y_call _ _ _ _ _ _ _ _ _ _ _ _ _ (okMark_ne q) (PySem.W.X.y_code _ _ _ _ _ _ z)
      · cases h
    · cases h
    · split at h
      · split at h
        · rename_i x e
          have app : ∀ {x1 x2 y1 y2 : List Nat}, x1.length = x2.length → x1 ++ y1 = x2 ++ y2 → x1 = x2 ∧ y1 = y2 := fun hl he => List.append_inj he hl
          split at h
          · obtain ⟨rfl, rfl⟩ := Out.go.inj h
            have eq := List.cons.inj k.q
            have ea := app (O.pv.len _ _ _ _ _ _ e) k.a
            exact ⟨⟨ea.2, k.f, eq.2, k.s⟩, pure_ rfl _ _ _ e eq.1 ea.1⟩
          · obtain ⟨rfl, rfl⟩ := Out.go.inj h
            have es := List.cons.inj k.s
            have ea := app (O.pv.len _ _ _ _ _ _ e) k.a
            exact ⟨⟨ea.2, k.f, k.q, es.2⟩, pure_ rfl _ _ _ e es.1 ea.1⟩
        · cases h
      · cases h
    · cases h
  | _ => cases h

theorem stepC_stop {cf cf' : Cf} {ac ac' : Ac} (h : stepC P cf ac = .stop cf' ac') (k : ac'.Ok) : cf' = cf ∧ ac.Ok := by
  have key : cf' = cf ∧ (ac' = ac ∨ ∃ hs, ac' = { ac with hs := hs }) := by
    obtain ⟨c, κ, t, led, sz, tk⟩ := cf
    unfold stepC retC at h
    dsimp only at h
    repeat' split at h
    all_goals first | (cases h; done) | (obtain ⟨rfl, rfl⟩ := Out.stop.inj h; first | exact ⟨rfl, .inl rfl⟩ | exact ⟨rfl, .inr ⟨_, rfl⟩⟩ | exact ⟨by simp_all, .inr ⟨_, rfl⟩⟩)
  obtain ⟨e, rfl | ⟨hs, rfl⟩⟩ := key
  · exact ⟨e, k⟩
  · exact ⟨e, ⟨k.a, k.f, k.q, k.s⟩⟩

theorem runC_sound (O : ParOk P V) : ∀ (n : Nat) {cf cf' : Cf} {ac ac' : Ac}, runC P n cf ac = some (cf', ac') → ac'.Ok → ac.Ok ∧ (Good V gens cf' → Good V gens cf)
  | 0, _, _, _, _, h, _ => by cases h
  | n + 1, cf, cf', ac, ac', h, k => by
    have e : runC P (n + 1) cf ac = match stepC P cf ac with
      | .go cf' ac' => runC P n cf' ac'
      | .stop cf' ac' => some (cf', ac')
      | .bad _ => none := rfl
    rw [e] at h
    cases hs : stepC P cf ac with
    | bad b => rw [hs] at h; cases h
    | stop cf₁ ac₁ =>
      rw [hs] at h
      obtain ⟨rfl, rfl⟩ := Prod.mk.inj (Option.some.inj h)
      obtain ⟨rfl, o⟩ := stepC_stop hs k
      exact ⟨o, id⟩
    | go cf₁ ac₁ =>
      rw [hs] at h
      obtain ⟨o, z⟩ := runC_sound O n h k
      obtain ⟨o', z'⟩ := stepC_sound (gens := gens) O hs o
      exact ⟨o', fun G => z' (z G)⟩
end
end Mine
end
section
open PySem PySem.W PyProof.Rows PySem.Builtin PySem.Builtin.Str
set_option Elab.async false
set_option maxRecDepth 100000
namespace Mine
/-- the pure built-ins that are answered at once (their values on texts and ints that are not written out) -/
noncomputable def pvAdd (c : Code) (tk : Nat) : Option Pure := match c with
  | .call (.builtin nm) ⟨[.str x t, .str y u], []⟩ => if nm = "str.__add__" then
      some { v := .str (x ++ y) (if x.length == 0 then u else if y.length == 0 then t else tk), n := if x.length == 0 then 0 else if y.length == 0 then 0 else 1, ok := Nat.ble (x ++ y).length sizeLine } else none
  | _ => none
noncomputable def pvLen (c : Code) (tk : Nat) : Option Pure := match c with
  | .call (.builtin nm) ⟨[.str x _], []⟩ => if nm = "len" then
      some { v := .int x.length (tk + 1), n := 2, ok := Nat.ble x.length sizeLine } else none
  | _ => none
noncomputable def wholeSl (x : Str) (i j : Int) : Bool := (strSliceIndices (some i) (some j) 1 x.length).length == x.length
noncomputable def pvSlice (c : Code) (led : Led) (tk : Nat) : Option Pure := match c, led with
  | .call (.builtin nm) ⟨[.str x t, .ref a], []⟩, (b, ⟨.type ty, _, .fields ⟨[.int i _, .int j _, .none]⟩, _⟩) :: _ => if nm = "str.__getitem__" ∧ ty = "slice" then
      some { v := .str (Txt.slice x (some i) (some j)) (if wholeSl x i j then t else tk), n := if wholeSl x i j then 0 else 1, ok := Nat.ble x.length sizeLine, p1 := [a], p2 := [b] } else none
  | _, _ => none
noncomputable def pvTupIn (c : Code) (led : Led) : Option Pure := match c, led with
  | .call (.builtin nm) ⟨[.ref a, .str x _], []⟩, (b, ⟨.type ty, _, .seq ⟨[.str p _, .str q _]⟩ _, _⟩) :: _ => if nm = "tuple.__contains__" ∧ ty = "tuple" then
      some { v := .bool ([p, q].any (· == x)), p1 := [a], p2 := [b] } else none
  | _, _ => none
noncomputable def pvDiv (c : Code) (tk : Nat) : Option Pure := match c with
  | .call (.builtin nm) ⟨[.int a _, .int b _], []⟩ => if nm = "int.__floordiv__" then
      some { v := .int (a.fdiv b) tk, n := 1, ok := decide (0 < b) && decide (b < 65536) } else none
  | _ => none
noncomputable def pvMod (c : Code) (tk : Nat) : Option Pure := match c with
  | .call (.builtin nm) ⟨[.int a _, .int b _], []⟩ => if nm = "int.__mod__" then
      some { v := .int (a.fmod b) tk, n := 1, ok := decide (0 < b) && decide (b < 65536) } else none
  | _ => none
noncomputable def pvItem (c : Code) (tk : Nat) : Option Pure := match c with
  | .call (.builtin nm) ⟨[.str x _, .int i _], []⟩ => if nm = "str.__getitem__" then
      some { v := .str ⟨#[x.cps.toList.getD i.toNat 0]⟩ tk, n := 1, ok := decide (0 ≤ i) && Nat.blt i.toNat x.length && Nat.ble x.length sizeLine } else none
  | _ => none
noncomputable def pvChr (c : Code) (tk : Nat) : Option Pure := match c with
  | .call (.builtin nm) ⟨[.int i _], []⟩ => if nm = "chr" then
      some { v := .str ⟨#[i.toNat]⟩ tk, n := 1, ok := decide (0 ≤ i) && decide (i < 1114112) } else none
  | _ => none
noncomputable def pick4 {α : Type} (i : Int) (a b c d : α) : α := if i = 0 then a else if i = 1 then b else if i = 2 then c else d
noncomputable def refOf : Value → Nat
  | .ref a => a
  | _ => 0
noncomputable def isRefV : Value → Bool
  | .ref _ => true
  | _ => false
noncomputable def pvModC (j : Nat) (c : Code) (tk : Nat) : Option Pure := match c with
  | .call (.builtin nm) ⟨[.int a _, .int b _], []⟩ => if nm = "int.__mod__" then
      some { v := .int (j : Int) tk, n := 1, ok := decide (a.fmod b = (j : Int)) && decide (0 < b) && decide (b < 65536) } else none
  | _ => none
noncomputable def pvIter (j : Nat) (c : Code) : Option Pure := match c with
  | .call (.builtin nm) ⟨[.str x t], []⟩ => if nm = "str.__iter__" then match j with
      | 0 => some { v := .none, ok := x.cps.all (· < 128), new := some { cls := .type "str_ascii_iterator", data := .fields ⟨[.str x t, .int 0 0]⟩ } }
      | _ => some { v := .none, ok := !x.cps.all (· < 128), new := some { cls := .type "str_iterator", data := .fields ⟨[.str x t, .int 0 0]⟩ } }
      else none
  | _ => none
noncomputable def pvPickS (j : Nat) (c : Code) (led : Led) : Option Pure := match c, nth led j with
  | .call (.builtin nm) ⟨[.ref a, .int i _], []⟩, some (b, ⟨.type ty, _, .seq ⟨[.str s0 t0, .str s1 t1, .str s2 t2, .str s3 t3]⟩ _, _⟩) => if nm = "list.__getitem__" ∧ ty = "list" then
      some { v := .str (pick4 i s0 s1 s2 s3) (pick4 i t0 t1 t2 t3), ok := decide (0 ≤ i) && decide (i < 4), p1 := [a], p2 := [b] } else none
  | _, _ => none
noncomputable def pvPickI (j : Nat) (c : Code) (led : Led) : Option Pure := match c, nth led j with
  | .call (.builtin nm) ⟨[.ref a, .int i _], []⟩, some (b, ⟨.type ty, _, .seq ⟨[.int s0 t0, .int s1 t1, .int s2 t2, .int s3 t3]⟩ _, _⟩) => if nm = "list.__getitem__" ∧ ty = "list" then
      some { v := .int (pick4 i s0 s1 s2 s3) (pick4 i t0 t1 t2 t3), ok := decide (0 ≤ i) && decide (i < 4), p1 := [a], p2 := [b] } else none
  | _, _ => none
noncomputable def pvPickR (j : Nat) (c : Code) (led : Led) : Option Pure := match c, nth led j with
  | .call (.builtin nm) ⟨[.ref a, .int i _], []⟩, some (b, ⟨.type ty, _, .seq ⟨L⟩ _, _⟩) => if nm = "list.__getitem__" ∧ ty = "list" then
      some { v := .ref (refOf (L.getD i.toNat .none)), ok := decide (0 ≤ i) && isRefV (L.getD i.toNat .none) && decide (i < 65536), p1 := [a], p2 := [b] } else none
  | _, _ => none
noncomputable def pvLenL (j : Nat) (c : Code) (led : Led) (tk : Nat) : Option Pure := match c, nth led j with
  | .call (.builtin nm) ⟨[.ref a], []⟩, some (b, ⟨.type ty, _, .seq ⟨L⟩ _, _⟩) => if nm = "len" ∧ ty = "list" then
      some { v := .int (L.length : Int) (tk + 1), n := 2, ok := Nat.ble L.length 65536, p1 := [a], p2 := [b] } else none
  | _, _ => none
noncomputable def pvRIter (j : Nat) (c : Code) (led : Led) : Option Pure := match c, nth led j with
  | .call (.builtin nm) ⟨[.ref a], []⟩, some (b, ⟨.type ty, none, .fields ⟨[.int lo _, .int n _, .int st _]⟩, ⟨[]⟩⟩) => if nm = "range.__iter__" ∧ ty = "range" then
      some { v := .none, ok := decide (lo = 0) && decide (st = 1) && decide (0 ≤ n) && decide (n < 65536), p1 := [a], p2 := [b], new := some { cls := .type "range_iterator", data := .fields ⟨[.int 0 0, .int n 0, .int 1 0]⟩ } } else none
  | _, _ => none
noncomputable def wholeSl0 (x : Str) (j : Int) : Bool := (strSliceIndices none (some j) 1 x.length).length == x.length
noncomputable def pvSlice0 (c : Code) (led : Led) (tk : Nat) : Option Pure := match c, led with
  | .call (.builtin nm) ⟨[.str x t, .ref a], []⟩, (b, ⟨.type ty, _, .fields ⟨[.none, .int j _, .none]⟩, _⟩) :: _ => if nm = "str.__getitem__" ∧ ty = "slice" then
      some { v := .str (Txt.slice x none (some j)) (if wholeSl0 x j then t else tk), n := if wholeSl0 x j then 0 else 1, ok := Nat.ble x.length sizeLine, p1 := [a], p2 := [b] } else none
  | _, _ => none
noncomputable def pvApp (j : Nat) (c : Code) (led : Led) : Option Pure := match c, nth led j with
  | .call (.builtin nm) ⟨[.ref a, v], []⟩, some (b, ⟨.type ty, dc, .seq ⟨L⟩ e, sl⟩) => if nm = "list.append" ∧ ty = "list" then
      some { v := .none, ok := Nat.ble L.length 65536, p1 := [a], p2 := [b], upd := some (j, ⟨.type ty, dc, .seq ⟨L ++ [v]⟩ (e + 1), sl⟩) } else none
  | _, _ => none
noncomputable def pvs (i j : Nat) (c : Code) (led : Led) (tk : Nat) : Option Pure := match i with
  | 0 => pvAdd c tk
  | 1 => pvLen c tk
  | 2 => pvSlice c led tk
  | 3 => pvTupIn c led
  | 4 => pvDiv c tk
  | 5 => pvMod c tk
  | 6 => pvItem c tk
  | 7 => pvChr c tk
  | 8 => pvModC j c tk
  | 9 => pvIter j c
  | 10 => pvPickS j c led
  | 11 => pvPickI j c led
  | 12 => pvPickR j c led
  | 13 => pvLenL j c led tk
  | 14 => pvRIter j c led
  | 15 => pvSlice0 c led tk
  | 16 => pvApp j c led
  | _ => none

section
variable {prog : Program} {w : World}
theorem empty_of_len {x : Str} (h : (x.length == 0) = true) : x = ⟨#[]⟩ := by
  obtain ⟨cps⟩ := x
  simp only [Str.length, beq_iff_eq, Array.size_eq_zero_iff] at h
  rw [h]
theorem empty_app (y : Str) : (⟨#[]⟩ : Str) ++ y = y := by
  obtain ⟨cps⟩ := y
  show Str.mk (#[] ++ cps) = _
  simp
theorem app_empty (x : Str) : x ++ (⟨#[]⟩ : Str) = x := by
  obtain ⟨cps⟩ := x
  show Str.mk (cps ++ #[]) = _
  simp
theorem pvAdd_ok {c : Code} {tk : Nat} {x : Pure} (e : pvAdd c tk = some x) (hok : x.ok = true) {A : Around} {Q : Value → Shared → Prop} {s : Shared} (ht : s.toks = tk) (h : Q x.v { s with toks := s.toks + x.n }) :
    ∃ f pos, c = .call f ⟨pos, []⟩ ∧ wpAny (model prog w) A (call f pos) Q (fun _ _ => False) s := by
  unfold pvAdd at e
  split at e
  · rename_i nm a t b u
    split at e
    · rename_i hid
      subst hid
      cases e
      refine ⟨_, _, rfl, call_gives F.slot_str_add (typeIs_str s a t) F.entry_str_add (F.args_str_add_2 _ _) (gives_str_add a b t u) ?_⟩
      dsimp only at h hok
      cases ha : (a.length == 0) with
      | true =>
        simp only [ha, if_true] at h ⊢
        rw [empty_of_len ha, empty_app] at h
        exact h
      | false =>
        simp only [ha, Bool.false_eq_true, if_false] at h ⊢
        cases hb : (b.length == 0) with
        | true =>
          simp only [hb, if_true] at h ⊢
          rw [empty_of_len hb, app_empty] at h
          exact h
        | false =>
          simp only [hb, Bool.false_eq_true, if_false] at h ⊢
          rw [← ht] at h
          exact ⟨Nat.le_of_ble_eq_true hok, h⟩
    · cases e
  · cases e
theorem pvLen_ok {c : Code} {tk : Nat} {x : Pure} (e : pvLen c tk = some x) (hok : x.ok = true) {A : Around} {Q : Value → Shared → Prop} {s : Shared} (ht : s.toks = tk) (h : Q x.v { s with toks := s.toks + x.n }) :
    ∃ f pos, c = .call f ⟨pos, []⟩ ∧ wpAny (model prog w) A (call f pos) Q (fun _ _ => False) s := by
  unfold pvLen at e
  split at e
  · rename_i nm a t
    split at e
    · rename_i hid
      subst hid
      cases e
      dsimp only at h hok
      have l := Nat.le_of_ble_eq_true hok
      have : sizeLine = 16777216 := rfl
      refine ⟨_, _, rfl, call_len_gives (typeIs_str s a t) F.slot_str_len F.entry_str_len (F.args_str_len_1 _) (gives_str_len a t) (by omega) (by omega) ?_⟩
      rw [← ht] at h
      exact h
    · cases e
  · cases e
theorem pvSlice_ok {c : Code} {led : Led} {tk : Nat} {x : Pure} (e : pvSlice c led tk = some x) (hok : x.ok = true) (hp : x.p1 = x.p2) {A : Around} {Q : Value → Shared → Prop} {g : Heap} {s : Shared} (D : Own g s.heap led) (ht : s.toks = tk) (h : Q x.v { s with toks := s.toks + x.n }) :
    ∃ f pos, c = .call f ⟨pos, []⟩ ∧ wpAny (model prog w) A (call f pos) Q (fun _ _ => False) s := by
  unfold pvSlice at e
  split at e
  · rename_i nm a t ad b ty dc i ui j uj sl led'
    split at e
    · rename_i hid
      obtain ⟨rfl, rfl⟩ := hid
      cases e
      dsimp only at h hok hp
      obtain rfl := (List.cons.inj hp).1
      have ho := D.has _ List.mem_cons_self
      refine ⟨_, _, rfl, call_meets F.slot_str_getitem (typeIs_str s a t) F.entry_str_getitem (F.args_str_getitem_2 _ _) (meets_str_getitem_slice a t ad (some (i, ui)) (some (j, uj)) none rfl) ⟨⟨_, ho, rfl, rfl⟩, ?_⟩⟩
      have key : (sliceMade a t (some (i, ui)) (some (j, uj)) none) = if wholeSl a i j = true then Made.val (.str a t) else Made.str ⟨((strSliceIndices (some i) (some j) 1 a.length).filterMap (a.cps[·]?)).toArray⟩ := by
        rfl
      rw [key]
      have hs : Txt.slice a (some i) (some j) = if wholeSl a i j = true then a else ⟨((strSliceIndices (some i) (some j) 1 a.length).filterMap (a.cps[·]?)).toArray⟩ := rfl
      have hle := Txt.slice_le a (some i) (some j)
      rw [hs] at h hle
      cases hw : wholeSl a i j with
      | true =>
        simp only [hw, if_true] at h ⊢
        exact h
      | false =>
        simp only [hw, Bool.false_eq_true, if_false] at h hle ⊢
        rw [← ht] at h
        exact ⟨Nat.le_trans hle (Nat.le_of_ble_eq_true hok), h⟩
    · cases e
  · cases e
theorem pvTupIn_ok {c : Code} {led : Led} {x : Pure} (e : pvTupIn c led = some x) (hp : x.p1 = x.p2) {A : Around} {Q : Value → Shared → Prop} {g : Heap} {s : Shared} (D : Own g s.heap led) (h : Q x.v { s with toks := s.toks + x.n }) :
    ∃ f pos, c = .call f ⟨pos, []⟩ ∧ wpAny (model prog w) A (call f pos) Q (fun _ _ => False) s := by
  unfold pvTupIn at e
  split at e
  · rename_i nm a y ty' b ty dc p tp q tq n sl led'
    split at e
    · rename_i hid
      obtain ⟨rfl, rfl⟩ := hid
      cases e
      dsimp only at h hp
      obtain rfl := (List.cons.inj hp).1
      have ho := D.has _ List.mem_cons_self
      have ht : IsTup s.heap a (Array.mk [Value.str p tp, Value.str q tq]) := ⟨_, ho, rfl, _, rfl⟩
      exact ⟨_, _, rfl, wpAny_call_entry slot_tuple_contains ht.typeIs entry_tuple_contains (tuple_contains_strs ht (.cons _ _ (.cons _ _ .nil)) ⟨_, rfl, h⟩) (args_tuple_contains _ _)⟩
    · cases e
  · cases e
theorem pvDiv_ok {c : Code} {tk : Nat} {x : Pure} (e : pvDiv c tk = some x) (hok : x.ok = true) {A : Around} {Q : Value → Shared → Prop} {s : Shared} (ht : s.toks = tk) (h : Q x.v { s with toks := s.toks + x.n }) :
    ∃ f pos, c = .call f ⟨pos, []⟩ ∧ wpAny (model prog w) A (call f pos) Q (fun _ _ => False) s := by
  unfold pvDiv at e
  split at e
  · split at e
    · rename_i hid
      subst hid
      cases e
      simp only [Bool.and_eq_true, decide_eq_true_eq] at hok
      rw [← ht] at h
      refine ⟨_, _, rfl, wpAny_mono (call_int_floordiv (by omega) h (Or.inl (PyProof.noPylong_small (by omega)))) (fun _ _ q => q.2) fun _ _ q => q⟩
    · cases e
  · cases e
theorem pvMod_ok {c : Code} {tk : Nat} {x : Pure} (e : pvMod c tk = some x) (hok : x.ok = true) {A : Around} {Q : Value → Shared → Prop} {s : Shared} (ht : s.toks = tk) (h : Q x.v { s with toks := s.toks + x.n }) :
    ∃ f pos, c = .call f ⟨pos, []⟩ ∧ wpAny (model prog w) A (call f pos) Q (fun _ _ => False) s := by
  unfold pvMod at e
  split at e
  · split at e
    · rename_i hid
      subst hid
      cases e
      simp only [Bool.and_eq_true, decide_eq_true_eq] at hok
      rw [← ht] at h
      refine ⟨_, _, rfl, wpAny_mono (call_int_mod (by omega) h) (fun _ _ q => q.2) fun _ _ q => q⟩
    · cases e
  · cases e
theorem pvItem_ok {c : Code} {tk : Nat} {x : Pure} (e : pvItem c tk = some x) (hok : x.ok = true) {A : Around} {Q : Value → Shared → Prop} {s : Shared} (ht : s.toks = tk) (h : Q x.v { s with toks := s.toks + x.n }) :
    ∃ f pos, c = .call f ⟨pos, []⟩ ∧ wpAny (model prog w) A (call f pos) Q (fun _ _ => False) s := by
  unfold pvItem at e
  split at e
  · rename_i nm y t i u
    split at e
    · rename_i hid
      subst hid
      cases e
      simp only [Bool.and_eq_true, decide_eq_true_eq] at hok
      obtain ⟨⟨h0, h1⟩, h2⟩ := hok
      have l1 : i.toNat < y.length := Nat.le_of_ble_eq_true h1
      have l2 := Nat.le_of_ble_eq_true h2
      have hs : sizeLine = 16777216 := rfl
      have hz : y.length = y.cps.size := rfl
      have hx : (seqIndex? i y.length).bind (y.cps[·]?) = some (y.cps.toList.getD i.toNat 0) := by
        have hi : seqIndex? i y.length = some i.toNat := by
          unfold seqIndex?
          simp only
          rw [if_neg (by omega : ¬ i < 0)]
          rw [if_pos (by simp only [Bool.and_eq_true, decide_eq_true_eq]; omega)]
        rw [hi]
        show y.cps[i.toNat]? = _
        rw [← Array.getElem?_toList, List.getD_eq_getElem?_getD]
        have : i.toNat < y.cps.toList.length := by rw [Array.length_toList, ← hz]; exact l1
        rw [List.getElem?_eq_getElem this]
        rfl
      rw [← ht] at h
      refine ⟨_, _, rfl, call_gives F.slot_str_getitem (typeIs_str s y t) F.entry_str_getitem (F.args_str_getitem_2 _ _) (gives_str_getitem y i t u _ (by simp; omega) hx) ⟨(by show 1 ≤ sizeLine; decide), h⟩⟩
    · cases e
  · cases e
theorem pvChr_ok {c : Code} {tk : Nat} {x : Pure} (e : pvChr c tk = some x) (hok : x.ok = true) {A : Around} {Q : Value → Shared → Prop} {s : Shared} (ht : s.toks = tk) (h : Q x.v { s with toks := s.toks + x.n }) :
    ∃ f pos, c = .call f ⟨pos, []⟩ ∧ wpAny (model prog w) A (call f pos) Q (fun _ _ => False) s := by
  unfold pvChr at e
  split at e
  · split at e
    · rename_i hid
      subst hid
      cases e
      simp only [Bool.and_eq_true, decide_eq_true_eq] at hok
      rw [← ht] at h
      refine ⟨_, _, rfl, P.chr_of_int (by simp; omega) h⟩
    · cases e
  · cases e
section
variable {A : Around} {E : Value → Shared → Prop} {s : Shared}
theorem call_list_item {l : Addr} {items : Array Value} {k : Int} {t : Tok} {x : Value} {Q : Value → Shared → Prop} (hl : s.heap.IsList l items)
    (h0 : 0 ≤ k) (hfit : k < 2 ^ 63) (hx : items[k.toNat]? = some x) (h : Q x s) : wpAny (model prog w) A (call (.builtin "list.__getitem__") [.ref l, .int k t]) Q E s := by
  obtain ⟨o, ho, hc, ne, hd⟩ := id hl
  refine wpAny_call_entry slot_list_getitem hl.typeIs entry_list_getitem ?_ (args_list_getitem _ _)
  show wpAny _ _ (Builtin.List.listSubscript? (.int k t) >>= _) _ _ s
  refine wpAny_bind (wpAny_listSubscript_int (fitsIndex_of h0 hfit) ?_)
  clear hfit
  obtain ⟨j, rfl⟩ := Int.eq_ofNat_of_zero_le h0
  have hx' : items[j]? = some x := hx
  show wpAny _ _ ((seqItemAt l j >>= fun r => pure (r.map (j, ·))) >>= _) _ _ s
  refine wpAny_bind (wpAny_bind (wpAny_seqItemAt ho hd (wpAny_pure ?_)))
  rw [hx']
  exact wpAny_pure ⟨x, rfl, h⟩
theorem call_range_iter {r : Addr} {lo n st : Int} {t u v : Tok} {Q : Value → Shared → Prop} (hr : s.heap.get? r = some { cls := .type "range", dict := none, data := .fields #[.int lo t, .int n u, .int st v], slots := #[] }) (hsmall : Builtin.Range.small lo n st = true)
    (hQ : Q (.ref s.heap.objs.size) { s with heap := s.heap.push { cls := .type "range_iterator", data := .fields #[rawInt lo, rawInt (Builtin.Range.rangeSize lo n st), rawInt st] } }) : wpAny (model prog w) A (call (.builtin "range.__iter__") [.ref r]) Q E s := by
  have hT : s.TypeIs (.ref r) "range" := ⟨_, hr, rfl⟩
  refine call_meets F.slot_range_iter hT F.entry_range_iter (F.args_range_iter_1 _) (AutoRange.range___iter___range_1 r lo n st t u v (by unfold Builtin.Range.small at hsmall; simp [hsmall])) ⟨hr, ?_⟩
  unfold Builtin.Range.small at hsmall
  simp only [hsmall, if_true]
  exact hQ
theorem call_str_iterA {x : Str} {t : Tok} {Q : Value → Shared → Prop} (b : Bool) (hb : x.cps.all (· < 128) = b)
    (h : Q (.ref s.heap.objs.size) { s with heap := s.heap.push { cls := .type (if b then "str_ascii_iterator" else "str_iterator"), data := .fields #[.str x t, .int 0 0] } }) : wpAny (model prog w) A (call (.builtin "str.__iter__") [.str x t]) Q E s := by
  refine wpAny_call_entry F.slot_str_iter (typeIs_str s x t) F.entry_str_iter ?_ (F.args_str_iter_1 _)
  show wpAny _ _ (newFields (if (true && x.cps.all (· < 128)) = true then "str_ascii_iterator" else "str_iterator") [.str x t, rawInt 0] >>= _) _ _ _
  rw [hb]
  cases b
  · refine wpAny_bind (wpAny_newObj_type (wpAny_pure ⟨_, rfl, h⟩) (by size_fits))
  · refine wpAny_bind (wpAny_newObj_type (wpAny_pure ⟨_, rfl, h⟩) (by size_fits))
end
theorem pvModC_ok {j : Nat} {c : Code} {tk : Nat} {x : Pure} (e : pvModC j c tk = some x) (hok : x.ok = true) {A : Around} {Q : Value → Shared → Prop} {s : Shared} (ht : s.toks = tk) (h : Q x.v { s with toks := s.toks + x.n }) :
    ∃ f pos, c = .call f ⟨pos, []⟩ ∧ wpAny (model prog w) A (call f pos) Q (fun _ _ => False) s := by
  unfold pvModC at e
  split at e
  · split at e
    · rename_i hid
      subst hid
      cases e
      simp only [Bool.and_eq_true, decide_eq_true_eq] at hok
      rw [← ht, ← hok.1.1] at h
      refine ⟨_, _, rfl, wpAny_mono (call_int_mod (by omega) h) (fun _ _ q => q.2) fun _ _ q => q⟩
    · cases e
  · cases e
theorem pvIter_ok {j : Nat} {c : Code} {x : Pure} (e : pvIter j c = some x) (hok : x.ok = true) {A : Around} {Q : Value → Shared → Prop} {g : Heap} {led : Led} {s : Shared}
    (h : PvPost x g led Q s) :
    ∃ f pos, c = .call f ⟨pos, []⟩ ∧ wpAny (model prog w) A (call f pos) Q (fun _ _ => False) s := by
  unfold pvIter at e
  split at e
  · split at e
    · rename_i hid
      subst hid
      split at e
      · cases e
        exact ⟨_, _, rfl, call_str_iterA true hok h⟩
      · cases e
        exact ⟨_, _, rfl, call_str_iterA false (by simpa using hok) h⟩
    · cases e
  · cases e
theorem pvPickS_ok {j : Nat} {c : Code} {led : Led} {x : Pure} (e : pvPickS j c led = some x) (hok : x.ok = true) (hp : x.p1 = x.p2) {A : Around} {Q : Value → Shared → Prop} {g : Heap} {s : Shared} (D : Own g s.heap led) (h : Q x.v { s with toks := s.toks + x.n }) :
    ∃ f pos, c = .call f ⟨pos, []⟩ ∧ wpAny (model prog w) A (call f pos) Q (fun _ _ => False) s := by
  unfold pvPickS at e
  split at e
  · rename_i nm a i u b ty dc s0 t0 s1 t1 s2 t2 s3 t3 n sl hn
    split at e
    · rename_i hid
      obtain ⟨rfl, rfl⟩ := hid
      cases e
      simp only [Bool.and_eq_true, decide_eq_true_eq] at hok
      obtain rfl := (List.cons.inj hp).1
      have ho := D.has _ (nth_mem _ _ hn)
      refine ⟨_, _, rfl, call_list_item ⟨_, ho, rfl, _, rfl⟩ hok.1 (by omega) ?_ h⟩
      have hi : i = 0 ∨ i = 1 ∨ i = 2 ∨ i = 3 := by omega
      rcases hi with rfl | rfl | rfl | rfl <;> rfl
    · cases e
  · cases e
theorem pvPickI_ok {j : Nat} {c : Code} {led : Led} {x : Pure} (e : pvPickI j c led = some x) (hok : x.ok = true) (hp : x.p1 = x.p2) {A : Around} {Q : Value → Shared → Prop} {g : Heap} {s : Shared} (D : Own g s.heap led) (h : Q x.v { s with toks := s.toks + x.n }) :
    ∃ f pos, c = .call f ⟨pos, []⟩ ∧ wpAny (model prog w) A (call f pos) Q (fun _ _ => False) s := by
  unfold pvPickI at e
  split at e
  · rename_i nm a i u b ty dc s0 t0 s1 t1 s2 t2 s3 t3 n sl hn
    split at e
    · rename_i hid
      obtain ⟨rfl, rfl⟩ := hid
      cases e
      simp only [Bool.and_eq_true, decide_eq_true_eq] at hok
      obtain rfl := (List.cons.inj hp).1
      have ho := D.has _ (nth_mem _ _ hn)
      refine ⟨_, _, rfl, call_list_item ⟨_, ho, rfl, _, rfl⟩ hok.1 (by omega) ?_ h⟩
      have hi : i = 0 ∨ i = 1 ∨ i = 2 ∨ i = 3 := by omega
      rcases hi with rfl | rfl | rfl | rfl <;> rfl
    · cases e
  · cases e
theorem pvPickR_ok {j : Nat} {c : Code} {led : Led} {x : Pure} (e : pvPickR j c led = some x) (hok : x.ok = true) (hp : x.p1 = x.p2) {A : Around} {Q : Value → Shared → Prop} {g : Heap} {s : Shared} (D : Own g s.heap led) (h : Q x.v { s with toks := s.toks + x.n }) :
    ∃ f pos, c = .call f ⟨pos, []⟩ ∧ wpAny (model prog w) A (call f pos) Q (fun _ _ => False) s := by
  unfold pvPickR at e
  split at e
  · rename_i nm a i u b ty dc L n sl hn
    split at e
    · rename_i hid
      obtain ⟨rfl, rfl⟩ := hid
      cases e
      simp only [Bool.and_eq_true, decide_eq_true_eq] at hok
      obtain rfl := (List.cons.inj hp).1
      have ho := D.has _ (nth_mem _ _ hn)
      obtain ⟨⟨h0, h1⟩, h2⟩ := hok
      have hL : (Array.mk L)[i.toNat]? = some (L.getD i.toNat .none) := by
        rw [List.getD_eq_getElem?_getD] at h1 ⊢
        rw [List.getElem?_toArray]
        cases hq : L[i.toNat]? with
        | none => rw [hq] at h1; cases h1
        | some v => rfl
      have hv : L.getD i.toNat .none = .ref (refOf (L.getD i.toNat .none)) := by
        cases hq : L.getD i.toNat .none with
        | ref a => rfl
        | _ => rw [hq] at h1; cases h1
      rw [hv] at hL
      exact ⟨_, _, rfl, call_list_item ⟨_, ho, rfl, _, rfl⟩ h0 (by omega) hL h⟩
    · cases e
  · cases e
theorem pvLenL_ok {j : Nat} {c : Code} {led : Led} {tk : Nat} {x : Pure} (e : pvLenL j c led tk = some x) (hok : x.ok = true) (hp : x.p1 = x.p2) {A : Around} {Q : Value → Shared → Prop} {g : Heap} {s : Shared} (D : Own g s.heap led) (ht : s.toks = tk) (h : Q x.v { s with toks := s.toks + x.n }) :
    ∃ f pos, c = .call f ⟨pos, []⟩ ∧ wpAny (model prog w) A (call f pos) Q (fun _ _ => False) s := by
  unfold pvLenL at e
  split at e
  · rename_i nm a b ty dc L n sl hn
    split at e
    · rename_i hid
      obtain ⟨rfl, rfl⟩ := hid
      cases e
      obtain rfl := (List.cons.inj hp).1
      have ho := D.has _ (nth_mem _ _ hn)
      have l := Nat.le_of_ble_eq_true hok
      rw [← ht] at h
      refine ⟨_, _, rfl, Calls.call_len_list (items := ⟨L⟩) ⟨_, ho, rfl, _, rfl⟩ ?_ h⟩
      show ((L.length : Nat) : Int) < 2 ^ 63
      omega
    · cases e
  · cases e
theorem pvRIter_ok {j : Nat} {c : Code} {led : Led} {x : Pure} (e : pvRIter j c led = some x) (hok : x.ok = true) (hp : x.p1 = x.p2) {A : Around} {Q : Value → Shared → Prop} {g : Heap} {s : Shared} (D : Own g s.heap led)
    (h : PvPost x g led Q s) :
    ∃ f pos, c = .call f ⟨pos, []⟩ ∧ wpAny (model prog w) A (call f pos) Q (fun _ _ => False) s := by
  unfold pvRIter at e
  split at e
  · rename_i nm a b ty lo u0 n u1 st u2 hn
    split at e
    · rename_i hid
      obtain ⟨rfl, rfl⟩ := hid
      cases e
      simp only [Bool.and_eq_true, decide_eq_true_eq] at hok
      obtain ⟨⟨⟨rfl, rfl⟩, h0⟩, h1⟩ := hok
      obtain rfl := (List.cons.inj hp).1
      have ho := D.has _ (nth_mem _ _ hn)
      have hsz : Builtin.Range.rangeSize 0 n 1 = n := by
        unfold Builtin.Range.rangeSize
        simp
        omega
      have hsm : Builtin.Range.small 0 n 1 = true := by
        unfold Builtin.Range.small Builtin.Range.rangeFitsLong
        rw [hsz]
        simp
        omega
      refine ⟨_, _, rfl, call_range_iter (lo := 0) (n := n) (st := 1) ho hsm ?_⟩
      rw [hsz]
      exact h
    · cases e
  · cases e
theorem pvSlice0_ok {c : Code} {led : Led} {tk : Nat} {x : Pure} (e : pvSlice0 c led tk = some x) (hok : x.ok = true) (hp : x.p1 = x.p2) {A : Around} {Q : Value → Shared → Prop} {g : Heap} {s : Shared} (D : Own g s.heap led) (ht : s.toks = tk) (h : Q x.v { s with toks := s.toks + x.n }) :
    ∃ f pos, c = .call f ⟨pos, []⟩ ∧ wpAny (model prog w) A (call f pos) Q (fun _ _ => False) s := by
  unfold pvSlice0 at e
  split at e
  · rename_i nm a t ad b ty dc j uj sl led'
    split at e
    · rename_i hid
      obtain ⟨rfl, rfl⟩ := hid
      cases e
      dsimp only at h hok hp
      obtain rfl := (List.cons.inj hp).1
      have ho := D.has _ List.mem_cons_self
      refine ⟨_, _, rfl, call_meets F.slot_str_getitem (typeIs_str s a t) F.entry_str_getitem (F.args_str_getitem_2 _ _) (meets_str_getitem_slice a t ad none (some (j, uj)) none rfl) ⟨⟨_, ho, rfl, rfl⟩, ?_⟩⟩
      have key : (sliceMade a t none (some (j, uj)) none) = if wholeSl0 a j = true then Made.val (.str a t) else Made.str ⟨((strSliceIndices none (some j) 1 a.length).filterMap (a.cps[·]?)).toArray⟩ := by
        rfl
      rw [key]
      have hs : Txt.slice a none (some j) = if wholeSl0 a j = true then a else ⟨((strSliceIndices none (some j) 1 a.length).filterMap (a.cps[·]?)).toArray⟩ := rfl
      have hle := Txt.slice_le a none (some j)
      rw [hs] at h hle
      cases hw : wholeSl0 a j with
      | true =>
        simp only [hw, if_true] at h ⊢
        exact h
      | false =>
        simp only [hw, Bool.false_eq_true, if_false] at h hle ⊢
        rw [← ht] at h
        exact ⟨Nat.le_trans hle (Nat.le_of_ble_eq_true hok), h⟩
    · cases e
  · cases e
theorem new_none {x : Pure} {Q : Value → Shared → Prop} {s : Shared} {g : Heap} {led : Led} (hn : x.new = none ∧ x.upd = none) (h : PvPost x g led Q s) : Q x.v { s with toks := s.toks + x.n } := by
  unfold PvPost at h
  rw [hn.1, hn.2] at h; exact h
theorem app_obj {o : Obj} {L : List Value} {v : Value} {ty : String} {dc : Option Addr} {e : Nat} {sl : Array (Option Value)} (ho : o = ⟨.type ty, dc, .seq ⟨L⟩ e, sl⟩) : Obj.mapSeq (·.push v) o = ⟨.type ty, dc, .seq ⟨L ++ [v]⟩ (e + 1), sl⟩ := by
  subst ho
  simp [Obj.mapSeq]
theorem pvApp_ok {j : Nat} {c : Code} {led : Led} {x : Pure} (e : pvApp j c led = some x) (hok : x.ok = true) (hp : x.p1 = x.p2) {A : Around} {Q : Value → Shared → Prop} {g : Heap} {s : Shared} (D : Own g s.heap led) (h : PvPost x g led Q s) :
    ∃ f pos, c = .call f ⟨pos, []⟩ ∧ wpAny (model prog w) A (call f pos) Q (fun _ _ => False) s := by
  unfold pvApp at e
  split at e
  · rename_i nm a v b ty dc L ep sl hn
    split at e
    · rename_i hid
      obtain ⟨rfl, rfl⟩ := hid
      cases e
      obtain rfl := (List.cons.inj hp).1
      have ho := D.has _ (nth_mem _ _ hn)
      have l := Nat.le_of_ble_eq_true hok
      have hl : s.heap.IsList a ⟨L⟩ := ⟨_, ho, rfl, _, rfl⟩
      have hs : (Array.mk L).size ≤ sizeLine := by
        have : sizeLine = 16777216 := rfl
        show L.length ≤ _
        omega
      refine ⟨_, _, rfl, ?_⟩
      refine wpAny_call_entry slot_list_append hl.typeIs entry_list_append ?_ (args_list_append _ _)
      show wpAny _ _ (updateSeq a (·.push v) >>= fun _ => ret .none) _ _ s
      refine wpAny_bind ?_
      refine wpAny_updateSeq ho rfl (wpAny_pure ⟨.none, rfl, ?_⟩)
      unfold PvPost at h
      have hD := D.update (f := Obj.mapSeq (·.push v)) hn (by rw [app_obj rfl]; rfl)
      rw [app_obj rfl] at hD
      have hsb : Heap.SameBut a s.heap (s.heap.update a (Obj.mapSeq (·.push v))) := Heap.SameBut.update ..
      exact h _ hD hsb.1
    · cases e
  · cases e
theorem pvs_ok : PvOk prog w pvs where
  len := by
    intro i j c led tk x e
    unfold pvs at e
    split at e
    · unfold pvAdd at e; (repeat' split at e) <;> cases e <;> rfl
    · unfold pvLen at e; (repeat' split at e) <;> cases e <;> rfl
    · unfold pvSlice at e; (repeat' split at e) <;> cases e <;> rfl
    · unfold pvTupIn at e; (repeat' split at e) <;> cases e <;> rfl
    · unfold pvDiv at e; (repeat' split at e) <;> cases e <;> rfl
    · unfold pvMod at e; (repeat' split at e) <;> cases e <;> rfl
    · unfold pvItem at e; (repeat' split at e) <;> cases e <;> rfl
    · unfold pvChr at e; (repeat' split at e) <;> cases e <;> rfl
    · unfold pvModC at e; (repeat' split at e) <;> cases e <;> rfl
    · unfold pvIter at e; (repeat' split at e) <;> cases e <;> rfl
    · unfold pvPickS at e; (repeat' split at e) <;> cases e <;> rfl
    · unfold pvPickI at e; (repeat' split at e) <;> cases e <;> rfl
    · unfold pvPickR at e; (repeat' split at e) <;> cases e <;> rfl
    · unfold pvLenL at e; (repeat' split at e) <;> cases e <;> rfl
    · unfold pvRIter at e; (repeat' split at e) <;> cases e <;> rfl
    · unfold pvSlice0 at e; (repeat' split at e) <;> cases e <;> rfl
    · unfold pvApp at e; (repeat' split at e) <;> cases e <;> rfl
    · cases e
  free := by
    intro i j c led tk x o e hn
    unfold pvs at e
    split at e
    · unfold pvAdd at e; (repeat' split at e) <;> cases e <;> cases hn
    · unfold pvLen at e; (repeat' split at e) <;> cases e <;> cases hn
    · unfold pvSlice at e; (repeat' split at e) <;> cases e <;> cases hn
    · unfold pvTupIn at e; (repeat' split at e) <;> cases e <;> cases hn
    · unfold pvDiv at e; (repeat' split at e) <;> cases e <;> cases hn
    · unfold pvMod at e; (repeat' split at e) <;> cases e <;> cases hn
    · unfold pvItem at e; (repeat' split at e) <;> cases e <;> cases hn
    · unfold pvChr at e; (repeat' split at e) <;> cases e <;> cases hn
    · unfold pvModC at e; (repeat' split at e) <;> cases e <;> cases hn
    · unfold pvIter at e; (repeat' split at e) <;> cases e <;> cases hn <;> rfl
    · unfold pvPickS at e; (repeat' split at e) <;> cases e <;> cases hn
    · unfold pvPickI at e; (repeat' split at e) <;> cases e <;> cases hn
    · unfold pvPickR at e; (repeat' split at e) <;> cases e <;> cases hn
    · unfold pvLenL at e; (repeat' split at e) <;> cases e <;> cases hn
    · unfold pvRIter at e; (repeat' split at e) <;> cases e <;> cases hn <;> rfl
    · unfold pvSlice0 at e; (repeat' split at e) <;> cases e <;> cases hn
    · unfold pvApp at e; (repeat' split at e) <;> cases e <;> cases hn
    · cases e
  ok := by
    intro i j c led tk x e hok hp A Q g s D ht h
    unfold pvs at e
    split at e
    · exact pvAdd_ok e hok ht (new_none (by unfold pvAdd at e; (repeat' split at e) <;> cases e <;> exact ⟨rfl, rfl⟩) h)
    · exact pvLen_ok e hok ht (new_none (by unfold pvLen at e; (repeat' split at e) <;> cases e <;> exact ⟨rfl, rfl⟩) h)
    · exact pvSlice_ok e hok hp D ht (new_none (by unfold pvSlice at e; (repeat' split at e) <;> cases e <;> exact ⟨rfl, rfl⟩) h)
    · exact pvTupIn_ok e hp D (new_none (by unfold pvTupIn at e; (repeat' split at e) <;> cases e <;> exact ⟨rfl, rfl⟩) h)
    · exact pvDiv_ok e hok ht (new_none (by unfold pvDiv at e; (repeat' split at e) <;> cases e <;> exact ⟨rfl, rfl⟩) h)
    · exact pvMod_ok e hok ht (new_none (by unfold pvMod at e; (repeat' split at e) <;> cases e <;> exact ⟨rfl, rfl⟩) h)
    · exact pvItem_ok e hok ht (new_none (by unfold pvItem at e; (repeat' split at e) <;> cases e <;> exact ⟨rfl, rfl⟩) h)
    · exact pvChr_ok e hok ht (new_none (by unfold pvChr at e; (repeat' split at e) <;> cases e <;> exact ⟨rfl, rfl⟩) h)
    · exact pvModC_ok e hok ht (new_none (by unfold pvModC at e; (repeat' split at e) <;> cases e <;> exact ⟨rfl, rfl⟩) h)
    · exact pvIter_ok e hok h
    · exact pvPickS_ok e hok hp D (new_none (by unfold pvPickS at e; (repeat' split at e) <;> cases e <;> exact ⟨rfl, rfl⟩) h)
    · exact pvPickI_ok e hok hp D (new_none (by unfold pvPickI at e; (repeat' split at e) <;> cases e <;> exact ⟨rfl, rfl⟩) h)
    · exact pvPickR_ok e hok hp D (new_none (by unfold pvPickR at e; (repeat' split at e) <;> cases e <;> exact ⟨rfl, rfl⟩) h)
    · exact pvLenL_ok e hok hp D ht (new_none (by unfold pvLenL at e; (repeat' split at e) <;> cases e <;> exact ⟨rfl, rfl⟩) h)
    · exact pvRIter_ok e hok hp D h
    · exact pvSlice0_ok e hok hp D ht (new_none (by unfold pvSlice0 at e; (repeat' split at e) <;> cases e <;> exact ⟨rfl, rfl⟩) h)
    · exact pvApp_ok e hok hp D h
    · cases e
end
end Mine
end
section
open PySem PySem.W PyProof.Rows
set_option Elab.async false
set_option maxRecDepth 1000000
namespace Mine
open PySem.W.X (Kont Means aroundOf endOf okMark XV)

/-- the world with the two rows that a run asks told -/
noncomputable def wB (w : World) (b₁ b₂ : Bool) : World := (w.withFollow "special-get-raises" b₁).withFollow "comprehension-iter-twice" b₂
theorem wB_self (w : World) : wB w ((w.withFollow "special-get-raises" (w.params.followText "special-get-raises")).params.followText "special-get-raises") (w.params.followText "comprehension-iter-twice") = w := by
  have e := World.withFollow_self w "special-get-raises"
  unfold wB
  rw [e, e, World.withFollow_self]

noncomputable def PT (p : Params) : Par := { den := PySem.W.Fast.tw11892475500146522536 PySem.W.Fast.tw14364793385576792824, set := ⟨pw, p⟩, look := kLook p, pv := pvs, bnd := PySem.W.R.bindR, enter := PySem.W.Fast.tw15066281185411960212, room := PySem.W.Fast.tw10648789137845014744, msgs := ["comparison", "call"], weight := Code.weight, units := Code.cUnits }

theorem den_is (p : Params) : (PT p).den = denote table := by
  show PySem.W.Fast.tw11892475500146522536 PySem.W.Fast.tw14364793385576792824 = _
  rw [← PySem.W.Fast.te11892475500146522536, ← PySem.W.Fast.te14364793385576792824, table_eq_tree]

/-- the top's objects stand in a heap -/
noncomputable def KIn (p : Params) (h : Heap) : Prop := ∀ a o, kLook p a = some o → h.get? a = some o
theorem KIn.keeps {p : Params} {h h' : Heap} (k : KIn p h) (st : ∀ b o, h.get? b = some o → h'.get? b = some o) : KIn p h' := fun a o e => st a o (k a o e)

/-- what a contract asks of its surroundings; n bounds the depth -/
structure Sur (n : Nat) (p : Params) (A : Around) (g : Heap) : Prop where
  k : KIn p g
  lim : g.NoLimit
  depth : A.depth ≤ n
  unit : A.units ≤ 10 * n
  handled : A.handled = none

theorem Sur.par {n : Nat} {w : World} {A : Around} {g : Heap} (S : Sur n w.params A g) (hn : n ≤ 700) {R₀ : Result → Shared → Prop} {d : Drawn} {os : OsState} : ParOk (PT w.params) (vOf pw w g A R₀ d os) where
  den := den_is _
  set := rfl
  look := S.k
  ro := fun p hp => by cases hp
  pv := pvs_ok
  bnd := by show @PySem.W.R.bindR Unit Fin = _; rw [← PySem.W.R.bindR_eq]
  enter := (congrFun PySem.W.Fast.te15066281185411960212 0).symm
  room := PySem.W.Fast.te10648789137845014744.symm
  weight := rfl
  units := rfl
  lim := S.lim
  depth := Nat.le_trans S.depth hn
  unit := by have := S.unit; show A.units ≤ 7000; omega
  handled := S.handled

/-- the same with objects that are read only -/
noncomputable abbrev PTr (p : Params) (ro : Led) : Par := { PT p with ro := ro }
theorem Sur.parR {n : Nat} {w : World} {A : Around} {g : Heap} {ro : Led} (S : Sur n w.params A g) (hn : n ≤ 700) (hro : ∀ p ∈ ro, g.get? p.1 = some p.2) {R₀ : Result → Shared → Prop} {d : Drawn} {os : OsState} : ParOk (PTr w.params ro) (vOf pw w g A R₀ d os) :=
  let O := S.par hn (R₀ := R₀) (d := d) (os := os)
  { den := O.den, set := O.set, look := O.look, ro := hro, pv := O.pv, bnd := O.bnd, enter := O.enter, room := O.room, weight := O.weight, units := O.units, lim := O.lim, depth := O.depth, unit := O.unit, handled := O.handled }

noncomputable abbrev chk1 (x : Cf × Ac) : List Nat × List (Pos → List (Code × Pos) → Sem Fin) × List Bool := (x.2.a1, x.2.f1, x.2.q1)
noncomputable abbrev chk2 (x : Cf × Ac) : List Nat × List (Pos → List (Code × Pos) → Sem Fin) × List Bool := (x.2.a2, x.2.f2, x.2.q2)

/-- one stretch of the run, checked by the kernel -/
theorem seg {P : Par} {V : XV} {gens : Array GenState} (O : ParOk P V) {α : Type} {n : Nat} {cf : Cf} {hs : List Nat} {pr : Cf → α} {s s' : List Bool} {y : α}
    (e1 : (runC P n cf { hs := hs }).map chk1 = (runC P n cf { hs := hs }).map chk2)
    (e2 : (runC P n cf { hs := hs }).map (fun x => (x.2.s1, x.2.s2, pr x.1)) = some (s, s', y)) (es : s = s') :
    ∃ cf' ac', runC P n cf { hs := hs } = some (cf', ac') ∧ pr cf' = y ∧ (Good V gens cf' → Good V gens cf) := by
  obtain ⟨⟨cf', ac'⟩, e, q⟩ := Option.map_eq_some_iff.mp e2
  rw [e] at e1
  simp only [Option.map_some, Option.some.injEq, Prod.mk.injEq, chk1, chk2] at e1
  simp only [Prod.mk.injEq] at q
  obtain ⟨q1, q2, q3⟩ := q
  exact ⟨cf', ac', e, q3, (runC_sound O n e ⟨e1.1, e1.2.1, e1.2.2, by rw [q1, q2, es]⟩).2⟩

theorem Own.sub {g h : Heap} {led led' : Led} (D : Own g h led) (hm : ∀ p ∈ led', p ∈ led) (nd : (led'.map (·.1)).Nodup) : Own g h led' :=
  ⟨D.keep, fun p hp => D.has p (hm p hp), fun p hp => D.away p (hm p hp), nd⟩

/-- the end of a call: what is handed back -/
theorem good_ret {V : XV} {gens : Array GenState} {cf : Cf} {v : Value} (ht : cf.t = .pure (.done (.ret v))) (hk : cf.κ = .base)
    (h : ∀ H, Own V.h₀ H cf.led → H.objs.size = cf.sz → V.R₀ (.ok (.ret v)) ⟨H, gens, V.d, cf.tk, V.os⟩) : Good V gens cf := by
  obtain ⟨c, κ, t, led, sz, tk⟩ := cf
  dsimp only at ht hk
  subst ht hk
  intro H D hz
  exact PySem.W.X.y_pure _ _ _ _ _ _ _ _ _ (PySem.W.X.y_done _ _ _ _ _ _ (h H D hz))

/-- a code's run from its beginning -/
theorem code_good {w : World} {A : Around} {g : Heap} {R : Result → Shared → Prop} {c : Code} {led : Led} {s : Shared} (D : Own g s.heap led)
    (G : Good (vOf pw w g A R s.drawn s.os) s.gens ⟨c, .base, (PT w.params).den c, led, s.heap.objs.size, s.toks⟩) : codeAny (model pw w) A c R s := by
  have z := G s.heap D rfl
  rw [den_is] at z
  exact PySem.W.X.y_code _ _ _ _ _ _ z

/-- a heap with some objects hidden -/
noncomputable def hide (h : Heap) : List Addr → Heap
  | [] => h
  | a :: as => (hide h as).update a fun o => { o with data := .freed }
theorem get_freed (h : Heap) (a : Addr) : (h.update a fun o => { o with data := .freed }).get? a = none := by
  obtain ⟨objs, life⟩ := h
  unfold Heap.update Heap.get?
  dsimp only
  rw [Array.getElem?_modify]
  cases e : objs[a]? with
  | none => simp
  | some o => simp
theorem get_hide (h : Heap) : ∀ (as : List Addr) (b : Addr), (hide h as).get? b = if b ∈ as then none else h.get? b
  | [], b => by simp [hide]
  | a :: as, b => by
    unfold hide
    by_cases hb : b = a
    · subst hb
      rw [get_freed, if_pos List.mem_cons_self]
    · have hs : Heap.SameBut a (hide h as) ((hide h as).update a fun o => { o with data := .freed }) := Heap.SameBut.update ..
      rw [hs.2 b hb, get_hide h as b]
      simp [hb]

/-- the ghost that a call sees, of a heap and the part of the ledger that is handed on -/
theorem Own.hand {g h : Heap} {led sm : Led} (D : Own g h led) (hm : ∀ p ∈ sm, p ∈ led) (nd : (sm.map (·.1)).Nodup) : Own (hide h (sm.map (·.1))) h sm := by
  refine ⟨fun b o e => ?_, fun p hp => D.has p (hm p hp), fun p hp => ?_, nd⟩
  · rw [get_hide] at e
    split at e
    · cases e
    · exact e
  · rw [get_hide, if_pos (List.mem_map_of_mem hp)]
theorem Own.ghost {g h : Heap} {led sm : Led} (D : Own g h led) (hm : ∀ p ∈ sm, p ∈ led) : ∀ b o, g.get? b = some o → (hide h (sm.map (·.1))).get? b = some o := by
  intro b o e
  rw [get_hide, if_neg]
  · exact D.keep b o e
  · intro hb
    obtain ⟨p, hp, rfl⟩ := List.mem_map.mp hb
    rw [D.away p (hm p hp)] at e
    cases e
/-- and back -/
theorem Own.back {g h h' : Heap} {led sm sm' led' : Led} (D : Own g h led) (hm : ∀ p ∈ sm, p ∈ led) (D' : Own (hide h (sm.map (·.1))) h' sm')
    (hl : ∀ p ∈ led', (p ∈ sm' ∧ p.1 ∈ sm.map (·.1)) ∨ (p ∈ led ∧ p.1 ∉ sm.map (·.1))) (nd : (led'.map (·.1)).Nodup) : Own g h' led' := by
  refine ⟨fun b o e => D'.keep b o (D.ghost hm b o e), fun p hp => ?_, fun p hp => ?_, nd⟩
  · rcases hl p hp with ⟨q, _⟩ | ⟨q, r⟩
    · exact D'.has p q
    · refine D'.keep _ _ ?_
      rw [get_hide, if_neg r]
      exact D.has p q
  · rcases hl p hp with ⟨_, q⟩ | ⟨q, r⟩
    · obtain ⟨p', hp', e⟩ := List.mem_map.mp q
      rw [← e]; exact D.away p' (hm p' hp')
    · exact D.away p q

/-- a step into a call, and what goes on behind it -/
noncomputable def callOf : Sem Fin → Option (Code × Option Value)
  | .call c' hd _ _ _ => some (c', hd)
  | _ => none
noncomputable def contOf : Sem Fin → Result → Sem Fin
  | .call _ _ _ _ k, r => k r
  | t, _ => t
theorem good_call {V : XV} {gens : Array GenState} {cf : Cf} {c' : Code} (ht : callOf cf.t = some (c', none))
    (h : ∀ H, Own V.h₀ H cf.led → H.objs.size = cf.sz → codeAny (model V.prog V.w) ((aroundOf V true cf.κ).under cf.c) c' (fun r s' => Means V cf.c none cf.κ (contOf cf.t r) s') ⟨H, gens, V.d, cf.tk, V.os⟩) : Good V gens cf := by
  obtain ⟨c, κ, t, led, sz, tk⟩ := cf
  cases t with
  | call c₁ hd gd l k =>
    simp only [callOf, Option.some.injEq, Prod.mk.injEq] at ht
    obtain ⟨rfl, rfl⟩ := ht
    intro H D hz
    exact PySem.W.X.y_call _ _ _ _ _ _ _ _ _ _ _ _ _ (by intro e; cases e) (h H D hz)
  | _ => cases ht
/-- the place behind a call that gave v -/
noncomputable def after (x : Option (Cf × Ac)) (r : Result) (f : Led → Led) (sz tk : Nat) : Cf := match x with
  | some (cf, _) => ⟨cf.c, cf.κ, contOf cf.t r, f cf.led, sz, tk⟩
  | none => ⟨.call .none {}, .base, .unsupported "", [], 0, 0⟩
/-- how deep a place is, and that nothing is being handled there -/
noncomputable def dK : Kont → Nat
  | .ret c _ _ κ => dK κ + c.weight
  | _ => 0
noncomputable def uK : Kont → Nat
  | .ret c _ _ κ => uK κ + c.cUnits
  | _ => 0
noncomputable def lowC (cf : Cf) : Bool := Nat.ble (dK cf.κ + cf.c.weight) 20 && Nat.ble (uK cf.κ + cf.c.cUnits) 200 && (handledK cf.κ).isNone
theorem Sur.child {n : Nat} {w : World} {A : Around} {g g' : Heap} (S : Sur n w.params A g) (hn : n ≤ 700) {R₀ : Result → Shared → Prop} {d : Drawn} {os : OsState} {cf : Cf} (hc : lowC cf = true) (hg : ∀ b o, g.get? b = some o → g'.get? b = some o) :
    Sur (n + 20) w.params ((aroundOf (vOf pw w g A R₀ d os) true cf.κ).under cf.c) g' := by
  simp only [lowC, Bool.and_eq_true] at hc
  obtain ⟨⟨h1, h2⟩, h3⟩ := hc
  have l1 := around_depth (S.par hn (R₀ := R₀) (d := d) (os := os)) cf.κ
  have l2 := around_units (S.par hn (R₀ := R₀) (d := d) (os := os)) cf.κ
  have l3 := around_handled (S.par hn (R₀ := R₀) (d := d) (os := os)) cf.κ
  have k1 := Nat.le_of_ble_eq_true h1
  have k2 := Nat.le_of_ble_eq_true h2
  have e1 : ∀ κ, depthK (PT w.params) κ = dK κ := by
    intro κ; induction κ with
    | ret c hd k κ ih => simp only [depthK, dK, ih]; rfl
    | _ => rfl
  have e2 : ∀ κ, unitsK (PT w.params) κ = uK κ := by
    intro κ; induction κ with
    | ret c hd k κ ih => simp only [unitsK, uK, ih]; rfl
    | _ => rfl
  rw [e1] at l1
  rw [e2] at l2
  refine ⟨S.k.keeps hg, S.lim.keeps hg, ?_, ?_, ?_⟩
  · show (aroundOf _ true cf.κ).depth + cf.c.weight ≤ n + 20
    have := S.depth
    have l1' : (aroundOf (vOf pw w g A R₀ d os) true cf.κ).depth ≤ A.depth + dK cf.κ := l1
    omega
  · show (aroundOf _ true cf.κ).units + cf.c.cUnits ≤ 10 * (n + 20)
    have := S.unit
    have l2' : (aroundOf (vOf pw w g A R₀ d os) true cf.κ).units ≤ A.units + uK cf.κ := l2
    omega
  · show (aroundOf _ true cf.κ).handled = none
    rw [l3]
    exact Option.isNone_iff_eq_none.mp h3
end Mine
end
section
open PySem PySem.W PyProof.Rows PySem.Builtin PySem.Builtin.Str
set_option Elab.async false
set_option maxRecDepth 100000
set_option linter.unusedVariables false
namespace Mine
open PySem.W.X (Kont Means aroundOf endOf okMark XV)
noncomputable def chkO (x : Option (Cf × Ac)) : List Nat × List (Pos → List (Code × Pos) → Sem Fin) × List Bool := match x with
  | some x => chk2 x
  | none => ([], [], [])
/-- one stretch, both checks in one -/
noncomputable abbrev SegOk {α : Type} (P : Par) (n : Nat) (cf : Cf) (hs : List Nat) (pr : Cf → α) (s s' : List Bool) (y : α) : Prop :=
  (runC P n cf { hs := hs }).map (fun x => (chk1 x, x.2.s1, x.2.s2, pr x.1)) = some (chkO (runC P n cf { hs := hs }), s, s', y)
theorem seg2 {P : Par} {V : XV} {gens : Array GenState} (O : ParOk P V) {α : Type} {n : Nat} {cf : Cf} {hs : List Nat} {pr : Cf → α} {s s' : List Bool} {y : α}
    (e : SegOk P n cf hs pr s s' y) (es : s = s') :
    ∃ cf' ac', runC P n cf { hs := hs } = some (cf', ac') ∧ pr cf' = y ∧ (Good V gens cf' → Good V gens cf) := by
  obtain ⟨⟨cf', ac'⟩, e1, q⟩ := Option.map_eq_some_iff.mp e
  rw [e1] at q
  simp only [Prod.mk.injEq, chk1, chkO, chk2] at q
  obtain ⟨⟨q1, q2, q3⟩, q4, q5, q6⟩ := q
  exact ⟨cf', ac', e1, q6, (runC_sound O n e1 ⟨q1, q2, q3, by rw [q4, q5, es]⟩).2⟩

/-- the code that a stop is at -/
noncomputable def codeOfT : Sem Fin → Code
  | .call c' _ _ _ _ => c'
  | .pure (.again c') => c'
  | _ => .call .none {}
noncomputable def codeAt : Option (Cf × Ac) → Code
  | some (cf, _) => codeOfT cf.t
  | none => .call .none {}
/-- what a call leaves, put back into the whole ledger -/
theorem own_patchG {g h h' : Heap} {pre sm sm' post : Led} (D : Own g h (pre ++ sm ++ post)) (D' : Own (hide h (sm.map (·.1))) h' sm') : Own g h' (pre ++ sm' ++ post) := by
  have hm : ∀ p ∈ sm, p ∈ pre ++ sm ++ post := fun p hp => List.mem_append_left _ (List.mem_append_right _ hp)
  have nd := D.nodup
  simp only [List.map_append, List.nodup_append, List.mem_append, List.mem_map] at nd
  have hno : ∀ q, q ∈ pre ∨ q ∈ post → q.1 ∉ sm.map (·.1) := by
    rintro q (hq | hq) hs
    · exact nd.1.2.2 q.1 ⟨q, hq, rfl⟩ q.1 (List.mem_map.mp hs) rfl
    · exact nd.2.2 q.1 (Or.inr (List.mem_map.mp hs)) q.1 ⟨q, hq, rfl⟩ rfl
  have hin : ∀ q, q ∈ pre ∨ q ∈ post → q ∈ pre ++ sm ++ post := by
    rintro q (hq | hq)
    · exact List.mem_append_left _ (List.mem_append_left _ hq)
    · exact List.mem_append_right _ hq
  have hkeep : ∀ q, q ∈ pre ∨ q ∈ post → (hide h (sm.map (·.1))).get? q.1 = some q.2 := fun q hq => by
    rw [get_hide, if_neg (hno q hq)]; exact D.has q (hin q hq)
  have hne : ∀ q, q ∈ pre ∨ q ∈ post → ∀ p ∈ sm', p.1 ≠ q.1 := fun q hq p hp e => by
    have := D'.away p hp
    rw [e, hkeep q hq] at this
    cases this
  refine ⟨fun b o e => D'.keep b o (D.ghost hm b o e), fun p hp => ?_, fun p hp => ?_, ?_⟩
  · simp only [List.mem_append] at hp
    rcases hp with (hp | hp) | hp
    · exact D'.keep _ _ (hkeep p (.inl hp))
    · exact D'.has p hp
    · exact D'.keep _ _ (hkeep p (.inr hp))
  · simp only [List.mem_append] at hp
    rcases hp with (hp | hp) | hp
    · exact D.away p (hin p (.inl hp))
    · cases e : g.get? p.1 with
      | none => rfl
      | some o =>
        have := D.ghost hm p.1 o e
        rw [D'.away p hp] at this
        cases this
    · exact D.away p (hin p (.inr hp))
  · simp only [List.map_append, List.nodup_append, List.mem_append, List.mem_map]
    refine ⟨⟨nd.1.1, D'.nodup, ?_⟩, nd.2.1, ?_⟩
    · rintro a ⟨q, hq, rfl⟩ b ⟨p, hp, rfl⟩ e
      exact hne q (.inl hq) p hp e.symm
    · rintro a (⟨q, hq, rfl⟩ | ⟨p, hp, rfl⟩) b ⟨r, hr, rfl⟩ e
      · exact nd.2.2 q.1 (Or.inl ⟨q, hq, rfl⟩) r.1 ⟨r, hr, rfl⟩ e
      · exact hne r (.inr hr) p hp e
theorem Own.midG {g h : Heap} {pre sm post : Led} (D : Own g h (pre ++ sm ++ post)) : Own (hide h (sm.map (·.1))) h sm := by
  refine D.hand (fun p hp => List.mem_append_left _ (List.mem_append_right _ hp)) ?_
  have nd := D.nodup
  simp only [List.map_append, List.nodup_append] at nd
  exact nd.1.2.1
theorem Own.rest {g h : Heap} {pre sm post : Led} (D : Own g h (pre ++ sm ++ post)) : ∀ q ∈ pre ++ post, (hide h (sm.map (·.1))).get? q.1 = some q.2 := by
  have nd := D.nodup
  simp only [List.map_append, List.nodup_append, List.mem_append, List.mem_map] at nd
  intro q hq
  rw [get_hide, if_neg]
  · refine D.has q ?_
    rcases List.mem_append.mp hq with hq | hq
    · exact List.mem_append_left _ (List.mem_append_left _ hq)
    · exact List.mem_append_right _ hq
  · intro hs
    rcases List.mem_append.mp hq with hq | hq
    · exact nd.1.2.2 q.1 ⟨q, hq, rfl⟩ q.1 (List.mem_map.mp hs) rfl
    · exact nd.2.2 q.1 (Or.inr (List.mem_map.mp hs)) q.1 ⟨q, hq, rfl⟩ rfl

section
variable {w : World} {A : Around} {g : Heap} {n : Nat} {R : Result → Shared → Prop}
/-- a stop at a call, by the callee's contract -/
theorem call_segG {cf' : Cf} {ac' : Ac} {c' : Code} {d : Drawn} {os : OsState} {gens : Array GenState} (pre sm post : Led) (P : Result → Led → Prop) (S : Sur n w.params A g) (hn : n ≤ 700) (p1 : callOf cf'.t = some (c', none)) (p2 : lowC cf' = true) (p3 : cf'.led = pre ++ sm ++ post)
    (hr : ∀ {A' : Around} {g' : Heap} {s' : Shared} {R' : Result → Shared → Prop}, Sur (n + 20) w.params A' g' → (∀ b o, g.get? b = some o → g'.get? b = some o) → (∀ q ∈ pre ++ post, g'.get? q.1 = some q.2) → Own g' s'.heap sm →
      (∀ (s'' : Shared) (r : Result) (sm' : Led), Own g' s''.heap sm' → P r sm' → s''.gens = s'.gens → s''.drawn = s'.drawn → s''.os = s'.os → R' r s'') → codeAny (model pw w) A' c' R' s')
    (h : ∀ r sm' sz2 tk2, P r sm' → Good (vOf pw w g A R d os) gens (after (some (cf', ac')) r (fun _ => pre ++ sm' ++ post) sz2 tk2)) : Good (vOf pw w g A R d os) gens cf' := by
  refine good_call p1 fun H D' hsz => ?_
  rw [p3] at D'
  have hm : ∀ p ∈ sm, p ∈ pre ++ sm ++ post := fun p hp => List.mem_append_left _ (List.mem_append_right _ hp)
  refine hr (Sur.child (cf := cf') S hn p2 (D'.ghost hm)) (D'.ghost hm) D'.rest D'.midG fun s'' r sm' D'' hP e1 e2 e3 => ?_
  obtain ⟨H'', gens'', d'', tk'', os''⟩ := s''
  dsimp only at e1 e2 e3 D''
  subst e1 e2 e3
  exact h r sm' H''.objs.size tk'' hP H'' (own_patchG D' D'') rfl
end

section
variable {prog : Program} {w : World} {A : Around} {g : Heap} {s : Shared} {R : Result → Shared → Prop}
theorem codeAny_call_entry {T : String} {name : Str} {id : String} {b : Builtin} {self : Value} {rest : List Value} (h : Slot T name id) (hT : s.TypeIs self T) (hb : entryFor table id = some b)
    (hc : wpAny (model prog w) A.in1 (b ⟨self :: rest, []⟩) (fun fin s' => ∃ v, fin = .done (.ret v) ∧ R (.ok (.ret v)) s') (fun e s' => R (.error e) s') s)
    (ha : argsOk id ⟨self :: rest, []⟩) : codeAny (model prog w) A (.call (.builtin id) ⟨self :: rest, []⟩) R s := by
  refine codeAny_call_builtin h.plain hb (h.check _ _ _ _ _ _ _ _ hT ha (wpAny_mono hc (fun fin s' h' => ?_) fun _ _ h' => h'))
  obtain ⟨v, rfl, hv⟩ := h'
  exact hv

/-- iterators -/
noncomputable def liO (l : Addr) (i : Nat) : Obj := { cls := .type "list_iterator", data := .fields ⟨[.ref l, .int (i : Int) 0]⟩ }
noncomputable def liE (i : Nat) : Obj := { cls := .type "list_iterator", data := .fields ⟨[.none, .int (i : Int) 0]⟩ }
noncomputable def siO (ty : String) (x : Str) (t i : Nat) : Obj := { cls := .type ty, data := .fields ⟨[.str x t, .int (i : Int) 0]⟩ }
noncomputable def siE (ty : String) (i : Nat) : Obj := { cls := .type ty, data := .fields ⟨[.none, .int (i : Int) 0]⟩ }
noncomputable def nilO : Obj := { cls := .type "tuple", data := .seq ⟨[]⟩ 0 }
noncomputable def stopO (t : Addr) : Obj := { cls := .type "StopIteration", data := .fields ⟨[.ref t, .none, .none, .none, .bool false, .none]⟩ }
noncomputable abbrev nextCode (ty : String) (it : Addr) : Code := .call (.builtin ty) ⟨[.ref it], []⟩

theorem Own.upd1 {h : Heap} {a : Addr} {o o' : Obj} {f : Obj → Obj} (D : Own g h [(a, o)]) (e : f o = o') (hf : o'.isFreed = false) : Own g (h.update a f) [(a, o')] := by
  have := D.update (j := 0) (f := f) rfl (by rw [e]; exact hf)
  rw [e] at this
  exact this
theorem nx_list_item {it l : Addr} {i : Nat} {xs : Array Value} {e : Nat} {lo : Obj} {v : Value} (hl : g.get? l = some lo) (hd : lo.data = .seq xs e) (hx : xs[i]? = some v)
    (D : Own g s.heap [(it, liO l i)]) (h : ∀ H, Own g H [(it, liO l (i + 1))] → R (.ok (.ret v)) { s with heap := H }) : codeAny (model prog w) A (nextCode "list_iterator.__next__" it) R s := by
  have ho : s.heap.get? it = some (liO l i) := D.has _ List.mem_cons_self
  have hol := D.keep _ _ hl
  refine codeAny_call_entry slot_listiter_next ⟨_, ho, rfl⟩ entry_listiter_next ?_ (args_listiter_next _)
  show wpAny _ _ (field (.ref it) 0 >>= _) _ _ s
  refine wpAny_bind (wpAny_field ho rfl (x := .ref l) rfl ?_)
  show wpAny _ _ (if (Value.ref l == Value.none) = true then _ else _) _ _ s
  rw [if_neg (show ¬ ((Value.ref l == Value.none) = true) from Bool.false_ne_true)]
  show wpAny _ _ (field (.ref it) 1 >>= _) _ _ s
  refine wpAny_bind (wpAny_field ho rfl (x := .int i 0) rfl ?_)
  show wpAny _ _ (seqItems? (.ref l) >>= _) _ _ s
  refine wpAny_bind (wpAny_seqItems hol hd ?_)
  simp only [Int.toNat_natCast, hx]
  exact wpAny_bind (wpAny_setField ho rfl (by simp) (wpAny_pure ⟨v, rfl, h _ (D.upd1 rfl rfl)⟩))
theorem raise_stop {E : Value → Shared → Prop} {Q : Fin → Shared → Prop} {led : Led} (hh : A.handled = none) (D : Own g s.heap led)
    (h : ∀ H t e, Own g H ((e, stopO t) :: (t, nilO) :: led) → E (.ref e) { s with heap := H }) : wpAny (model prog w) A.in1 (newExc (.type "StopIteration") [] >>= raiseNew) Q E s := by
  refine wpAny_bind ?_
  simp only [newExc, newTuple]
  refine wpAny_bind (wpAny_newObj_type ?_ (by size_fits))
  refine wpAny_bind (m := firstArgMember _ _) (wpAny_of_eq (a := Value.none) (by first | rfl | (simp only [firstArgMember]; rfl)) ?_)
  refine wpAny_newObj_type ?_ (by size_fits)
  simp only [raiseNew]
  refine wpAny_bind (wpAny_handled ?_)
  first | rw [show A.in1.handled = none from hh] | rw [hh]
  refine wpAny_bind (wpAny_pure (wpAny_throw ?_))
  have D1 := D.alloc (o := nilO) rfl
  have D2 := D1.alloc (o := stopO s.heap.objs.size) rfl
  exact h _ _ _ D2
theorem nx_list_end {it l : Addr} {i : Nat} {xs : Array Value} {e : Nat} {lo : Obj} (hh : A.handled = none) (hl : g.get? l = some lo) (hd : lo.data = .seq xs e) (hx : xs[i]? = none)
    (D : Own g s.heap [(it, liO l i)]) (h : ∀ H t e, Own g H [(e, stopO t), (t, nilO), (it, liE i)] → R (.error (.ref e)) { s with heap := H }) : codeAny (model prog w) A (nextCode "list_iterator.__next__" it) R s := by
  have ho : s.heap.get? it = some (liO l i) := D.has _ List.mem_cons_self
  have hol := D.keep _ _ hl
  refine codeAny_call_entry slot_listiter_next ⟨_, ho, rfl⟩ entry_listiter_next ?_ (args_listiter_next _)
  show wpAny _ _ (field (.ref it) 0 >>= _) _ _ s
  refine wpAny_bind (wpAny_field ho rfl (x := .ref l) rfl ?_)
  show wpAny _ _ (if (Value.ref l == Value.none) = true then _ else _) _ _ s
  rw [if_neg (show ¬ ((Value.ref l == Value.none) = true) from Bool.false_ne_true)]
  show wpAny _ _ (field (.ref it) 1 >>= _) _ _ s
  refine wpAny_bind (wpAny_field ho rfl (x := .int i 0) rfl ?_)
  show wpAny _ _ (seqItems? (.ref l) >>= _) _ _ s
  refine wpAny_bind (wpAny_seqItems hol hd ?_)
  simp only [Int.toNat_natCast, hx]
  refine wpAny_bind (wpAny_rule (wpAny_bind (wpAny_setField ho rfl (by simp) ?_)))
  exact raise_stop hh (D.upd1 (o' := liE i) rfl rfl) h
theorem nx_str_item {ty id : String} {x : Str} {t : Nat} {it : Addr} {i c : Nat} (hty : (ty = "str_ascii_iterator" ∧ id = "str_ascii_iterator.__next__") ∨ (ty = "str_iterator" ∧ id = "str_iterator.__next__")) (hx : x.cps[i]? = some c)
    (D : Own g s.heap [(it, siO ty x t i)]) (h : ∀ H, Own g H [(it, siO ty x t (i + 1))] → R (.ok (.ret (.str ⟨#[c]⟩ s.toks))) { s with heap := H, toks := s.toks + 1 }) : codeAny (model prog w) A (nextCode id it) R s := by
  have ho : s.heap.get? it = some (siO ty x t i) := D.has _ List.mem_cons_self
  rcases hty with ⟨rfl, rfl⟩ | ⟨rfl, rfl⟩
  · refine codeAny_call_entry F.slot_str_ascii_iterator_next ⟨_, ho, rfl⟩ F.entry_str_ascii_iterator_next ?_ (F.args_str_ascii_iterator_next_1 _)
    show wpAny _ _ (field (.ref it) 0 >>= _) _ _ s
    refine wpAny_bind (wpAny_field ho rfl (x := .str x t) rfl ?_)
    show wpAny _ _ (field (.ref it) 1 >>= _) _ _ s
    refine wpAny_bind (wpAny_field ho rfl (x := .int i 0) rfl ?_)
    simp only [Int.toNat_natCast, hx]
    exact wpAny_bind (wpAny_setField ho rfl (by simp) (wpAny_bind (wpAny_mkStr (wpAny_pure ⟨_, rfl, h _ (D.upd1 rfl rfl)⟩))))
  · refine codeAny_call_entry F.slot_str_iterator_next ⟨_, ho, rfl⟩ F.entry_str_iterator_next ?_ (F.args_str_iterator_next_1 _)
    show wpAny _ _ (field (.ref it) 0 >>= _) _ _ s
    refine wpAny_bind (wpAny_field ho rfl (x := .str x t) rfl ?_)
    show wpAny _ _ (field (.ref it) 1 >>= _) _ _ s
    refine wpAny_bind (wpAny_field ho rfl (x := .int i 0) rfl ?_)
    simp only [Int.toNat_natCast, hx]
    exact wpAny_bind (wpAny_setField ho rfl (by simp) (wpAny_bind (wpAny_mkStr (wpAny_pure ⟨_, rfl, h _ (D.upd1 rfl rfl)⟩))))
theorem nx_str_end {ty id : String} {x : Str} {t : Nat} {it : Addr} {i : Nat} (hh : A.handled = none) (hty : (ty = "str_ascii_iterator" ∧ id = "str_ascii_iterator.__next__") ∨ (ty = "str_iterator" ∧ id = "str_iterator.__next__")) (hx : x.cps[i]? = none)
    (D : Own g s.heap [(it, siO ty x t i)]) (h : ∀ H t e, Own g H [(e, stopO t), (t, nilO), (it, siE ty i)] → R (.error (.ref e)) { s with heap := H }) : codeAny (model prog w) A (nextCode id it) R s := by
  have ho : s.heap.get? it = some (siO ty x t i) := D.has _ List.mem_cons_self
  rcases hty with ⟨rfl, rfl⟩ | ⟨rfl, rfl⟩
  · refine codeAny_call_entry F.slot_str_ascii_iterator_next ⟨_, ho, rfl⟩ F.entry_str_ascii_iterator_next ?_ (F.args_str_ascii_iterator_next_1 _)
    show wpAny _ _ (field (.ref it) 0 >>= _) _ _ s
    refine wpAny_bind (wpAny_field ho rfl (x := .str x t) rfl ?_)
    show wpAny _ _ (field (.ref it) 1 >>= _) _ _ s
    refine wpAny_bind (wpAny_field ho rfl (x := .int i 0) rfl ?_)
    simp only [Int.toNat_natCast, hx]
    refine wpAny_bind (wpAny_rule (wpAny_bind (wpAny_setField ho rfl (by simp) (wpAny_bind (wpAny_letGo ?_)))))
    exact raise_stop hh (D.upd1 (o' := siE _ i) rfl rfl) h
  · refine codeAny_call_entry F.slot_str_iterator_next ⟨_, ho, rfl⟩ F.entry_str_iterator_next ?_ (F.args_str_iterator_next_1 _)
    show wpAny _ _ (field (.ref it) 0 >>= _) _ _ s
    refine wpAny_bind (wpAny_field ho rfl (x := .str x t) rfl ?_)
    show wpAny _ _ (field (.ref it) 1 >>= _) _ _ s
    refine wpAny_bind (wpAny_field ho rfl (x := .int i 0) rfl ?_)
    simp only [Int.toNat_natCast, hx]
    refine wpAny_bind (wpAny_rule (wpAny_bind (wpAny_setField ho rfl (by simp) (wpAny_bind (wpAny_letGo ?_)))))
    exact raise_stop hh (D.upd1 (o' := siE _ i) rfl rfl) h
end
end Mine
end
section
open PySem PySem.W PyProof.Rows PySem.Builtin.Str
set_option Elab.async false
set_option maxRecDepth 1000000
set_option maxHeartbeats 0
namespace Mine
open PySem.W.X (Kont Means aroundOf endOf okMark XV)

noncomputable def ioInst (dy : Addr) : Obj := { cls := .ref 597, dict := some dy }
noncomputable def ioDict (p : Params) (t : Nat → Nat) (u : Nat) (B : Str) (i : Int) : Obj := { cls := .type "dict", data := .dict [dE p "_StringIO__newline" (t 0) (.str "\n" (t 1)), dE p "_StringIO__buf" (t 2) (.str B (t 3)), dE p "_StringIO__pos" (t 4) (.int i u)].toArray 3 }
noncomputable abbrev ioLed (p : Params) (y dy : Addr) (t : Nat → Nat) (u : Nat) (B : Str) (i : Int) : Led := [(y, ioInst dy), (dy, ioDict p t u B i)]
noncomputable abbrev readCode (y : Addr) (tv : Nat) : Code := .call (.ref 543) ⟨[.ref y, .int 1 tv], []⟩
noncomputable abbrev rdCf (p : Params) (y dy sz tk : Nat) (t : Nat → Nat) (u tv : Nat) (B : Str) (i : Int) : Cf :=
  ⟨readCode y tv, .base, (PT p).den (readCode y tv), ioLed p y dy t u B i, sz, tk⟩
noncomputable def hRdEof : List Nat := [0, 0, 0, 1, 1, 1, 1, 0, 0, 1, 0, 1, 0, 0, 0, 0, 1, 1, 1, 1, 0, 0, 0, 0, 1, 0, 0, 0, 0, 0, 0, 1, 0, 0, 0, 0, 0, 0, 1, 1, 1, 0, 0, 0, 1, 0, 0, 0, 0, 0, 1, 2, 2, 2, 3, 0, 0, 0, 0, 0, 0, 0, 3, 0, 0, 0, 0, 0, 0, 0, 3, 0, 0, 0, 0, 3, 4, 0, 0, 0, 0, 1, 1, 0, 0, 1, 4, 0, 0, 0, 0, 0, 0, 0, 0, 4, 0, 0, 0, 0, 0, 0, 0, 4, 4, 0, 5, 3, 4, 0, 0, 0, 0, 0, 0, 0, 0, 4, 0, 0, 0, 0, 0, 0, 0, 4, 4, 0, 5, 3, 3, 0, 0, 3, 4, 0, 0, 0, 0, 0, 0, 0, 0, 4, 0, 0, 0, 0, 0, 0, 0, 4, 4, 0, 5, 5, 3, 3, 3, 3, 0, 0, 2]
noncomputable def hRdCh : List Nat := [0, 0, 0, 1, 1, 1, 1, 0, 0, 1, 0, 1, 0, 0, 0, 0, 1, 1, 1, 1, 0, 0, 0, 0, 1, 0, 0, 0, 0, 0, 0, 1, 0, 0, 0, 0, 0, 0, 1, 1, 1, 0, 0, 0, 1, 0, 0, 0, 0, 0, 1, 2, 2, 2, 3, 0, 0, 0, 0, 0, 0, 0, 3, 0, 0, 0, 0, 0, 0, 0, 3, 0, 0, 0, 0, 3, 4, 0, 0, 0, 0, 1, 1, 0, 0, 1, 4, 0, 0, 0, 0, 0, 0, 0, 0, 4, 0, 0, 0, 0, 0, 0, 0, 4, 4, 0, 5, 3, 4, 0, 0, 0, 0, 0, 0, 0, 0, 4, 0, 0, 0, 0, 0, 0, 0, 4, 4, 0, 5, 3, 3, 0, 0, 3, 4, 0, 0, 0, 0, 0, 0, 0, 0, 4, 0, 0, 0, 0, 0, 0, 0, 4, 4, 0, 5, 5, 3, 3, 3, 3, 0, 0, 1, 3, 0, 0, 0, 3, 3, 0, 0, 3, 0, 0, 2, 3, 3, 0, 0, 3, 3, 3, 3, 4, 0, 0, 0, 0, 0, 0, 0, 0, 4, 0, 0, 4, 0, 4, 0, 0, 0, 0, 0, 0, 0, 4, 0, 5, 5, 5, 3, 4, 0, 0, 0, 0, 0, 0, 0, 0, 4, 0, 0, 0, 0, 0, 0, 0, 4, 4, 0, 5, 3, 3, 7]
noncomputable def hRdLast : List Nat := [0, 0, 0, 1, 1, 1, 1, 0, 0, 1, 0, 1, 0, 0, 0, 0, 1, 1, 1, 1, 0, 0, 0, 0, 1, 0, 0, 0, 0, 0, 0, 1, 0, 0, 0, 0, 0, 0, 1, 1, 1, 0, 0, 0, 1, 0, 0, 0, 0, 0, 1, 2, 2, 2, 3, 0, 0, 0, 0, 0, 0, 0, 3, 0, 0, 0, 0, 0, 0, 0, 3, 0, 0, 0, 0, 3, 4, 0, 0, 0, 0, 1, 1, 0, 0, 1, 4, 0, 0, 0, 0, 0, 0, 0, 0, 4, 0, 0, 0, 0, 0, 0, 0, 4, 4, 0, 5, 3, 4, 0, 0, 0, 0, 0, 0, 0, 0, 4, 0, 0, 0, 0, 0, 0, 0, 4, 4, 0, 5, 3, 3, 0, 0, 3, 4, 0, 0, 0, 0, 0, 0, 0, 0, 4, 0, 0, 0, 0, 0, 0, 0, 4, 4, 0, 5, 5, 3, 3, 3, 3, 0, 0, 1, 3, 0, 0, 0, 3, 3, 0, 0, 3, 0, 0, 1, 3, 3, 4, 0, 0, 0, 0, 0, 0, 0, 0, 4, 0, 0, 4, 0, 4, 0, 0, 0, 0, 0, 0, 0, 4, 0, 5, 5, 5, 3, 4, 0, 0, 0, 0, 0, 0, 0, 0, 4, 0, 0, 0, 0, 0, 0, 0, 4, 4, 0, 5, 3, 3, 7]
noncomputable abbrev prEnd (a b : Nat) (cf : Cf) := (cf.t, cf.κ, nth cf.led a, nth cf.led b)

theorem rdEof1 (w : World) (b₁ b₂ : Bool) (y dy sz tk : Nat) (t : Nat → Nat) (u tv : Nat) (B : Str) (i : Int) :
    SegOk (PT (wB w b₁ b₂).params) 1000 (rdCf (wB w b₁ b₂).params y dy sz tk t u tv B i) hRdEof (prEnd 3 4) [decide (i ≥ (B.length : Int)), Nat.ble B.length sizeLine] [true, true]
    (.pure (.done (.ret (.str "" (tk + 18)))), .base, some (y, ioInst dy), some (dy, ioDict (wB w b₁ b₂).params t u B i)) := by
  cases b₁ <;> kernel_rfl
theorem rdCh1 (w : World) (b₁ b₂ : Bool) (y dy sz tk : Nat) (t : Nat → Nat) (u tv : Nat) (B : Str) (i : Int) :
    SegOk (PT (wB w b₁ b₂).params) 1000 (rdCf (wB w b₁ b₂).params y dy sz tk t u tv B i) hRdCh (prEnd 4 5) [Nat.ble B.length sizeLine, decide (i + 1 < (B.length : Int)), decide (i ≥ (B.length : Int)), Nat.ble B.length sizeLine] [true, true, false, true]
    (.pure (.done (.ret (.str (Txt.slice B (some i) (some (i + 1))) (if wholeSl B i (i + 1) then t 3 else tk + 25)))), .base, some (y, ioInst dy), some (dy, ioDict (wB w b₁ b₂).params t (tk + 20) B (i + 1))) := by
  cases b₁ <;> kernel_rfl
theorem rdLast1 (w : World) (b₁ b₂ : Bool) (y dy sz tk : Nat) (t : Nat → Nat) (u tv : Nat) (B : Str) (i : Int) :
    SegOk (PT (wB w b₁ b₂).params) 1000 (rdCf (wB w b₁ b₂).params y dy sz tk t u tv B i) hRdLast (prEnd 4 5) [Nat.ble B.length sizeLine, decide (i + 1 < (B.length : Int)), decide (i ≥ (B.length : Int)), Nat.ble B.length sizeLine] [true, false, false, true]
    (.pure (.done (.ret (.str (Txt.slice B (some i) (some (B.length : Int))) (if wholeSl B i (B.length : Int) then t 3 else tk + 23)))), .base, some (y, ioInst dy), some (dy, ioDict (wB w b₁ b₂).params t (tk + 16) B (B.length : Int))) := by
  cases b₁ <;> kernel_rfl

theorem indices_one {n k : Nat} (h : k < n) : strSliceIndices (some (k : Int)) (some ((k : Int) + 1)) 1 n = [k] := by
  have h1 : max (0 : Int) (min (k : Int) (n : Int)) = k := by omega
  have h2 : max (0 : Int) (min ((k : Int) + 1) (n : Int)) = (k : Int) + 1 := by omega
  have h3 : ¬ ((k : Int) < 0) := by omega
  have h4 : ¬ ((k : Int) + 1 < 0) := by omega
  simp only [strSliceIndices, show (1 : Int) > 0 by decide, if_true, h3, h4, if_false, h1, h2, sliceRange]
  have h5 : (k : Int) < (k : Int) + 1 := by omega
  have h6 : ((k : Int) + 1 - (k : Int) + 1 - 1) / 1 = 1 := by omega
  simp only [h5, if_true, h6]
  simp
theorem slice_one {B : Str} {k : Nat} {c : Nat} (h : B.cps[k]? = some c) : Txt.slice B (some (k : Int)) (some ((k : Int) + 1)) = ⟨#[c]⟩ := by
  have hk : k < B.cps.size := (Array.getElem?_eq_some_iff.mp h).1
  have hl : B.length = B.cps.size := rfl
  unfold Txt.slice
  rw [indices_one (by rw [hl]; exact hk)]
  split
  · rename_i hq
    have h1 : B.cps.size = 1 := by
      simp only [List.length_cons, List.length_nil, Bool.and_eq_true, beq_iff_eq] at hq
      have := hq.2
      rw [hl] at this
      omega
    have hk0 : k = 0 := by omega
    subst hk0
    obtain ⟨cps⟩ := B
    obtain ⟨l⟩ := cps
    match l, h1, h with
    | [a], _, h => simp at h; simp [h]
  · simp [h]

/-- reading one sign -/
theorem read_ch {w : World} {b₁ b₂ : Bool} {A : Around} {g : Heap} {s : Shared} {R : Result → Shared → Prop} {y dy : Addr} {t : Nat → Nat} {u tv : Nat} {B : Str} {k c : Nat}
    {n : Nat} (S : Sur n (wB w b₁ b₂).params A g) (hn : n ≤ 700) (D : Own g s.heap (ioLed (wB w b₁ b₂).params y dy t u B (k : Int))) (hc : B.cps[k]? = some c) (hB : B.length ≤ sizeLine)
    (h : ∀ (s' : Shared) (tc u' : Nat), Own g s'.heap (ioLed (wB w b₁ b₂).params y dy t u' B ((k + 1 : Nat) : Int)) → s'.gens = s.gens → s'.drawn = s.drawn → s'.os = s.os → R (.ok (.ret (.str ⟨#[c]⟩ tc))) s') :
    codeAny (model pw (wB w b₁ b₂)) A (readCode y tv) R s := by
  have hk : k < B.cps.size := (Array.getElem?_eq_some_iff.mp hc).1
  have hl : B.length = B.cps.size := rfl
  have e0 : Nat.ble B.length sizeLine = true := Nat.ble_eq_true_of_le hB
  have e1 : decide ((k : Int) ≥ (B.length : Int)) = false := decide_eq_false (by omega)
  refine code_good D ?_
  have fin : ∀ (v : Value) (u' : Nat) (j : Int) (cf' : Cf), (∃ tc, v = .str ⟨#[c]⟩ tc) → j = ((k + 1 : Nat) : Int) → prEnd 4 5 cf' = (.pure (.done (.ret v)), .base, some (y, ioInst dy), some (dy, ioDict (wB w b₁ b₂).params t u' B j)) → Good (vOf pw (wB w b₁ b₂) g A R s.drawn s.os) s.gens cf' := by
    intro v u' j cf' hv hj hp
    simp only [prEnd, Prod.mk.injEq] at hp
    obtain ⟨p1, p2, p3, p4⟩ := hp
    obtain ⟨tc, rfl⟩ := hv
    subst hj
    refine good_ret p1 p2 fun H D' _ => h ⟨H, s.gens, s.drawn, cf'.tk, s.os⟩ tc u' (D'.sub (fun p hp => ?_) ?_) rfl rfl rfl
    · rcases List.mem_cons.mp hp with rfl | hp
      · exact nth_mem _ _ p3
      · rcases List.mem_cons.mp hp with rfl | hp
        · exact nth_mem _ _ p4
        · cases hp
    · exact D.nodup
  by_cases hq : k + 1 < B.cps.size
  · have e2 : decide ((k : Int) + 1 < (B.length : Int)) = true := decide_eq_true (by omega)
    obtain ⟨cf', _, _, hp, G⟩ := seg2 (gens := s.gens) (S.par hn (R₀ := R) (d := s.drawn) (os := s.os)) (rdCh1 w b₁ b₂ y dy s.heap.objs.size s.toks t u tv B k) (by rw [e0, e1, e2])
    exact G (fin _ _ _ cf' ⟨_, by rw [slice_one hc]⟩ (by omega) hp)
  · have e2 : decide ((k : Int) + 1 < (B.length : Int)) = false := decide_eq_false (by omega)
    obtain ⟨cf', _, _, hp, G⟩ := seg2 (gens := s.gens) (S.par hn (R₀ := R) (d := s.drawn) (os := s.os)) (rdLast1 w b₁ b₂ y dy s.heap.objs.size s.toks t u tv B k) (by rw [e0, e1, e2])
    have hj : (B.length : Int) = (k : Int) + 1 := by omega
    exact G (fin _ _ _ cf' ⟨_, by rw [hj, slice_one hc]⟩ (by omega) hp)
/-- reading at the end -/
theorem read_eof {w : World} {b₁ b₂ : Bool} {A : Around} {g : Heap} {s : Shared} {R : Result → Shared → Prop} {y dy : Addr} {t : Nat → Nat} {u tv : Nat} {B : Str} {k : Nat}
    {n : Nat} (S : Sur n (wB w b₁ b₂).params A g) (hn : n ≤ 700) (D : Own g s.heap (ioLed (wB w b₁ b₂).params y dy t u B (k : Int))) (hk : B.length ≤ k) (hB : B.length ≤ sizeLine)
    (h : ∀ (s' : Shared) (tc : Nat), Own g s'.heap (ioLed (wB w b₁ b₂).params y dy t u B (k : Int)) → s'.gens = s.gens → s'.drawn = s.drawn → s'.os = s.os → R (.ok (.ret (.str ⟨#[]⟩ tc))) s') :
    codeAny (model pw (wB w b₁ b₂)) A (readCode y tv) R s := by
  have e0 : Nat.ble B.length sizeLine = true := Nat.ble_eq_true_of_le hB
  have e1 : decide ((k : Int) ≥ (B.length : Int)) = true := decide_eq_true (by omega)
  refine code_good D ?_
  obtain ⟨cf', _, _, hp, G⟩ := seg2 (gens := s.gens) (S.par hn (R₀ := R) (d := s.drawn) (os := s.os)) (rdEof1 w b₁ b₂ y dy s.heap.objs.size s.toks t u tv B k) (by rw [e0, e1])
  simp only [prEnd, Prod.mk.injEq] at hp
  obtain ⟨p1, p2, p3, p4⟩ := hp
  refine G (good_ret p1 p2 fun H D' _ => h ⟨H, s.gens, s.drawn, cf'.tk, s.os⟩ _ (D'.sub (fun p hp => ?_) D.nodup) rfl rfl rfl)
  rcases List.mem_cons.mp hp with rfl | hp
  · exact nth_mem _ _ p3
  · rcases List.mem_cons.mp hp with rfl | hp
    · exact nth_mem _ _ p4
    · cases hp
end Mine
end
section
open PySem PySem.W PyProof.Rows PySem.Builtin PySem.Builtin.Str
set_option Elab.async false
set_option maxRecDepth 1000000
set_option maxHeartbeats 0
set_option linter.unusedVariables false
namespace Mine
open PySem.W.X (Kont Means aroundOf endOf okMark XV)
/-- the addresses and tokens around a lexer that reads -/
structure RtA where
  L : Nat
  x : Nat
  dx : Nat
  y : Nat
  dy : Nat
  pb : Nat
  fs : Nat
  t : Nat → Nat
  it : Nat → Nat
  ft : Nat → Nat
  B : Str
noncomputable def shWord : Str := "abcdfeghijklmnopqrstuvwxyzABCDEFGHIJKLMNOPQRSTUVWXYZ0123456789_ßàáâãäåæçèéêëìíîïðñòóôõöøùúûüýþÿÀÁÂÃÄÅÆÇÈÉÊËÌÍÎÏÐÑÒÓÔÕÖØÙÚÛÜÝÞ"
noncomputable def shDict (p : Params) (a : RtA) (st tok : Value) (ln : Int) (lt : Nat) : Obj := { cls := .type "dict", data := .dict [
  dE p "instream" (a.t 0) (.ref a.y), dE p "infile" (a.t 1) .none, dE p "posix" (a.t 2) (.bool true), dE p "eof" (a.t 3) .none, dE p "commenters" (a.t 4) (.str "" (a.t 5)), dE p "wordchars" (a.t 6) (.str shWord (a.t 7)), dE p "whitespace" (a.t 8) (.str " \t\x0d\n" (a.t 9)), dE p "whitespace_split" (a.t 10) (.bool true), dE p "quotes" (a.t 11) (.str "'\"" (a.t 12)), dE p "escape" (a.t 13) (.str "\\" (a.t 14)), dE p "escapedquotes" (a.t 15) (.str "\"" (a.t 16)), dE p "state" (a.t 17) st, dE p "pushback" (a.t 18) (.ref a.pb), dE p "lineno" (a.t 19) (.int ln lt), dE p "debug" (a.t 21) (.int 0 (a.t 22)), dE p "token" (a.t 23) tok, dE p "filestack" (a.t 24) (.ref a.fs), dE p "source" (a.t 25) .none, dE p "_punctuation_chars" (a.t 26) (.str "" (a.t 27))].toArray 19 }
noncomputable def shInst (dx : Addr) : Obj := { cls := .ref 732, dict := some dx }
noncomputable def dqObj : Obj := { cls := .type "collections.deque", data := .fields [.none, .int 0 0].toArray }
noncomputable def frObj (p : Params) (a : RtA) (q : Bool) (nc : List DictEntry) (e : Nat) : Obj := { cls := .type "frame", data := .dict ([dE p "self" (a.ft 0) (.ref a.x), dE p "quoted" (a.ft 1) (.bool q), dE p "escapedstate" (a.ft 2) (.str " " (a.ft 3))] ++ nc).toArray e }
noncomputable abbrev shLed (p : Params) (a : RtA) (u : Nat) (i : Int) (sh : Obj) : Led := [(a.y, ioInst a.dy), (a.dy, ioDict p a.it u a.B i), (a.x, shInst a.dx), (a.dx, sh), (a.pb, dqObj), (a.fs, dqObj)]
noncomputable abbrev rtLed (p : Params) (a : RtA) (fr : Obj) (u : Nat) (i : Int) (sh : Obj) : Led := (a.L, fr) :: shLed p a u i sh
noncomputable def fnBody : Stmt → List Stmt
  | .FunctionDef _ _ b .. => b
  | _ => []
noncomputable def fnScope : Stmt → Scope
  | .FunctionDef _ _ _ _ _ _ sc .. => sc
  | _ => default
noncomputable def rtSt : Stmt := inCls (stAt 21) 6
noncomputable def wlRT (L : Addr) : Code := match ((fnBody rtSt).drop 2).head? with
  | some (PySem.Stmt.While te b o _) => .whileLoop te b o (envOf "shlex.read_token" (fnScope rtSt) L 700 (.ref 699))
  | _ => .call .none {}
noncomputable abbrev rtCode (x : Addr) : Code := .call (.ref 700) ⟨[.ref x], []⟩
noncomputable abbrev turnCf (p : Params) (a : RtA) (fr : Obj) (u : Nat) (i : Int) (sh : Obj) (sz tk : Nat) : Cf := ⟨wlRT a.L, .base, (PT p).den (wlRT a.L), rtLed p a fr u i sh, sz, tk⟩
noncomputable def hRTA : List Nat := [0, 0, 1, 1, 0, 0, 1, 1, 1, 1, 1]
noncomputable def hRTT : List Nat := [1, 4, 0, 0, 0, 0, 4, 0, 0, 0, 0, 0, 0, 0, 0, 0, 0, 0, 0, 0, 0, 0, 1, 1, 0, 0, 1, 5, 0, 0, 0, 0, 5, 0, 0, 0, 5, 5, 0, 6, 0, 0, 0, 2, 5, 0, 0, 0, 0, 5, 0, 0, 0, 5, 5, 0, 6, 3, 0, 0, 0, 0, 0, 0, 0, 3, 0, 0, 0, 0, 0, 0, 0, 3, 0, 0, 0, 0, 3, 4, 0, 1]
noncomputable abbrev turn2 (p : Params) (a : RtA) (fr : Obj) (u : Nat) (i : Int) (sh : Obj) (sz tk : Nat) (v : Value) (u2 : Nat) (i2 : Int) (sz2 tk2 : Nat) : Cf :=
  after (runC (PT p) 400 (turnCf p a fr u i sh sz tk) { hs := hRTT }) (.ok (.ret v)) (fun led => put led 3 (ioDict p a.it u2 a.B i2)) sz2 tk2
noncomputable abbrev sg (c : Nat) : Str := ⟨#[c]⟩
noncomputable def eqS (x y : Str) : Bool := x.cps.toList == y.cps.toList
noncomputable def inS (h n : Str) : Bool := !(PySem.W.Fast.tw15715988071286343644 h n 0 h.length 1).isEmpty
noncomputable abbrev prT (n : Nat) (cf : Cf) := (cf.t, cf.κ, cf.led.drop n)
noncomputable def strTok : Nat → Nat := fun n => n
theorem rtA1 (w : World) (b₁ b₂ : Bool) (a : RtA) (sz tk u : Nat) (i : Int) (sh : Obj) :
    SegOk (PT (wB w b₁ b₂).params) 200 (⟨rtCode a.x, .base, (PT (wB w b₁ b₂).params).den (rtCode a.x), shLed (wB w b₁ b₂).params a u i sh, sz, tk⟩) hRTA (fun cf => (callOf cf.t, lowC cf, cf.sz, cf.led)) [] []
    (some (wlRT sz, none), true, sz + 1, (sz, frObj (wB w b₁ b₂).params { a with ft := fun n => match n with | 0 => tk | 1 => tk + 1 | 2 => tk + 3 | _ => tk + 2 } false [] 3) :: shLed (wB w b₁ b₂).params a u i sh) := by
  kernel_rfl
theorem rtT1 (w : World) (b₁ b₂ : Bool) (a : RtA) (q : Bool) (nc : List DictEntry) (e sz tk u lt : Nat) (i ln : Int) (st tok : Value) :
    SegOk (PT (wB w b₁ b₂).params) 400 (turnCf (wB w b₁ b₂).params a (frObj (wB w b₁ b₂).params a q nc e) u i (shDict (wB w b₁ b₂).params a st tok ln lt) sz tk) hRTT (fun cf => (callOf cf.t, lowC cf, cf.led.drop 1)) [] []
    (some (readCode a.y (tk + 6), none), true, rtLed (wB w b₁ b₂).params a (frObj (wB w b₁ b₂).params a q nc e) u i (shDict (wB w b₁ b₂).params a st tok ln lt)) := by
  kernel_rfl
noncomputable def hRTF1 : List Nat := [2, 2, 2, 0, 0, 0, 2, 5, 0, 0, 0, 0, 5, 0, 0, 0, 5, 5, 0, 6, 0, 0, 0, 2, 5, 0, 0, 0, 0, 5, 0, 0, 0, 5, 5, 0, 6, 2, 5, 0, 0, 0, 0, 5, 0, 0, 0, 5, 5, 0, 6, 0, 0, 0, 2, 0, 0, 0, 2, 2, 5, 0, 0, 0, 0, 5, 0, 0, 0, 5, 5, 0, 6, 0, 0, 0, 2, 2, 5, 0, 0, 0, 0, 5, 0, 0, 0, 5, 5, 0, 6, 0, 0, 0, 2, 5, 0, 0, 0, 0, 5, 0, 0, 0, 5, 5, 0, 6, 0, 2, 2, 5, 0, 0, 0, 0, 5, 0, 0, 0, 5, 5, 0, 6, 0, 0, 0, 2, 2, 5, 0, 0, 0, 0, 5, 0, 0, 0, 5, 5, 0, 6, 0, 0, 0, 2, 2, 5, 0, 0, 0, 0, 5, 0, 0, 0, 0, 0, 0, 0, 0, 0, 0, 0, 0, 0, 0, 0, 1, 1, 0, 0, 1, 6, 0, 0, 0, 0, 6, 0, 0, 0, 6, 6, 0, 7, 0, 0, 0, 3, 3, 6, 0, 0, 0, 0, 6, 0, 0, 0, 6, 6, 0, 7, 0, 0, 0, 3, 6, 0, 0, 0, 0, 6, 0, 0, 0, 6, 6, 0, 7, 0, 3, 3, 6, 0, 0, 0, 0, 6, 0, 0, 6, 0, 6, 0, 0, 0, 6, 0, 7, 7, 7, 9]
theorem rtF11 (w : World) (b₁ b₂ : Bool) (a : RtA) (sz tk sz2 tk2 u u2 lt ts tt tc nk : Nat) (i i2 ln : Int) (nv : Value) (T : Str) (c d0 d1 d2 d3 d4 d5 : Nat) (q : Bool) :
    SegOk (PT (wB w b₁ b₂).params) 900 (turn2 (wB w b₁ b₂).params a (frObj (wB w b₁ b₂).params a false [] 3) u i (shDict (wB w b₁ b₂).params a (.str (sg 32) ts) (.str ⟨#[]⟩ tt) ln lt) sz tk (.str (sg 39) tc) u2 i2 sz2 tk2) hRTF1 (prT 2) [] []
    ((.pure (.again (wlRT a.L)), .base, rtLed (wB w b₁ b₂).params a (frObj (wB w b₁ b₂).params a false [dE (wB w b₁ b₂).params "nextchar" tk2 (.str (sg 39) tc)] 4) u2 i2 (shDict (wB w b₁ b₂).params a (.str (sg 39) tc) (.str ⟨#[]⟩ tt) ln lt))) := by
  cases b₁ <;> kernel_rfl
noncomputable def hRTF2w : List Nat := [2, 2, 2, 0, 0, 1, 2, 5, 0, 0, 0, 0, 5, 0, 0, 0, 5, 5, 0, 6, 0, 0, 0, 2, 5, 0, 0, 0, 0, 5, 0, 0, 0, 5, 5, 0, 6, 2, 5, 0, 0, 0, 0, 5, 0, 0, 0, 5, 5, 0, 6, 0, 0, 0, 2, 0, 0, 0, 2, 2, 5, 0, 0, 0, 0, 5, 0, 0, 0, 5, 5, 0, 6, 0, 0, 1, 2, 2, 5, 0, 0, 0, 0, 5, 0, 0, 0, 5, 5, 0, 6, 0, 0, 1, 2, 5, 0, 0, 0, 0, 5, 0, 0, 0, 5, 5, 0, 6, 0, 2, 2, 5, 0, 0, 0, 0, 5, 0, 0, 0, 5, 5, 0, 6, 0, 0, 1, 2, 2, 5, 0, 0, 0, 0, 5, 0, 0, 0, 5, 5, 0, 6, 0, 0, 2, 2, 2, 5, 0, 0, 0, 0, 5, 0, 0, 5, 0, 5, 0, 0, 0, 5, 0, 6, 6, 6, 2, 5, 0, 0, 0, 0, 5, 0, 0, 5, 0, 5, 0, 0, 0, 5, 0, 6, 6, 6, 9]
theorem rtF2w1 (w : World) (b₁ b₂ : Bool) (a : RtA) (sz tk sz2 tk2 u u2 lt ts tt tc nk : Nat) (i i2 ln : Int) (nv : Value) (T : Str) (c d0 d1 d2 d3 d4 d5 : Nat) (q : Bool) :
    SegOk (PT (wB w b₁ b₂).params) 900 (turn2 (wB w b₁ b₂).params a (frObj (wB w b₁ b₂).params a false [] 3) u i (shDict (wB w b₁ b₂).params a (.str (sg 32) ts) (.str ⟨#[]⟩ tt) ln lt) sz tk (.str (sg c) tc) u2 i2 sz2 tk2) hRTF2w (prT 1) [inS shWord (sg c), inS "\\" (sg c), inS "" (sg c), inS " \t\x0d\n" (sg c), eqS (sg c) "\n"] [true, false, false, false, false]
    ((.pure (.again (wlRT a.L)), .base, rtLed (wB w b₁ b₂).params a (frObj (wB w b₁ b₂).params a false [dE (wB w b₁ b₂).params "nextchar" tk2 (.str (sg c) tc)] 4) u2 i2 (shDict (wB w b₁ b₂).params a (.str (sg 97) (tk2 + 16)) (.str (sg c) tc) ln lt))) := by
  cases b₁ <;> kernel_rfl
noncomputable def hRTF2n : List Nat := [2, 2, 2, 0, 0, 1, 2, 5, 0, 0, 0, 0, 5, 0, 0, 0, 5, 5, 0, 6, 0, 0, 0, 2, 5, 0, 0, 0, 0, 5, 0, 0, 0, 5, 5, 0, 6, 2, 5, 0, 0, 0, 0, 5, 0, 0, 0, 5, 5, 0, 6, 0, 0, 0, 2, 0, 0, 0, 2, 2, 5, 0, 0, 0, 0, 5, 0, 0, 0, 5, 5, 0, 6, 0, 0, 1, 2, 2, 5, 0, 0, 0, 0, 5, 0, 0, 0, 5, 5, 0, 6, 0, 0, 1, 2, 5, 0, 0, 0, 0, 5, 0, 0, 0, 5, 5, 0, 6, 0, 2, 2, 5, 0, 0, 0, 0, 5, 0, 0, 0, 5, 5, 0, 6, 0, 0, 1, 2, 2, 5, 0, 0, 0, 0, 5, 0, 0, 0, 5, 5, 0, 6, 0, 0, 1, 2, 2, 5, 0, 0, 0, 0, 5, 0, 0, 0, 0, 0, 0, 0, 0, 0, 0, 0, 0, 0, 0, 0, 1, 1, 0, 0, 1, 6, 0, 0, 0, 0, 6, 0, 0, 0, 6, 6, 0, 7, 0, 0, 1, 3, 3, 6, 0, 0, 0, 0, 6, 0, 0, 0, 6, 6, 0, 7, 0, 0, 1, 3, 6, 0, 0, 0, 0, 6, 0, 0, 0, 6, 6, 0, 7, 0, 3, 3, 6, 0, 0, 0, 0, 6, 0, 0, 6, 0, 6, 0, 0, 0, 6, 0, 7, 7, 7, 3, 6, 0, 0, 0, 0, 6, 0, 0, 6, 0, 6, 0, 0, 0, 6, 0, 7, 7, 7, 9]
theorem rtF2n1 (w : World) (b₁ b₂ : Bool) (a : RtA) (sz tk sz2 tk2 u u2 lt ts tt tc nk : Nat) (i i2 ln : Int) (nv : Value) (T : Str) (c d0 d1 d2 d3 d4 d5 : Nat) (q : Bool) :
    SegOk (PT (wB w b₁ b₂).params) 900 (turn2 (wB w b₁ b₂).params a (frObj (wB w b₁ b₂).params a false [] 3) u i (shDict (wB w b₁ b₂).params a (.str (sg 32) ts) (.str ⟨#[]⟩ tt) ln lt) sz tk (.str (sg c) tc) u2 i2 sz2 tk2) hRTF2n (prT 2) [inS "'\"" (sg c), inS "" (sg c), inS shWord (sg c), inS "\\" (sg c), inS "" (sg c), inS " \t\x0d\n" (sg c), eqS (sg c) "\n"] [false, false, false, false, false, false, false]
    ((.pure (.again (wlRT a.L)), .base, rtLed (wB w b₁ b₂).params a (frObj (wB w b₁ b₂).params a false [dE (wB w b₁ b₂).params "nextchar" tk2 (.str (sg c) tc)] 4) u2 i2 (shDict (wB w b₁ b₂).params a (.str (sg 97) (tk2 + 21)) (.str (sg c) tc) ln lt))) := by
  cases b₁ <;> kernel_rfl
noncomputable def hRTF3 : List Nat := [2, 2, 2, 0, 0, 0, 2, 5, 0, 0, 0, 0, 5, 0, 0, 0, 5, 5, 0, 6, 0, 0, 0, 2, 5, 0, 0, 0, 0, 5, 0, 0, 0, 5, 5, 0, 6, 2, 5, 0, 0, 0, 0, 5, 0, 0, 5, 0, 5, 0, 0, 0, 5, 0, 6, 6, 6]
theorem rtF31 (w : World) (b₁ b₂ : Bool) (a : RtA) (sz tk sz2 tk2 u u2 lt ts tt tc nk : Nat) (i i2 ln : Int) (nv : Value) (T : Str) (c d0 d1 d2 d3 d4 d5 : Nat) (q : Bool) :
    SegOk (PT (wB w b₁ b₂).params) 900 (turn2 (wB w b₁ b₂).params a (frObj (wB w b₁ b₂).params a false [] 3) u i (shDict (wB w b₁ b₂).params a .none (.str ⟨#[]⟩ tt) ln lt) sz tk (.str ⟨#[]⟩ tc) u2 i2 sz2 tk2) hRTF3 (prT 1) [] []
    ((.pure (.done .next), .base, rtLed (wB w b₁ b₂).params a (frObj (wB w b₁ b₂).params a false [dE (wB w b₁ b₂).params "nextchar" tk2 (.str ⟨#[]⟩ tc)] 4) u2 i2 (shDict (wB w b₁ b₂).params a .none (.str ⟨#[]⟩ (tk2 + 5)) ln lt))) := by
  cases b₁ <;> kernel_rfl
noncomputable def hRTL1 : List Nat := [2, 2, 2, 0, 0, 1, 2, 5, 0, 0, 0, 0, 5, 0, 0, 0, 5, 5, 0, 6, 0, 0, 0, 2, 5, 0, 0, 0, 0, 5, 0, 0, 0, 5, 5, 0, 6, 2, 5, 0, 0, 0, 0, 5, 0, 0, 0, 5, 5, 0, 6, 0, 0, 0, 2, 5, 0, 0, 0, 0, 5, 0, 0, 0, 5, 5, 0, 6, 2, 5, 0, 0, 0, 0, 5, 0, 0, 0, 5, 5, 0, 6, 0, 0, 0, 2, 2, 2, 0, 0, 0, 2, 2, 5, 0, 0, 0, 0, 5, 0, 0, 0, 5, 5, 0, 6, 0, 0, 1, 2, 5, 0, 0, 0, 0, 5, 0, 0, 0, 5, 5, 0, 6, 0, 2, 2, 5, 0, 0, 0, 0, 5, 0, 0, 0, 5, 5, 0, 6, 0, 0, 1, 2, 5, 0, 0, 0, 0, 5, 0, 0, 0, 5, 5, 0, 6, 2, 3, 5, 0, 0, 0, 0, 5, 0, 0, 5, 0, 5, 0, 0, 0, 5, 0, 6, 6, 6, 9]
theorem rtL11 (w : World) (b₁ b₂ : Bool) (a : RtA) (sz tk sz2 tk2 u u2 lt ts tt tc nk : Nat) (i i2 ln : Int) (nv : Value) (T : Str) (c d0 d1 d2 d3 d4 d5 : Nat) (q : Bool) :
    SegOk (PT (wB w b₁ b₂).params) 900 (turn2 (wB w b₁ b₂).params a (frObj (wB w b₁ b₂).params a q [dE (wB w b₁ b₂).params "nextchar" nk nv] 4) u i (shDict (wB w b₁ b₂).params a (.str (sg 39) ts) (.str T tt) ln lt) sz tk (.str (sg c) tc) u2 i2 sz2 tk2) hRTL1 (prT 1) [Nat.ble (T ++ sg c).length sizeLine, inS "\\" (sg c), eqS (sg c) (sg 39), eqS (sg c) "\n"] [true, false, false, false]
    ((.pure (.again (wlRT a.L)), .base, rtLed (wB w b₁ b₂).params a (frObj (wB w b₁ b₂).params a true [dE (wB w b₁ b₂).params "nextchar" nk (.str (sg c) tc)] 4) u2 i2 (shDict (wB w b₁ b₂).params a (.str (sg 39) ts) (.str (T ++ sg c) (if T.length == 0 then tc else if (sg c).length == 0 then tt else tk2 + 16)) ln lt))) := by
  cases b₁ <;> kernel_rfl
noncomputable def hRTL1n : List Nat := [2, 2, 2, 0, 0, 0, 2, 5, 0, 0, 0, 0, 5, 0, 0, 0, 5, 5, 0, 6, 0, 0, 5, 0, 0, 0, 0, 5, 0, 0, 5, 0, 5, 0, 0, 0, 5, 0, 6, 6, 6, 2, 5, 0, 0, 0, 0, 5, 0, 0, 0, 5, 5, 0, 6, 0, 0, 0, 2, 5, 0, 0, 0, 0, 5, 0, 0, 0, 5, 5, 0, 6, 2, 5, 0, 0, 0, 0, 5, 0, 0, 0, 5, 5, 0, 6, 0, 0, 0, 2, 5, 0, 0, 0, 0, 5, 0, 0, 0, 5, 5, 0, 6, 2, 5, 0, 0, 0, 0, 5, 0, 0, 0, 5, 5, 0, 6, 0, 0, 0, 2, 2, 2, 0, 0, 0, 2, 2, 5, 0, 0, 0, 0, 5, 0, 0, 0, 5, 5, 0, 6, 0, 0, 0, 2, 5, 0, 0, 0, 0, 5, 0, 0, 0, 5, 5, 0, 6, 0, 2, 2, 5, 0, 0, 0, 0, 5, 0, 0, 0, 5, 5, 0, 6, 0, 0, 0, 2, 5, 0, 0, 0, 0, 5, 0, 0, 0, 5, 5, 0, 6, 2, 3, 5, 0, 0, 0, 0, 5, 0, 0, 5, 0, 5, 0, 0, 0, 5, 0, 6, 6, 6, 9]
theorem rtL1n1 (w : World) (b₁ b₂ : Bool) (a : RtA) (sz tk sz2 tk2 u u2 lt ts tt tc nk : Nat) (i i2 ln : Int) (nv : Value) (T : Str) (c d0 d1 d2 d3 d4 d5 : Nat) (q : Bool) :
    SegOk (PT (wB w b₁ b₂).params) 900 (turn2 (wB w b₁ b₂).params a (frObj (wB w b₁ b₂).params a q [dE (wB w b₁ b₂).params "nextchar" nk nv] 4) u i (shDict (wB w b₁ b₂).params a (.str (sg 39) ts) (.str T tt) ln lt) sz tk (.str (sg 10) tc) u2 i2 sz2 tk2) hRTL1n (prT 1) [Nat.ble (T ++ sg 10).length sizeLine] [true]
    ((.pure (.again (wlRT a.L)), .base, rtLed (wB w b₁ b₂).params a (frObj (wB w b₁ b₂).params a true [dE (wB w b₁ b₂).params "nextchar" nk (.str (sg 10) tc)] 4) u2 i2 (shDict (wB w b₁ b₂).params a (.str (sg 39) ts) (.str (T ++ sg 10) (if T.length == 0 then tc else if (sg 10).length == 0 then tt else tk2 + 21)) (ln + 1) (tk2 + 4)))) := by
  cases b₁ <;> kernel_rfl
noncomputable def hRTL1b : List Nat := [2, 2, 2, 0, 0, 0, 2, 5, 0, 0, 0, 0, 5, 0, 0, 0, 5, 5, 0, 6, 0, 0, 0, 2, 5, 0, 0, 0, 0, 5, 0, 0, 0, 5, 5, 0, 6, 2, 5, 0, 0, 0, 0, 5, 0, 0, 0, 5, 5, 0, 6, 0, 0, 0, 2, 5, 0, 0, 0, 0, 5, 0, 0, 0, 5, 5, 0, 6, 2, 5, 0, 0, 0, 0, 5, 0, 0, 0, 5, 5, 0, 6, 0, 0, 0, 2, 2, 2, 0, 0, 0, 2, 2, 5, 0, 0, 0, 0, 5, 0, 0, 0, 5, 5, 0, 6, 0, 0, 0, 2, 5, 0, 0, 0, 0, 5, 0, 0, 0, 5, 5, 0, 6, 0, 2, 2, 5, 0, 0, 0, 0, 5, 0, 0, 0, 5, 5, 0, 6, 0, 0, 0, 2, 5, 0, 0, 0, 0, 5, 0, 0, 0, 5, 5, 0, 6, 2, 5, 0, 0, 0, 0, 5, 0, 0, 0, 5, 5, 0, 6, 0, 0, 0, 2, 5, 0, 0, 0, 0, 5, 0, 0, 0, 5, 5, 0, 6, 2, 3, 5, 0, 0, 0, 0, 5, 0, 0, 5, 0, 5, 0, 0, 0, 5, 0, 6, 6, 6, 9]
theorem rtL1b1 (w : World) (b₁ b₂ : Bool) (a : RtA) (sz tk sz2 tk2 u u2 lt ts tt tc nk : Nat) (i i2 ln : Int) (nv : Value) (T : Str) (c d0 d1 d2 d3 d4 d5 : Nat) (q : Bool) :
    SegOk (PT (wB w b₁ b₂).params) 900 (turn2 (wB w b₁ b₂).params a (frObj (wB w b₁ b₂).params a q [dE (wB w b₁ b₂).params "nextchar" nk nv] 4) u i (shDict (wB w b₁ b₂).params a (.str (sg 39) ts) (.str T tt) ln lt) sz tk (.str (sg 92) tc) u2 i2 sz2 tk2) hRTL1b (prT 1) [Nat.ble (T ++ sg 92).length sizeLine] [true]
    ((.pure (.again (wlRT a.L)), .base, rtLed (wB w b₁ b₂).params a (frObj (wB w b₁ b₂).params a true [dE (wB w b₁ b₂).params "nextchar" nk (.str (sg 92) tc)] 4) u2 i2 (shDict (wB w b₁ b₂).params a (.str (sg 39) ts) (.str (T ++ sg 92) (if T.length == 0 then tc else if (sg 92).length == 0 then tt else tk2 + 18)) ln lt))) := by
  cases b₁ <;> kernel_rfl
noncomputable def hRTL2 : List Nat := [2, 2, 2, 0, 0, 0, 2, 5, 0, 0, 0, 0, 5, 0, 0, 0, 5, 5, 0, 6, 0, 0, 0, 2, 5, 0, 0, 0, 0, 5, 0, 0, 0, 5, 5, 0, 6, 2, 5, 0, 0, 0, 0, 5, 0, 0, 0, 5, 5, 0, 6, 0, 0, 0, 2, 5, 0, 0, 0, 0, 5, 0, 0, 0, 5, 5, 0, 6, 2, 5, 0, 0, 0, 0, 5, 0, 0, 0, 5, 5, 0, 6, 0, 0, 0, 2, 2, 2, 0, 0, 0, 2, 2, 5, 0, 0, 0, 0, 5, 0, 0, 0, 5, 5, 0, 6, 0, 0, 0, 2, 5, 0, 0, 0, 0, 5, 0, 0, 0, 5, 5, 0, 6, 0, 2, 5, 0, 0, 0, 0, 5, 0, 0, 5, 0, 5, 0, 0, 0, 5, 0, 6, 6, 6, 9]
theorem rtL21 (w : World) (b₁ b₂ : Bool) (a : RtA) (sz tk sz2 tk2 u u2 lt ts tt tc nk : Nat) (i i2 ln : Int) (nv : Value) (T : Str) (c d0 d1 d2 d3 d4 d5 : Nat) (q : Bool) :
    SegOk (PT (wB w b₁ b₂).params) 900 (turn2 (wB w b₁ b₂).params a (frObj (wB w b₁ b₂).params a q [dE (wB w b₁ b₂).params "nextchar" nk nv] 4) u i (shDict (wB w b₁ b₂).params a (.str (sg 39) ts) (.str T tt) ln lt) sz tk (.str (sg 39) tc) u2 i2 sz2 tk2) hRTL2 (prT 1) [] []
    ((.pure (.again (wlRT a.L)), .base, rtLed (wB w b₁ b₂).params a (frObj (wB w b₁ b₂).params a true [dE (wB w b₁ b₂).params "nextchar" nk (.str (sg 39) tc)] 4) u2 i2 (shDict (wB w b₁ b₂).params a (.str (sg 97) (tk2 + 14)) (.str T tt) ln lt))) := by
  cases b₁ <;> kernel_rfl
noncomputable def hRTL3 : List Nat := [2, 2, 2, 0, 0, 0, 2, 5, 0, 0, 0, 0, 5, 0, 0, 0, 5, 5, 0, 6, 0, 0, 0, 2, 5, 0, 0, 0, 0, 5, 0, 0, 0, 5, 5, 0, 6, 2, 5, 0, 0, 0, 0, 5, 0, 0, 0, 5, 5, 0, 6, 0, 0, 0, 2, 5, 0, 0, 0, 0, 5, 0, 0, 0, 5, 5, 0, 6, 2, 5, 0, 0, 0, 0, 5, 0, 0, 0, 5, 5, 0, 6, 0, 0, 0, 2, 5, 0, 0, 0, 0, 5, 0, 0, 0, 5, 5, 0, 6, 2, 5, 0, 0, 0, 0, 5, 0, 0, 0, 5, 5, 0, 6, 0, 0, 0, 2, 5, 0, 0, 0, 0, 5, 0, 0, 0, 5, 5, 0, 6, 1, 1, 8, 3, 0, 0, 0, 3, 6, 0, 0, 0, 0, 6, 0, 0, 6, 0, 6, 0, 0, 0, 6, 0, 7, 7, 7]
theorem rtL31 (w : World) (b₁ b₂ : Bool) (a : RtA) (sz tk sz2 tk2 u u2 lt ts tt tc nk : Nat) (i i2 ln : Int) (nv : Value) (T : Str) (c d0 d1 d2 d3 d4 d5 : Nat) (q : Bool) :
    SegOk (PT (wB w b₁ b₂).params) 900 (turn2 (wB w b₁ b₂).params a (frObj (wB w b₁ b₂).params a q [dE (wB w b₁ b₂).params "nextchar" nk nv] 4) u i (shDict (wB w b₁ b₂).params a (.str (sg 97) ts) (.str T tt) ln lt) sz tk (.str ⟨#[]⟩ tc) u2 i2 sz2 tk2) hRTL3 (prT 2) [] []
    ((.pure (.done .next), .base, rtLed (wB w b₁ b₂).params a (frObj (wB w b₁ b₂).params a q [dE (wB w b₁ b₂).params "nextchar" nk (.str ⟨#[]⟩ tc)] 4) u2 i2 (shDict (wB w b₁ b₂).params a .none (.str T tt) ln lt))) := by
  cases b₁ <;> kernel_rfl
noncomputable def hRTL4x1 : List Nat := [2, 2, 2, 0, 0, 0, 2, 5, 0, 0, 0, 0, 5, 0, 0, 0, 5, 5, 0, 6, 0, 0, 0, 2, 5, 0, 0, 0, 0, 5, 0, 0, 0, 5, 5, 0, 6, 2, 5, 0, 0, 0, 0, 5, 0, 0, 0, 5, 5, 0, 6, 0, 0, 0, 2, 5, 0, 0, 0, 0, 5, 0, 0, 0, 5, 5, 0, 6, 2, 5, 0, 0, 0, 0, 5, 0, 0, 0, 5, 5, 0, 6, 0, 0, 0, 2, 5, 0, 0, 0, 0, 5, 0, 0, 0, 5, 5, 0, 6, 2, 5, 0, 0, 0, 0, 5, 0, 0, 0, 5, 5, 0, 6, 0, 0, 0, 2, 5, 0, 0, 0, 0, 5, 0, 0, 0, 5, 5, 0, 6, 1, 1, 8, 3, 0, 0, 0, 3, 3, 6, 0, 0, 0, 0, 6, 0, 0, 0, 6, 6, 0, 7, 0, 0, 0, 3, 6, 0, 0, 0, 0, 6, 0, 0, 0, 6, 6, 0, 7, 0, 0, 0, 3, 6, 0, 0, 0, 0, 6, 0, 0, 6, 0, 6, 0, 0, 0, 6, 0, 7, 7, 7, 3, 6, 0, 0, 0, 0, 6, 0, 0, 0, 6, 6, 0, 7, 0, 0, 0]
theorem rtL4x11 (w : World) (b₁ b₂ : Bool) (a : RtA) (sz tk sz2 tk2 u u2 lt ts tt tc nk : Nat) (i i2 ln : Int) (nv : Value) (T : Str) (c d0 d1 d2 d3 d4 d5 : Nat) (q : Bool) :
    SegOk (PT (wB w b₁ b₂).params) 900 (turn2 (wB w b₁ b₂).params a (frObj (wB w b₁ b₂).params a q [dE (wB w b₁ b₂).params "nextchar" nk nv] 4) u i (shDict (wB w b₁ b₂).params a (.str (sg 97) ts) (.str ⟨#[d0]⟩ tt) ln lt) sz tk (.str (sg 32) tc) u2 i2 sz2 tk2) hRTL4x1 (prT 2) [] []
    ((.pure (.done .next), .base, rtLed (wB w b₁ b₂).params a (frObj (wB w b₁ b₂).params a q [dE (wB w b₁ b₂).params "nextchar" nk (.str (sg 32) tc)] 4) u2 i2 (shDict (wB w b₁ b₂).params a (.str (sg 32) (tk2 + 19)) (.str ⟨#[d0]⟩ tt) ln lt))) := by
  cases b₁ <;> kernel_rfl
noncomputable def hRTL4x2 : List Nat := [2, 2, 2, 0, 0, 0, 2, 5, 0, 0, 0, 0, 5, 0, 0, 0, 5, 5, 0, 6, 0, 0, 0, 2, 5, 0, 0, 0, 0, 5, 0, 0, 0, 5, 5, 0, 6, 2, 5, 0, 0, 0, 0, 5, 0, 0, 0, 5, 5, 0, 6, 0, 0, 0, 2, 5, 0, 0, 0, 0, 5, 0, 0, 0, 5, 5, 0, 6, 2, 5, 0, 0, 0, 0, 5, 0, 0, 0, 5, 5, 0, 6, 0, 0, 0, 2, 5, 0, 0, 0, 0, 5, 0, 0, 0, 5, 5, 0, 6, 2, 5, 0, 0, 0, 0, 5, 0, 0, 0, 5, 5, 0, 6, 0, 0, 0, 2, 5, 0, 0, 0, 0, 5, 0, 0, 0, 5, 5, 0, 6, 1, 1, 8, 3, 0, 0, 0, 3, 3, 6, 0, 0, 0, 0, 6, 0, 0, 0, 6, 6, 0, 7, 0, 0, 0, 3, 6, 0, 0, 0, 0, 6, 0, 0, 0, 6, 6, 0, 7, 0, 0, 0, 3, 6, 0, 0, 0, 0, 6, 0, 0, 6, 0, 6, 0, 0, 0, 6, 0, 7, 7, 7, 3, 6, 0, 0, 0, 0, 6, 0, 0, 0, 6, 6, 0, 7, 0, 0, 0]
theorem rtL4x21 (w : World) (b₁ b₂ : Bool) (a : RtA) (sz tk sz2 tk2 u u2 lt ts tt tc nk : Nat) (i i2 ln : Int) (nv : Value) (T : Str) (c d0 d1 d2 d3 d4 d5 : Nat) (q : Bool) :
    SegOk (PT (wB w b₁ b₂).params) 900 (turn2 (wB w b₁ b₂).params a (frObj (wB w b₁ b₂).params a q [dE (wB w b₁ b₂).params "nextchar" nk nv] 4) u i (shDict (wB w b₁ b₂).params a (.str (sg 97) ts) (.str ⟨#[d0, d1]⟩ tt) ln lt) sz tk (.str (sg 32) tc) u2 i2 sz2 tk2) hRTL4x2 (prT 2) [] []
    ((.pure (.done .next), .base, rtLed (wB w b₁ b₂).params a (frObj (wB w b₁ b₂).params a q [dE (wB w b₁ b₂).params "nextchar" nk (.str (sg 32) tc)] 4) u2 i2 (shDict (wB w b₁ b₂).params a (.str (sg 32) (tk2 + 19)) (.str ⟨#[d0, d1]⟩ tt) ln lt))) := by
  cases b₁ <;> kernel_rfl
noncomputable def hRTL4x3 : List Nat := [2, 2, 2, 0, 0, 0, 2, 5, 0, 0, 0, 0, 5, 0, 0, 0, 5, 5, 0, 6, 0, 0, 0, 2, 5, 0, 0, 0, 0, 5, 0, 0, 0, 5, 5, 0, 6, 2, 5, 0, 0, 0, 0, 5, 0, 0, 0, 5, 5, 0, 6, 0, 0, 0, 2, 5, 0, 0, 0, 0, 5, 0, 0, 0, 5, 5, 0, 6, 2, 5, 0, 0, 0, 0, 5, 0, 0, 0, 5, 5, 0, 6, 0, 0, 0, 2, 5, 0, 0, 0, 0, 5, 0, 0, 0, 5, 5, 0, 6, 2, 5, 0, 0, 0, 0, 5, 0, 0, 0, 5, 5, 0, 6, 0, 0, 0, 2, 5, 0, 0, 0, 0, 5, 0, 0, 0, 5, 5, 0, 6, 1, 1, 8, 3, 0, 0, 0, 3, 3, 6, 0, 0, 0, 0, 6, 0, 0, 0, 6, 6, 0, 7, 0, 0, 0, 3, 6, 0, 0, 0, 0, 6, 0, 0, 0, 6, 6, 0, 7, 0, 0, 0, 3, 6, 0, 0, 0, 0, 6, 0, 0, 6, 0, 6, 0, 0, 0, 6, 0, 7, 7, 7, 3, 6, 0, 0, 0, 0, 6, 0, 0, 0, 6, 6, 0, 7, 0, 0, 0]
theorem rtL4x31 (w : World) (b₁ b₂ : Bool) (a : RtA) (sz tk sz2 tk2 u u2 lt ts tt tc nk : Nat) (i i2 ln : Int) (nv : Value) (T : Str) (c d0 d1 d2 d3 d4 d5 : Nat) (q : Bool) :
    SegOk (PT (wB w b₁ b₂).params) 900 (turn2 (wB w b₁ b₂).params a (frObj (wB w b₁ b₂).params a q [dE (wB w b₁ b₂).params "nextchar" nk nv] 4) u i (shDict (wB w b₁ b₂).params a (.str (sg 97) ts) (.str ⟨#[d0, d1, d2]⟩ tt) ln lt) sz tk (.str (sg 32) tc) u2 i2 sz2 tk2) hRTL4x3 (prT 2) [] []
    ((.pure (.done .next), .base, rtLed (wB w b₁ b₂).params a (frObj (wB w b₁ b₂).params a q [dE (wB w b₁ b₂).params "nextchar" nk (.str (sg 32) tc)] 4) u2 i2 (shDict (wB w b₁ b₂).params a (.str (sg 32) (tk2 + 19)) (.str ⟨#[d0, d1, d2]⟩ tt) ln lt))) := by
  cases b₁ <;> kernel_rfl
noncomputable def hRTL4x4 : List Nat := [2, 2, 2, 0, 0, 0, 2, 5, 0, 0, 0, 0, 5, 0, 0, 0, 5, 5, 0, 6, 0, 0, 0, 2, 5, 0, 0, 0, 0, 5, 0, 0, 0, 5, 5, 0, 6, 2, 5, 0, 0, 0, 0, 5, 0, 0, 0, 5, 5, 0, 6, 0, 0, 0, 2, 5, 0, 0, 0, 0, 5, 0, 0, 0, 5, 5, 0, 6, 2, 5, 0, 0, 0, 0, 5, 0, 0, 0, 5, 5, 0, 6, 0, 0, 0, 2, 5, 0, 0, 0, 0, 5, 0, 0, 0, 5, 5, 0, 6, 2, 5, 0, 0, 0, 0, 5, 0, 0, 0, 5, 5, 0, 6, 0, 0, 0, 2, 5, 0, 0, 0, 0, 5, 0, 0, 0, 5, 5, 0, 6, 1, 1, 8, 3, 0, 0, 0, 3, 3, 6, 0, 0, 0, 0, 6, 0, 0, 0, 6, 6, 0, 7, 0, 0, 0, 3, 6, 0, 0, 0, 0, 6, 0, 0, 0, 6, 6, 0, 7, 0, 0, 0, 3, 6, 0, 0, 0, 0, 6, 0, 0, 6, 0, 6, 0, 0, 0, 6, 0, 7, 7, 7, 3, 6, 0, 0, 0, 0, 6, 0, 0, 0, 6, 6, 0, 7, 0, 0, 0]
theorem rtL4x41 (w : World) (b₁ b₂ : Bool) (a : RtA) (sz tk sz2 tk2 u u2 lt ts tt tc nk : Nat) (i i2 ln : Int) (nv : Value) (T : Str) (c d0 d1 d2 d3 d4 d5 : Nat) (q : Bool) :
    SegOk (PT (wB w b₁ b₂).params) 900 (turn2 (wB w b₁ b₂).params a (frObj (wB w b₁ b₂).params a q [dE (wB w b₁ b₂).params "nextchar" nk nv] 4) u i (shDict (wB w b₁ b₂).params a (.str (sg 97) ts) (.str ⟨#[d0, d1, d2, d3]⟩ tt) ln lt) sz tk (.str (sg 32) tc) u2 i2 sz2 tk2) hRTL4x4 (prT 2) [] []
    ((.pure (.done .next), .base, rtLed (wB w b₁ b₂).params a (frObj (wB w b₁ b₂).params a q [dE (wB w b₁ b₂).params "nextchar" nk (.str (sg 32) tc)] 4) u2 i2 (shDict (wB w b₁ b₂).params a (.str (sg 32) (tk2 + 19)) (.str ⟨#[d0, d1, d2, d3]⟩ tt) ln lt))) := by
  cases b₁ <;> kernel_rfl
noncomputable def hRTL4x5 : List Nat := [2, 2, 2, 0, 0, 0, 2, 5, 0, 0, 0, 0, 5, 0, 0, 0, 5, 5, 0, 6, 0, 0, 0, 2, 5, 0, 0, 0, 0, 5, 0, 0, 0, 5, 5, 0, 6, 2, 5, 0, 0, 0, 0, 5, 0, 0, 0, 5, 5, 0, 6, 0, 0, 0, 2, 5, 0, 0, 0, 0, 5, 0, 0, 0, 5, 5, 0, 6, 2, 5, 0, 0, 0, 0, 5, 0, 0, 0, 5, 5, 0, 6, 0, 0, 0, 2, 5, 0, 0, 0, 0, 5, 0, 0, 0, 5, 5, 0, 6, 2, 5, 0, 0, 0, 0, 5, 0, 0, 0, 5, 5, 0, 6, 0, 0, 0, 2, 5, 0, 0, 0, 0, 5, 0, 0, 0, 5, 5, 0, 6, 1, 1, 8, 3, 0, 0, 0, 3, 3, 6, 0, 0, 0, 0, 6, 0, 0, 0, 6, 6, 0, 7, 0, 0, 0, 3, 6, 0, 0, 0, 0, 6, 0, 0, 0, 6, 6, 0, 7, 0, 0, 0, 3, 6, 0, 0, 0, 0, 6, 0, 0, 6, 0, 6, 0, 0, 0, 6, 0, 7, 7, 7, 3, 6, 0, 0, 0, 0, 6, 0, 0, 0, 6, 6, 0, 7, 0, 0, 0]
theorem rtL4x51 (w : World) (b₁ b₂ : Bool) (a : RtA) (sz tk sz2 tk2 u u2 lt ts tt tc nk : Nat) (i i2 ln : Int) (nv : Value) (T : Str) (c d0 d1 d2 d3 d4 d5 : Nat) (q : Bool) :
    SegOk (PT (wB w b₁ b₂).params) 900 (turn2 (wB w b₁ b₂).params a (frObj (wB w b₁ b₂).params a q [dE (wB w b₁ b₂).params "nextchar" nk nv] 4) u i (shDict (wB w b₁ b₂).params a (.str (sg 97) ts) (.str ⟨#[d0, d1, d2, d3, d4]⟩ tt) ln lt) sz tk (.str (sg 32) tc) u2 i2 sz2 tk2) hRTL4x5 (prT 2) [] []
    ((.pure (.done .next), .base, rtLed (wB w b₁ b₂).params a (frObj (wB w b₁ b₂).params a q [dE (wB w b₁ b₂).params "nextchar" nk (.str (sg 32) tc)] 4) u2 i2 (shDict (wB w b₁ b₂).params a (.str (sg 32) (tk2 + 19)) (.str ⟨#[d0, d1, d2, d3, d4]⟩ tt) ln lt))) := by
  cases b₁ <;> kernel_rfl
noncomputable def hRTL4x6 : List Nat := [2, 2, 2, 0, 0, 0, 2, 5, 0, 0, 0, 0, 5, 0, 0, 0, 5, 5, 0, 6, 0, 0, 0, 2, 5, 0, 0, 0, 0, 5, 0, 0, 0, 5, 5, 0, 6, 2, 5, 0, 0, 0, 0, 5, 0, 0, 0, 5, 5, 0, 6, 0, 0, 0, 2, 5, 0, 0, 0, 0, 5, 0, 0, 0, 5, 5, 0, 6, 2, 5, 0, 0, 0, 0, 5, 0, 0, 0, 5, 5, 0, 6, 0, 0, 0, 2, 5, 0, 0, 0, 0, 5, 0, 0, 0, 5, 5, 0, 6, 2, 5, 0, 0, 0, 0, 5, 0, 0, 0, 5, 5, 0, 6, 0, 0, 0, 2, 5, 0, 0, 0, 0, 5, 0, 0, 0, 5, 5, 0, 6, 1, 1, 8, 3, 0, 0, 0, 3, 3, 6, 0, 0, 0, 0, 6, 0, 0, 0, 6, 6, 0, 7, 0, 0, 0, 3, 6, 0, 0, 0, 0, 6, 0, 0, 0, 6, 6, 0, 7, 0, 0, 0, 3, 6, 0, 0, 0, 0, 6, 0, 0, 6, 0, 6, 0, 0, 0, 6, 0, 7, 7, 7, 3, 6, 0, 0, 0, 0, 6, 0, 0, 0, 6, 6, 0, 7, 0, 0, 0]
theorem rtL4x61 (w : World) (b₁ b₂ : Bool) (a : RtA) (sz tk sz2 tk2 u u2 lt ts tt tc nk : Nat) (i i2 ln : Int) (nv : Value) (T : Str) (c d0 d1 d2 d3 d4 d5 : Nat) (q : Bool) :
    SegOk (PT (wB w b₁ b₂).params) 900 (turn2 (wB w b₁ b₂).params a (frObj (wB w b₁ b₂).params a q [dE (wB w b₁ b₂).params "nextchar" nk nv] 4) u i (shDict (wB w b₁ b₂).params a (.str (sg 97) ts) (.str ⟨#[d0, d1, d2, d3, d4, d5]⟩ tt) ln lt) sz tk (.str (sg 32) tc) u2 i2 sz2 tk2) hRTL4x6 (prT 2) [] []
    ((.pure (.done .next), .base, rtLed (wB w b₁ b₂).params a (frObj (wB w b₁ b₂).params a q [dE (wB w b₁ b₂).params "nextchar" nk (.str (sg 32) tc)] 4) u2 i2 (shDict (wB w b₁ b₂).params a (.str (sg 32) (tk2 + 19)) (.str ⟨#[d0, d1, d2, d3, d4, d5]⟩ tt) ln lt))) := by
  cases b₁ <;> kernel_rfl
noncomputable def hRTL4e : List Nat := [2, 2, 2, 0, 0, 0, 2, 5, 0, 0, 0, 0, 5, 0, 0, 0, 5, 5, 0, 6, 0, 0, 0, 2, 5, 0, 0, 0, 0, 5, 0, 0, 0, 5, 5, 0, 6, 2, 5, 0, 0, 0, 0, 5, 0, 0, 0, 5, 5, 0, 6, 0, 0, 0, 2, 5, 0, 0, 0, 0, 5, 0, 0, 0, 5, 5, 0, 6, 2, 5, 0, 0, 0, 0, 5, 0, 0, 0, 5, 5, 0, 6, 0, 0, 0, 2, 5, 0, 0, 0, 0, 5, 0, 0, 0, 5, 5, 0, 6, 2, 5, 0, 0, 0, 0, 5, 0, 0, 0, 5, 5, 0, 6, 0, 0, 0, 2, 5, 0, 0, 0, 0, 5, 0, 0, 0, 5, 5, 0, 6, 1, 1, 8, 3, 0, 0, 0, 3, 3, 6, 0, 0, 0, 0, 6, 0, 0, 0, 6, 6, 0, 7, 0, 0, 0, 3, 6, 0, 0, 0, 0, 6, 0, 0, 0, 6, 6, 0, 7, 0, 0, 0, 3, 6, 0, 0, 0, 0, 6, 0, 0, 6, 0, 6, 0, 0, 0, 6, 0, 7, 7, 7, 3, 6, 0, 0, 0, 0, 6, 0, 0, 0, 6, 6, 0, 7, 0, 0, 0, 3, 6, 0, 0, 0, 0, 6, 0, 0, 0, 6, 6, 0, 7, 0, 3]
theorem rtL4e1 (w : World) (b₁ b₂ : Bool) (a : RtA) (sz tk sz2 tk2 u u2 lt ts tt tc nk : Nat) (i i2 ln : Int) (nv : Value) (T : Str) (c d0 d1 d2 d3 d4 d5 : Nat) (q : Bool) :
    SegOk (PT (wB w b₁ b₂).params) 900 (turn2 (wB w b₁ b₂).params a (frObj (wB w b₁ b₂).params a true [dE (wB w b₁ b₂).params "nextchar" nk nv] 4) u i (shDict (wB w b₁ b₂).params a (.str (sg 97) ts) (.str ⟨#[]⟩ tt) ln lt) sz tk (.str (sg 32) tc) u2 i2 sz2 tk2) hRTL4e (prT 2) [] []
    ((.pure (.done .next), .base, rtLed (wB w b₁ b₂).params a (frObj (wB w b₁ b₂).params a true [dE (wB w b₁ b₂).params "nextchar" nk (.str (sg 32) tc)] 4) u2 i2 (shDict (wB w b₁ b₂).params a (.str (sg 32) (tk2 + 19)) (.str ⟨#[]⟩ tt) ln lt))) := by
  cases b₁ <;> kernel_rfl
noncomputable def hRTL5a : List Nat := [2, 2, 2, 0, 0, 0, 2, 5, 0, 0, 0, 0, 5, 0, 0, 0, 5, 5, 0, 6, 0, 0, 0, 2, 5, 0, 0, 0, 0, 5, 0, 0, 0, 5, 5, 0, 6, 2, 5, 0, 0, 0, 0, 5, 0, 0, 0, 5, 5, 0, 6, 0, 0, 0, 2, 5, 0, 0, 0, 0, 5, 0, 0, 0, 5, 5, 0, 6, 2, 5, 0, 0, 0, 0, 5, 0, 0, 0, 5, 5, 0, 6, 0, 0, 0, 2, 5, 0, 0, 0, 0, 5, 0, 0, 0, 5, 5, 0, 6, 2, 5, 0, 0, 0, 0, 5, 0, 0, 0, 5, 5, 0, 6, 0, 0, 0, 2, 5, 0, 0, 0, 0, 5, 0, 0, 0, 5, 5, 0, 6, 1, 1, 8, 3, 0, 0, 0, 3, 3, 6, 0, 0, 0, 0, 6, 0, 0, 0, 6, 6, 0, 7, 0, 0, 0, 3, 3, 6, 0, 0, 0, 0, 6, 0, 0, 0, 6, 6, 0, 7, 0, 0, 0, 3, 6, 0, 0, 0, 0, 6, 0, 0, 0, 6, 6, 0, 7, 0, 0, 0, 3, 6, 0, 0, 0, 0, 6, 0, 0, 0, 6, 6, 0, 7, 0, 3, 3, 6, 0, 0, 0, 0, 6, 0, 0, 0, 6, 6, 0, 7, 0, 0, 0, 3, 3, 6, 0, 0, 0, 0, 6, 0, 0, 6, 0, 6, 0, 0, 0, 6, 0, 7, 7, 7, 9]
theorem rtL5a1 (w : World) (b₁ b₂ : Bool) (a : RtA) (sz tk sz2 tk2 u u2 lt ts tt tc nk : Nat) (i i2 ln : Int) (nv : Value) (T : Str) (c d0 d1 d2 d3 d4 d5 : Nat) (q : Bool) :
    SegOk (PT (wB w b₁ b₂).params) 900 (turn2 (wB w b₁ b₂).params a (frObj (wB w b₁ b₂).params a q [dE (wB w b₁ b₂).params "nextchar" nk nv] 4) u i (shDict (wB w b₁ b₂).params a (.str (sg 97) ts) (.str T tt) ln lt) sz tk (.str (sg 39) tc) u2 i2 sz2 tk2) hRTL5a (prT 2) [] []
    ((.pure (.again (wlRT a.L)), .base, rtLed (wB w b₁ b₂).params a (frObj (wB w b₁ b₂).params a q [dE (wB w b₁ b₂).params "nextchar" nk (.str (sg 39) tc)] 4) u2 i2 (shDict (wB w b₁ b₂).params a (.str (sg 39) tc) (.str T tt) ln lt))) := by
  cases b₁ <;> kernel_rfl
noncomputable def hRTL5b : List Nat := [2, 2, 2, 0, 0, 0, 2, 5, 0, 0, 0, 0, 5, 0, 0, 0, 5, 5, 0, 6, 0, 0, 0, 2, 5, 0, 0, 0, 0, 5, 0, 0, 0, 5, 5, 0, 6, 2, 5, 0, 0, 0, 0, 5, 0, 0, 0, 5, 5, 0, 6, 0, 0, 0, 2, 5, 0, 0, 0, 0, 5, 0, 0, 0, 5, 5, 0, 6, 2, 5, 0, 0, 0, 0, 5, 0, 0, 0, 5, 5, 0, 6, 0, 0, 0, 2, 5, 0, 0, 0, 0, 5, 0, 0, 0, 5, 5, 0, 6, 2, 5, 0, 0, 0, 0, 5, 0, 0, 0, 5, 5, 0, 6, 0, 0, 0, 2, 5, 0, 0, 0, 0, 5, 0, 0, 0, 5, 5, 0, 6, 1, 1, 8, 3, 0, 0, 0, 3, 3, 6, 0, 0, 0, 0, 6, 0, 0, 0, 6, 6, 0, 7, 0, 0, 0, 3, 3, 6, 0, 0, 0, 0, 6, 0, 0, 0, 6, 6, 0, 7, 0, 0, 0, 3, 6, 0, 0, 0, 0, 6, 0, 0, 0, 6, 6, 0, 7, 0, 0, 0, 3, 6, 0, 0, 0, 0, 6, 0, 0, 0, 6, 6, 0, 7, 0, 3, 3, 6, 0, 0, 0, 0, 6, 0, 0, 0, 6, 6, 0, 7, 0, 0, 0, 3, 3, 6, 0, 0, 0, 0, 6, 0, 0, 6, 0, 6, 0, 0, 0, 6, 0, 7, 7, 7, 9]
theorem rtL5b1 (w : World) (b₁ b₂ : Bool) (a : RtA) (sz tk sz2 tk2 u u2 lt ts tt tc nk : Nat) (i i2 ln : Int) (nv : Value) (T : Str) (c d0 d1 d2 d3 d4 d5 : Nat) (q : Bool) :
    SegOk (PT (wB w b₁ b₂).params) 900 (turn2 (wB w b₁ b₂).params a (frObj (wB w b₁ b₂).params a q [dE (wB w b₁ b₂).params "nextchar" nk nv] 4) u i (shDict (wB w b₁ b₂).params a (.str (sg 97) ts) (.str T tt) ln lt) sz tk (.str (sg 34) tc) u2 i2 sz2 tk2) hRTL5b (prT 2) [] []
    ((.pure (.again (wlRT a.L)), .base, rtLed (wB w b₁ b₂).params a (frObj (wB w b₁ b₂).params a q [dE (wB w b₁ b₂).params "nextchar" nk (.str (sg 34) tc)] 4) u2 i2 (shDict (wB w b₁ b₂).params a (.str (sg 34) tc) (.str T tt) ln lt))) := by
  cases b₁ <;> kernel_rfl
noncomputable def hRTL7w : List Nat := [2, 2, 2, 0, 0, 1, 2, 5, 0, 0, 0, 0, 5, 0, 0, 0, 5, 5, 0, 6, 0, 0, 0, 2, 5, 0, 0, 0, 0, 5, 0, 0, 0, 5, 5, 0, 6, 2, 5, 0, 0, 0, 0, 5, 0, 0, 0, 5, 5, 0, 6, 0, 0, 0, 2, 5, 0, 0, 0, 0, 5, 0, 0, 0, 5, 5, 0, 6, 2, 5, 0, 0, 0, 0, 5, 0, 0, 0, 5, 5, 0, 6, 0, 0, 0, 2, 5, 0, 0, 0, 0, 5, 0, 0, 0, 5, 5, 0, 6, 2, 5, 0, 0, 0, 0, 5, 0, 0, 0, 5, 5, 0, 6, 0, 0, 0, 2, 5, 0, 0, 0, 0, 5, 0, 0, 0, 5, 5, 0, 6, 1, 1, 8, 3, 0, 0, 0, 3, 3, 6, 0, 0, 0, 0, 6, 0, 0, 0, 6, 6, 0, 7, 0, 0, 1, 3, 3, 6, 0, 0, 0, 0, 6, 0, 0, 0, 6, 6, 0, 7, 0, 0, 1, 3, 6, 0, 0, 0, 0, 6, 0, 0, 0, 6, 6, 0, 7, 0, 0, 0, 3, 6, 0, 0, 0, 0, 6, 0, 0, 0, 6, 6, 0, 7, 0, 3, 3, 6, 0, 0, 0, 0, 6, 0, 0, 0, 6, 6, 0, 7, 0, 0, 1, 3, 6, 0, 0, 0, 0, 6, 0, 0, 0, 6, 6, 0, 7, 0, 3, 3, 6, 0, 0, 0, 0, 6, 0, 0, 0, 6, 6, 0, 7, 0, 0, 1, 3, 3, 6, 0, 0, 0, 0, 6, 0, 0, 0, 6, 6, 0, 7, 0, 0, 2, 3, 6, 0, 0, 0, 0, 6, 0, 0, 0, 6, 6, 0, 7, 3, 3, 6, 0, 0, 0, 0, 6, 0, 0, 6, 0, 6, 0, 0, 0, 6, 0, 7, 7, 7, 9]
theorem rtL7w1 (w : World) (b₁ b₂ : Bool) (a : RtA) (sz tk sz2 tk2 u u2 lt ts tt tc nk : Nat) (i i2 ln : Int) (nv : Value) (T : Str) (c d0 d1 d2 d3 d4 d5 : Nat) (q : Bool) :
    SegOk (PT (wB w b₁ b₂).params) 900 (turn2 (wB w b₁ b₂).params a (frObj (wB w b₁ b₂).params a q [dE (wB w b₁ b₂).params "nextchar" nk nv] 4) u i (shDict (wB w b₁ b₂).params a (.str (sg 97) ts) (.str T tt) ln lt) sz tk (.str (sg c) tc) u2 i2 sz2 tk2) hRTL7w (prT 2) [Nat.ble (T ++ sg c).length sizeLine, inS shWord (sg c), inS "\\" (sg c), inS "'\"" (sg c), inS "" (sg c), inS " \t\x0d\n" (sg c), eqS (sg c) "\n"] [true, true, false, false, false, false, false]
    ((.pure (.again (wlRT a.L)), .base, rtLed (wB w b₁ b₂).params a (frObj (wB w b₁ b₂).params a q [dE (wB w b₁ b₂).params "nextchar" nk (.str (sg c) tc)] 4) u2 i2 (shDict (wB w b₁ b₂).params a (.str (sg 97) ts) (.str (T ++ sg c) (if T.length == 0 then tc else if (sg c).length == 0 then tt else tk2 + 26)) ln lt))) := by
  cases b₁ <;> kernel_rfl
noncomputable def hRTL7n : List Nat := [2, 2, 2, 0, 0, 1, 2, 5, 0, 0, 0, 0, 5, 0, 0, 0, 5, 5, 0, 6, 0, 0, 0, 2, 5, 0, 0, 0, 0, 5, 0, 0, 0, 5, 5, 0, 6, 2, 5, 0, 0, 0, 0, 5, 0, 0, 0, 5, 5, 0, 6, 0, 0, 0, 2, 5, 0, 0, 0, 0, 5, 0, 0, 0, 5, 5, 0, 6, 2, 5, 0, 0, 0, 0, 5, 0, 0, 0, 5, 5, 0, 6, 0, 0, 0, 2, 5, 0, 0, 0, 0, 5, 0, 0, 0, 5, 5, 0, 6, 2, 5, 0, 0, 0, 0, 5, 0, 0, 0, 5, 5, 0, 6, 0, 0, 0, 2, 5, 0, 0, 0, 0, 5, 0, 0, 0, 5, 5, 0, 6, 1, 1, 8, 3, 0, 0, 0, 3, 3, 6, 0, 0, 0, 0, 6, 0, 0, 0, 6, 6, 0, 7, 0, 0, 1, 3, 3, 6, 0, 0, 0, 0, 6, 0, 0, 0, 6, 6, 0, 7, 0, 0, 1, 3, 6, 0, 0, 0, 0, 6, 0, 0, 0, 6, 6, 0, 7, 0, 0, 0, 3, 6, 0, 0, 0, 0, 6, 0, 0, 0, 6, 6, 0, 7, 0, 3, 3, 6, 0, 0, 0, 0, 6, 0, 0, 0, 6, 6, 0, 7, 0, 0, 1, 3, 6, 0, 0, 0, 0, 6, 0, 0, 0, 6, 6, 0, 7, 0, 3, 3, 6, 0, 0, 0, 0, 6, 0, 0, 0, 6, 6, 0, 7, 0, 0, 1, 3, 3, 6, 0, 0, 0, 0, 6, 0, 0, 0, 6, 6, 0, 7, 0, 0, 1, 3, 3, 6, 0, 0, 0, 0, 6, 0, 0, 0, 6, 6, 0, 7, 0, 0, 1, 3, 6, 0, 0, 0, 0, 6, 0, 0, 0, 6, 6, 0, 7, 0, 3, 3, 6, 0, 0, 0, 0, 6, 0, 0, 0, 0, 0, 0, 0, 0, 0, 0, 0, 0, 0, 0, 0, 1, 1, 0, 0, 1, 7, 0, 0, 0, 0, 7, 0, 0, 0, 7, 7, 0, 8, 0, 0, 1, 4, 7, 0, 0, 0, 0, 7, 0, 0, 0, 7, 7, 0, 8, 4, 3, 7, 0, 0, 0, 0, 7, 0, 0, 7, 0, 7, 0, 0, 0, 7, 0, 8, 8, 8, 9]
theorem rtL7n1 (w : World) (b₁ b₂ : Bool) (a : RtA) (sz tk sz2 tk2 u u2 lt ts tt tc nk : Nat) (i i2 ln : Int) (nv : Value) (T : Str) (c d0 d1 d2 d3 d4 d5 : Nat) (q : Bool) :
    SegOk (PT (wB w b₁ b₂).params) 900 (turn2 (wB w b₁ b₂).params a (frObj (wB w b₁ b₂).params a q [dE (wB w b₁ b₂).params "nextchar" nk nv] 4) u i (shDict (wB w b₁ b₂).params a (.str (sg 97) ts) (.str T tt) ln lt) sz tk (.str (sg c) tc) u2 i2 sz2 tk2) hRTL7n (prT 3) [Nat.ble (T ++ sg c).length sizeLine, inS "" (sg c), inS "'\"" (sg c), inS shWord (sg c), inS "\\" (sg c), inS "'\"" (sg c), inS "" (sg c), inS " \t\x0d\n" (sg c), eqS (sg c) "\n"] [true, false, false, false, false, false, false, false, false]
    ((.pure (.again (wlRT a.L)), .base, rtLed (wB w b₁ b₂).params a (frObj (wB w b₁ b₂).params a q [dE (wB w b₁ b₂).params "nextchar" nk (.str (sg c) tc)] 4) u2 i2 (shDict (wB w b₁ b₂).params a (.str (sg 97) ts) (.str (T ++ sg c) (if T.length == 0 then tc else if (sg c).length == 0 then tt else tk2 + 31)) ln lt))) := by
  cases b₁ <;> kernel_rfl
noncomputable def hRTL8 : List Nat := [2, 2, 2, 0, 0, 0, 2, 5, 0, 0, 0, 0, 5, 0, 0, 0, 5, 5, 0, 6, 0, 0, 0, 2, 5, 0, 0, 0, 0, 5, 0, 0, 0, 5, 5, 0, 6, 2, 5, 0, 0, 0, 0, 5, 0, 0, 0, 5, 5, 0, 6, 0, 0, 0, 2, 5, 0, 0, 0, 0, 5, 0, 0, 0, 5, 5, 0, 6, 2, 5, 0, 0, 0, 0, 5, 0, 0, 0, 5, 5, 0, 6, 0, 0, 0, 2, 2, 2, 0, 0, 0, 2, 2, 5, 0, 0, 0, 0, 5, 0, 0, 0, 5, 5, 0, 6, 0, 0, 0, 2, 5, 0, 0, 0, 0, 5, 0, 0, 0, 5, 5, 0, 6, 0, 2, 2, 5, 0, 0, 0, 0, 5, 0, 0, 0, 5, 5, 0, 6, 0, 0, 0, 2, 5, 0, 0, 0, 0, 5, 0, 0, 0, 5, 5, 0, 6, 2, 3, 5, 0, 0, 0, 0, 5, 0, 0, 5, 0, 5, 0, 0, 0, 5, 0, 6, 6, 6, 9]
theorem rtL81 (w : World) (b₁ b₂ : Bool) (a : RtA) (sz tk sz2 tk2 u u2 lt ts tt tc nk : Nat) (i i2 ln : Int) (nv : Value) (T : Str) (c d0 d1 d2 d3 d4 d5 : Nat) (q : Bool) :
    SegOk (PT (wB w b₁ b₂).params) 900 (turn2 (wB w b₁ b₂).params a (frObj (wB w b₁ b₂).params a q [dE (wB w b₁ b₂).params "nextchar" nk nv] 4) u i (shDict (wB w b₁ b₂).params a (.str (sg 34) ts) (.str T tt) ln lt) sz tk (.str (sg 39) tc) u2 i2 sz2 tk2) hRTL8 (prT 1) [Nat.ble (T ++ sg 39).length sizeLine] [true]
    ((.pure (.again (wlRT a.L)), .base, rtLed (wB w b₁ b₂).params a (frObj (wB w b₁ b₂).params a true [dE (wB w b₁ b₂).params "nextchar" nk (.str (sg 39) tc)] 4) u2 i2 (shDict (wB w b₁ b₂).params a (.str (sg 34) ts) (.str (T ++ sg 39) (if T.length == 0 then tc else if (sg 39).length == 0 then tt else tk2 + 16)) ln lt))) := by
  cases b₁ <;> kernel_rfl
noncomputable def hRTL9 : List Nat := [2, 2, 2, 0, 0, 0, 2, 5, 0, 0, 0, 0, 5, 0, 0, 0, 5, 5, 0, 6, 0, 0, 0, 2, 5, 0, 0, 0, 0, 5, 0, 0, 0, 5, 5, 0, 6, 2, 5, 0, 0, 0, 0, 5, 0, 0, 0, 5, 5, 0, 6, 0, 0, 0, 2, 5, 0, 0, 0, 0, 5, 0, 0, 0, 5, 5, 0, 6, 2, 5, 0, 0, 0, 0, 5, 0, 0, 0, 5, 5, 0, 6, 0, 0, 0, 2, 2, 2, 0, 0, 0, 2, 2, 5, 0, 0, 0, 0, 5, 0, 0, 0, 5, 5, 0, 6, 0, 0, 0, 2, 5, 0, 0, 0, 0, 5, 0, 0, 0, 5, 5, 0, 6, 0, 2, 5, 0, 0, 0, 0, 5, 0, 0, 5, 0, 5, 0, 0, 0, 5, 0, 6, 6, 6, 9]
theorem rtL91 (w : World) (b₁ b₂ : Bool) (a : RtA) (sz tk sz2 tk2 u u2 lt ts tt tc nk : Nat) (i i2 ln : Int) (nv : Value) (T : Str) (c d0 d1 d2 d3 d4 d5 : Nat) (q : Bool) :
    SegOk (PT (wB w b₁ b₂).params) 900 (turn2 (wB w b₁ b₂).params a (frObj (wB w b₁ b₂).params a q [dE (wB w b₁ b₂).params "nextchar" nk nv] 4) u i (shDict (wB w b₁ b₂).params a (.str (sg 34) ts) (.str T tt) ln lt) sz tk (.str (sg 34) tc) u2 i2 sz2 tk2) hRTL9 (prT 1) [] []
    ((.pure (.again (wlRT a.L)), .base, rtLed (wB w b₁ b₂).params a (frObj (wB w b₁ b₂).params a true [dE (wB w b₁ b₂).params "nextchar" nk (.str (sg 34) tc)] 4) u2 i2 (shDict (wB w b₁ b₂).params a (.str (sg 97) (tk2 + 14)) (.str T tt) ln lt))) := by
  cases b₁ <;> kernel_rfl
end Mine
end
section
open PySem PySem.W PyProof.Rows PySem.Builtin PySem.Builtin.Str
set_option Elab.async false
set_option maxRecDepth 1000000
namespace Mine
open PySem.W.X (Kont Means aroundOf endOf okMark XV)

theorem good_again {V : XV} {gens : Array GenState} {cf : Cf} {c' : Code} (ht : cf.t = .pure (.again c')) (hk : cf.κ = .base) (hq : c'.quiet = true)
    (h : ∀ H, Own V.h₀ H cf.led → codeAny (model V.prog V.w) V.A₀ c' V.R₀ ⟨H, gens, V.d, cf.tk, V.os⟩) : Good V gens cf := by
  obtain ⟨c, κ, t, led, sz, tk⟩ := cf
  dsimp only at ht hk
  subst ht hk
  intro H D _
  exact PySem.W.X.y_pure _ _ _ _ _ _ _ _ _ (PySem.W.X.y_again _ _ _ _ _ _ hq (h H D))
theorem good_done {V : XV} {gens : Array GenState} {cf : Cf} {f : Flow} (ht : cf.t = .pure (.done f)) (hk : cf.κ = .base)
    (h : ∀ H, Own V.h₀ H cf.led → H.objs.size = cf.sz → V.R₀ (.ok f) ⟨H, gens, V.d, cf.tk, V.os⟩) : Good V gens cf := by
  obtain ⟨c, κ, t, led, sz, tk⟩ := cf
  dsimp only at ht hk
  subst ht hk
  intro H D hz
  exact PySem.W.X.y_pure _ _ _ _ _ _ _ _ _ (PySem.W.X.y_done _ _ _ _ _ _ (h H D hz))
theorem wl_quiet (L : Addr) : (wlRT L).quiet = true := by kernel_rfl
theorem Own.drop {g h : Heap} {led led' : Led} {n : Nat} (D : Own g h led) (e : led.drop n = led') : Own g h led' := by
  subst e
  refine D.sub (fun p hp => List.mem_of_mem_drop hp) ?_
  exact List.Nodup.sublist ((List.drop_sublist _ _).map _) D.nodup
theorem own_patch {g h h' : Heap} {pre post : Led} {y dy : Addr} {oy od od' : Obj} (D : Own g h (pre ++ (y, oy) :: (dy, od) :: post)) (D' : Own (hide h [y, dy]) h' [(y, oy), (dy, od')]) : Own g h' (pre ++ (y, oy) :: (dy, od') :: post) := by
  have nd := D.nodup
  simp only [List.map_append, List.map_cons, List.nodup_append, List.nodup_cons, List.mem_cons, List.mem_map] at nd
  refine Own.back (sm := [(y, oy), (dy, od)]) (sm' := [(y, oy), (dy, od')]) D (fun p hp => ?_) D' (fun p hp => ?_) ?_
  · simp only [List.mem_cons, List.not_mem_nil, or_false] at hp
    rcases hp with rfl | rfl <;> simp
  · simp only [List.map_cons, List.map_nil, List.mem_cons, List.not_mem_nil, or_false]
    rcases List.mem_append.mp hp with hp | hp
    · refine Or.inr ⟨List.mem_append_left _ hp, ?_⟩
      have := nd.2.2 p.1 ⟨p, hp, rfl⟩
      exact fun q => q.elim (fun q => this y (Or.inl rfl) q) (fun q => this dy (Or.inr (Or.inl rfl)) q)
    · rcases List.mem_cons.mp hp with rfl | hp
      · exact Or.inl ⟨Or.inl rfl, Or.inl rfl⟩
      · rcases List.mem_cons.mp hp with rfl | hp
        · exact Or.inl ⟨Or.inr rfl, Or.inr rfl⟩
        · refine Or.inr ⟨List.mem_append_right _ (List.mem_cons_of_mem _ (List.mem_cons_of_mem _ hp)), fun q => ?_⟩
          rcases q with q | q
          · exact nd.2.1.1 (Or.inr ⟨p, hp, q⟩)
          · exact nd.2.1.2.1 ⟨p, hp, q⟩
  · have := D.nodup
    simpa using this

section
variable {w : World} {b₁ b₂ : Bool} {A : Around} {g : Heap} {n : Nat} {R : Result → Shared → Prop}
/-- a turn up to the sign that is read -/
theorem turn_read {s : Shared} {a : RtA} {q : Bool} {nc : List DictEntry} {e u lt k : Nat} {ln : Int} {st tok : Value} {v : Nat → Value} {k' : Nat}
    (S : Sur n (wB w b₁ b₂).params A g) (hn : n + 20 ≤ 700) (D : Own g s.heap (rtLed (wB w b₁ b₂).params a (frObj (wB w b₁ b₂).params a q nc e) u (k : Int) (shDict (wB w b₁ b₂).params a st tok ln lt)))
    (hr : ∀ {A' : Around} {g' : Heap} {s' : Shared} {R' : Result → Shared → Prop} {tv : Nat}, Sur (n + 20) (wB w b₁ b₂).params A' g' → Own g' s'.heap (ioLed (wB w b₁ b₂).params a.y a.dy a.it u a.B (k : Int)) →
      (∀ (s'' : Shared) (tc u' : Nat), Own g' s''.heap (ioLed (wB w b₁ b₂).params a.y a.dy a.it u' a.B (k' : Int)) → s''.gens = s'.gens → s''.drawn = s'.drawn → s''.os = s'.os → R' (.ok (.ret (v tc))) s'') → codeAny (model pw (wB w b₁ b₂)) A' (readCode a.y tv) R' s')
    (h : ∀ tc u2 sz2 tk2, Good (vOf pw (wB w b₁ b₂) g A R s.drawn s.os) s.gens (turn2 (wB w b₁ b₂).params a (frObj (wB w b₁ b₂).params a q nc e) u (k : Int) (shDict (wB w b₁ b₂).params a st tok ln lt) s.heap.objs.size s.toks (v tc) u2 (k' : Int) sz2 tk2)) :
    codeAny (model pw (wB w b₁ b₂)) A (wlRT a.L) R s := by
  refine code_good D ?_
  obtain ⟨cf', ac', er, hp, G⟩ := seg2 (gens := s.gens) (pr := fun cf => (callOf cf.t, lowC cf, cf.led.drop 1)) (S.par (by omega) (R₀ := R) (d := s.drawn) (os := s.os)) (rtT1 w b₁ b₂ a q nc e s.heap.objs.size s.toks u lt k ln st tok) rfl
  simp only [Prod.mk.injEq] at hp
  obtain ⟨p1, p2, p3⟩ := hp
  obtain ⟨c, κ, t, led, sz, tk⟩ := cf'
  dsimp only at p1 p2 p3
  obtain ⟨z, hz⟩ : ∃ z, led = z :: rtLed (wB w b₁ b₂).params a (frObj (wB w b₁ b₂).params a q nc e) u (k : Int) (shDict (wB w b₁ b₂).params a st tok ln lt) := by
    cases led with
    | nil => simp [rtLed] at p3
    | cons z l => exact ⟨z, by rw [← p3]; rfl⟩
  refine G (good_call p1 fun H D' hsz => ?_)
  dsimp only at D' hsz
  have hm : ∀ p ∈ ioLed (wB w b₁ b₂).params a.y a.dy a.it u a.B (k : Int), p ∈ led := by
    intro p hp
    rw [hz]
    simp only [ioLed, List.mem_cons, List.not_mem_nil, or_false] at hp
    rcases hp with rfl | rfl <;> simp [rtLed, shLed]
  have nd : ((ioLed (wB w b₁ b₂).params a.y a.dy a.it u a.B (k : Int)).map (·.1)).Nodup := by
    have := D.nodup
    simp only [rtLed, shLed, List.map_cons, List.nodup_cons, List.mem_cons] at this
    simp only [ioLed, List.map_cons, List.map_nil, List.nodup_cons, List.mem_cons, List.not_mem_nil, or_false, not_false_eq_true, List.nodup_nil, and_true]
    exact fun q => this.2.1 (Or.inl q)
  refine hr (Sur.child (cf := ⟨c, κ, t, led, sz, tk⟩) S (by omega) p2 (D'.ghost hm)) (D'.hand hm nd) fun s'' tc u' D'' e1 e2 e3 => ?_
  obtain ⟨H'', gens'', d'', tk'', os''⟩ := s''
  dsimp only at e1 e2 e3 D''
  subst e1 e2 e3
  have zz := h tc u' H''.objs.size tk''
  unfold turn2 after at zz
  rw [er] at zz
  refine zz H'' ?_ rfl
  dsimp only
  subst hz
  exact own_patch (pre := [z, (a.L, frObj (wB w b₁ b₂).params a q nc e)]) (post := [(a.x, shInst a.dx), (a.dx, shDict (wB w b₁ b₂).params a st tok ln lt), (a.pb, dqObj), (a.fs, dqObj)]) D' D''
end
end Mine
end
section
open PySem PySem.W PyProof.Rows PySem.Builtin PySem.Builtin.Str
set_option Elab.async false
set_option maxRecDepth 1000000
set_option maxHeartbeats 1000000
namespace Mine
open PySem.W.X (Kont Means aroundOf endOf okMark XV)

/-- the signs that quote leaves bare -/
noncomputable def safeL : List Nat := [97, 98, 99, 100, 101, 102, 103, 104, 105, 106, 107, 108, 109, 110, 111, 112, 113, 114, 115, 116, 117, 118, 119, 120, 121, 122, 65, 66, 67, 68, 69, 70, 71, 72, 73, 74, 75, 76, 77, 78, 79, 80, 81, 82, 83, 84, 85, 86, 87, 88, 89, 90, 48, 49, 50, 51, 52, 53, 54, 55, 56, 57, 95, 64, 37, 43, 61, 58, 44, 46, 47, 45]
noncomputable def safe (c : Nat) : Bool := safeL.contains c
inductive RS where
  | a | sq | dq
noncomputable def RS.cp : RS → Nat
  | .a => 97
  | .sq => 39
  | .dq => 34
inductive Stp where
  | eof | sp
noncomputable def Stp.val : Stp → Nat → Value
  | .eof, _ => .none
  | .sp, t => .str (sg 32) t
/-- what a lexer does with the signs of a word, from its second turn on -/
noncomputable def auto : RS → List Nat → Bool → List Nat → Option (List Nat × Bool × Stp × List Nat)
  | .a, T, q, [] => some (T, q, .eof, [])
  | .sq, _, _, [] => none
  | .dq, _, _, [] => none
  | .a, T, q, c :: r => if c = 32 then (if T.isEmpty && !q then none else some (T, q, .sp, r)) else if c = 39 then auto .sq T q r else if c = 34 then auto .dq T q r else if safe c then auto .a (T ++ [c]) q r else none
  | .sq, T, _, c :: r => if c = 39 then auto .a T true r else auto .sq (T ++ [c]) true r
  | .dq, T, _, c :: r => if c = 34 then auto .a T true r else if c = 39 then auto .dq (T ++ [39]) true r else none

theorem inS_one (h : Str) (c : Nat) : inS h (sg c) = decide (c ∈ h.cps.toList) := by
  unfold inS
  rw [← PySem.W.Fast.te15715988071286343644]
  exact StrLaws.found_one h c
theorem eqS_one (c : Nat) (y : Str) (d : Nat) (hy : y.cps.toList = [d]) : eqS (sg c) y = decide (c = d) := by
  unfold eqS
  rw [hy]
  show ([c] == [d]) = _
  by_cases h : c = d <;> simp [h]
theorem app_sg (T : List Nat) (c : Nat) : (⟨⟨T⟩⟩ : Str) ++ sg c = ⟨⟨T ++ [c]⟩⟩ := by
  show Str.mk (Array.mk T ++ #[c]) = _
  simp
theorem len_app (T : List Nat) (c : Nat) : ((⟨⟨T⟩⟩ : Str) ++ sg c).length = T.length + 1 := by
  rw [app_sg]
  show (Array.mk (T ++ [c])).size = _
  simp
theorem at_of_drop {l r : List Nat} {k c : Nat} (h : l.drop k = c :: r) : l[k]? = some c ∧ l.drop (k + 1) = r := by
  constructor
  · have : (l.drop k)[0]? = some c := by rw [h]; rfl
    rw [List.getElem?_drop] at this
    simpa using this
  · rw [← List.drop_drop, h]; rfl
/-- which signs are bare and what they are not -/
theorem safe_facts {c : Nat} (h : safe c = true) : c ≠ 10 ∧ c ≠ 92 ∧ c ≠ 39 ∧ c ≠ 34 ∧ c ≠ 32 ∧ c ≠ 9 ∧ c ≠ 13 := by
  have h' : c ∈ safeL := by simpa [safe] using h
  have key : ∀ c ∈ safeL, c ≠ 10 ∧ c ≠ 92 ∧ c ≠ 39 ∧ c ≠ 34 ∧ c ≠ 32 ∧ c ≠ 9 ∧ c ≠ 13 := by decide
  exact key c h'
theorem ws_list : (Str.ofString " \t\x0d\n").cps.toList = [32, 9, 13, 10] := by decide +kernel
theorem qu_list : (Str.ofString "'\"").cps.toList = [39, 34] := by decide +kernel
theorem bs_list : (Str.ofString "\\").cps.toList = [92] := by decide +kernel
theorem em_list : (Str.ofString "").cps.toList = [] := by decide +kernel
theorem nl_list : (Str.ofString "\n").cps.toList = [10] := by decide +kernel

section
variable {w : World} {b₁ b₂ : Bool} {A : Around} {g : Heap} {n : Nat} {R : Result → Shared → Prop}
theorem fin_again {a : RtA} {led' : Led} {m : Nat} {cf' : Cf} {d : Drawn} {os : OsState} {gens : Array GenState} (hp : prT m cf' = (.pure (.again (wlRT a.L)), .base, led'))
    (h : ∀ s' : Shared, Own g s'.heap led' → s'.gens = gens → s'.drawn = d → s'.os = os → codeAny (model pw (wB w b₁ b₂)) A (wlRT a.L) R s') : Good (vOf pw (wB w b₁ b₂) g A R d os) gens cf' := by
  simp only [prT, Prod.mk.injEq] at hp
  obtain ⟨p1, p2, p3⟩ := hp
  exact good_again p1 p2 (wl_quiet _) fun H D => h ⟨H, gens, d, cf'.tk, os⟩ (D.drop p3) rfl rfl rfl
theorem fin_done {led' : Led} {m : Nat} {cf' : Cf} {d : Drawn} {os : OsState} {gens : Array GenState} (hp : prT m cf' = (.pure (.done .next), .base, led'))
    (h : ∀ s' : Shared, Own g s'.heap led' → s'.gens = gens → s'.drawn = d → s'.os = os → R (.ok .next) s') : Good (vOf pw (wB w b₁ b₂) g A R d os) gens cf' := by
  simp only [prT, Prod.mk.injEq] at hp
  obtain ⟨p1, p2, p3⟩ := hp
  exact good_done p1 p2 fun H D _ => h ⟨H, gens, d, cf'.tk, os⟩ (D.drop p3) rfl rfl rfl
/-- a turn that reads a sign -/
theorem turn_ch {s : Shared} {a : RtA} {q : Bool} {nc : List DictEntry} {e u lt k c : Nat} {ln : Int} {st tok : Value}
    (S : Sur n (wB w b₁ b₂).params A g) (hn : n + 20 ≤ 700) (hB : a.B.length ≤ sizeLine) (D : Own g s.heap (rtLed (wB w b₁ b₂).params a (frObj (wB w b₁ b₂).params a q nc e) u (k : Int) (shDict (wB w b₁ b₂).params a st tok ln lt)))
    (hc : a.B.cps.toList[k]? = some c)
    (h : ∀ tc u2 sz2 tk2, Good (vOf pw (wB w b₁ b₂) g A R s.drawn s.os) s.gens (turn2 (wB w b₁ b₂).params a (frObj (wB w b₁ b₂).params a q nc e) u (k : Int) (shDict (wB w b₁ b₂).params a st tok ln lt) s.heap.objs.size s.toks (.str (sg c) tc) u2 ((k + 1 : Nat) : Int) sz2 tk2)) :
    codeAny (model pw (wB w b₁ b₂)) A (wlRT a.L) R s :=
  turn_read (v := fun tc => .str (sg c) tc) (k' := k + 1) S hn D (fun S' D' h' => read_ch S' hn D' (by rw [← Array.getElem?_toList]; exact hc) hB h') h
theorem turn_eof {s : Shared} {a : RtA} {q : Bool} {nc : List DictEntry} {e u lt k : Nat} {ln : Int} {st tok : Value}
    (S : Sur n (wB w b₁ b₂).params A g) (hn : n + 20 ≤ 700) (hB : a.B.length ≤ sizeLine) (D : Own g s.heap (rtLed (wB w b₁ b₂).params a (frObj (wB w b₁ b₂).params a q nc e) u (k : Int) (shDict (wB w b₁ b₂).params a st tok ln lt)))
    (hc : a.B.cps.toList.drop k = [])
    (h : ∀ tc u2 sz2 tk2, Good (vOf pw (wB w b₁ b₂) g A R s.drawn s.os) s.gens (turn2 (wB w b₁ b₂).params a (frObj (wB w b₁ b₂).params a q nc e) u (k : Int) (shDict (wB w b₁ b₂).params a st tok ln lt) s.heap.objs.size s.toks (.str ⟨#[]⟩ tc) u2 (k : Int) sz2 tk2)) :
    codeAny (model pw (wB w b₁ b₂)) A (wlRT a.L) R s :=
  turn_read (v := fun tc => .str ⟨#[]⟩ tc) (k' := k) S hn D (fun S' D' h' => read_eof S' hn D' (by have := List.drop_eq_nil_iff.mp hc; show a.B.cps.size ≤ k; simpa using this) hB fun s'' tc D'' e1 e2 e3 => h' s'' tc u D'' e1 e2 e3) h

theorem rt_loop {a : RtA} (S : Sur n (wB w b₁ b₂).params A g) (hn : n + 20 ≤ 700) (hB : a.B.length ≤ sizeLine) : ∀ (cs : List Nat) (st : RS) (T : List Nat) (q : Bool) (k u lt ts tt nk : Nat) (nv : Value) (ln : Int) (s : Shared) (T' : List Nat) (q' : Bool) (fin : Stp) (rest : List Nat),
    a.B.cps.toList.drop k = cs → T.length + cs.length ≤ sizeLine → auto st T q cs = some (T', q', fin, rest) → T'.length ≤ 6 →
    Own g s.heap (rtLed (wB w b₁ b₂).params a (frObj (wB w b₁ b₂).params a q [dE (wB w b₁ b₂).params "nextchar" nk nv] 4) u (k : Int) (shDict (wB w b₁ b₂).params a (.str (sg st.cp) ts) (.str ⟨⟨T⟩⟩ tt) ln lt)) →
    (∀ (s' : Shared) (k' u' lt' ts' tt' nk' : Nat) (nv' : Value) (ln' : Int), Own g s'.heap (rtLed (wB w b₁ b₂).params a (frObj (wB w b₁ b₂).params a q' [dE (wB w b₁ b₂).params "nextchar" nk' nv'] 4) u' (k' : Int) (shDict (wB w b₁ b₂).params a (fin.val ts') (.str ⟨⟨T'⟩⟩ tt') ln' lt')) →
      a.B.cps.toList.drop k' = rest → s'.gens = s.gens → s'.drawn = s.drawn → s'.os = s.os → R (.ok .next) s') →
    codeAny (model pw (wB w b₁ b₂)) A (wlRT a.L) R s := by
  intro cs
  induction cs with
  | nil =>
    intro st T q k u lt ts tt nk nv ln s T' q' fin rest hd hl ha h6 D h
    cases st with
    | sq => cases ha
    | dq => cases ha
    | a =>
      cases ha
      refine turn_eof S hn hB D hd fun tc u2 sz2 tk2 => ?_
      obtain ⟨cf', _, _, hp, G⟩ := seg2 (gens := s.gens) (pr := prT 2) (S.par (by omega) (R₀ := R) (d := s.drawn) (os := s.os)) (rtL31 w b₁ b₂ a s.heap.objs.size s.toks sz2 tk2 u u2 lt ts tt tc nk k k ln nv ⟨⟨T⟩⟩ 0 0 0 0 0 0 0 q) rfl
      exact G (fin_done hp fun s' D' e1 e2 e3 => h s' k u2 lt ts tt nk _ ln D' hd e1 e2 e3)
  | cons c r ih =>
    intro st T q k u lt ts tt nk nv ln s T' q' fin rest hd hl ha h6 D h
    obtain ⟨hc, hd'⟩ := at_of_drop hd
    rw [List.length_cons] at hl
    have hl1 : T.length + r.length ≤ sizeLine := by omega
    have hl2 : (T ++ [c]).length + r.length ≤ sizeLine := by rw [List.length_append]; simp only [List.length_cons, List.length_nil]; omega
    have hcond : Nat.ble ((⟨⟨T⟩⟩ : Str) ++ sg c).length sizeLine = true := Nat.ble_eq_true_of_le (by rw [len_app]; omega)
    refine turn_ch S hn hB D hc fun tc u2 sz2 tk2 => ?_
    cases st with
    | sq =>
      unfold auto at ha
      by_cases h39 : c = 39
      · subst h39
        rw [if_pos rfl] at ha
        obtain ⟨cf', _, _, hp, G⟩ := seg2 (gens := s.gens) (pr := prT 1) (S.par (by omega) (R₀ := R) (d := s.drawn) (os := s.os)) (rtL21 w b₁ b₂ a s.heap.objs.size s.toks sz2 tk2 u u2 lt ts tt tc nk k (k + 1 : Nat) ln nv ⟨⟨T⟩⟩ 0 0 0 0 0 0 0 q) rfl
        exact G (fin_again hp fun s' D' e1 e2 e3 => ih .a T true (k + 1) u2 lt _ tt nk _ ln s' T' q' fin rest hd' hl1 ha h6 D' (by rw [e1, e2, e3]; exact h))
      · rw [if_neg h39] at ha
        have go : ∀ (m : Nat) (tt' lt' : Nat) (ln' : Int) (cf' : Cf), prT m cf' = (.pure (.again (wlRT a.L)), .base, rtLed (wB w b₁ b₂).params a (frObj (wB w b₁ b₂).params a true [dE (wB w b₁ b₂).params "nextchar" nk (.str (sg c) tc)] 4) u2 ((k + 1 : Nat) : Int) (shDict (wB w b₁ b₂).params a (.str (sg 39) ts) (.str ((⟨⟨T⟩⟩ : Str) ++ sg c) tt') ln' lt')) → Good (vOf pw (wB w b₁ b₂) g A R s.drawn s.os) s.gens cf' := by
          intro m tt' lt' ln' cf' hp
          rw [app_sg] at hp
          exact fin_again hp fun s' D' e1 e2 e3 => ih .sq (T ++ [c]) true (k + 1) u2 lt' ts tt' nk _ ln' s' T' q' fin rest hd' hl2 ha h6 D' (by rw [e1, e2, e3]; exact h)
        by_cases h10 : c = 10
        · subst h10
          obtain ⟨cf', _, _, hp, G⟩ := seg2 (gens := s.gens) (pr := prT 1) (S.par (by omega) (R₀ := R) (d := s.drawn) (os := s.os)) (rtL1n1 w b₁ b₂ a s.heap.objs.size s.toks sz2 tk2 u u2 lt ts tt tc nk k (k + 1 : Nat) ln nv ⟨⟨T⟩⟩ 0 0 0 0 0 0 0 q) (by rw [hcond])
          exact G (go _ _ _ _ _ hp)
        · by_cases h92 : c = 92
          · subst h92
            obtain ⟨cf', _, _, hp, G⟩ := seg2 (gens := s.gens) (pr := prT 1) (S.par (by omega) (R₀ := R) (d := s.drawn) (os := s.os)) (rtL1b1 w b₁ b₂ a s.heap.objs.size s.toks sz2 tk2 u u2 lt ts tt tc nk k (k + 1 : Nat) ln nv ⟨⟨T⟩⟩ 0 0 0 0 0 0 0 q) (by rw [hcond])
            exact G (go _ _ _ _ _ hp)
          · obtain ⟨cf', _, _, hp, G⟩ := seg2 (gens := s.gens) (pr := prT 1) (S.par (by omega) (R₀ := R) (d := s.drawn) (os := s.os)) (rtL11 w b₁ b₂ a s.heap.objs.size s.toks sz2 tk2 u u2 lt ts tt tc nk k (k + 1 : Nat) ln nv ⟨⟨T⟩⟩ c 0 0 0 0 0 0 q)
              (by rw [hcond, inS_one, bs_list, eqS_one c (sg 39) 39 rfl, eqS_one c _ 10 nl_list]; simp [h39, h10, h92])
            exact G (go _ _ _ _ _ hp)
    | dq =>
      unfold auto at ha
      by_cases h34 : c = 34
      · subst h34
        rw [if_pos rfl] at ha
        obtain ⟨cf', _, _, hp, G⟩ := seg2 (gens := s.gens) (pr := prT 1) (S.par (by omega) (R₀ := R) (d := s.drawn) (os := s.os)) (rtL91 w b₁ b₂ a s.heap.objs.size s.toks sz2 tk2 u u2 lt ts tt tc nk k (k + 1 : Nat) ln nv ⟨⟨T⟩⟩ 0 0 0 0 0 0 0 q) rfl
        exact G (fin_again hp fun s' D' e1 e2 e3 => ih .a T true (k + 1) u2 lt _ tt nk _ ln s' T' q' fin rest hd' hl1 ha h6 D' (by rw [e1, e2, e3]; exact h))
      · rw [if_neg h34] at ha
        by_cases h39 : c = 39
        · subst h39
          rw [if_pos rfl] at ha
          obtain ⟨cf', _, _, hp, G⟩ := seg2 (gens := s.gens) (pr := prT 1) (S.par (by omega) (R₀ := R) (d := s.drawn) (os := s.os)) (rtL81 w b₁ b₂ a s.heap.objs.size s.toks sz2 tk2 u u2 lt ts tt tc nk k (k + 1 : Nat) ln nv ⟨⟨T⟩⟩ 0 0 0 0 0 0 0 q) (by rw [hcond])
          rw [app_sg] at hp
          exact G (fin_again hp fun s' D' e1 e2 e3 => ih .dq (T ++ [39]) true (k + 1) u2 lt ts _ nk _ ln s' T' q' fin rest hd' hl2 ha h6 D' (by rw [e1, e2, e3]; exact h))
        · rw [if_neg h39] at ha
          cases ha
    | a =>
      unfold auto at ha
      by_cases h32 : c = 32
      · subst h32
        rw [if_pos rfl] at ha
        split at ha
        · cases ha
        · rename_i hne
          cases ha
          match T, hne, h6, D, h with
          | [], hne, _, D, h =>
            have hq : q = true := by cases q <;> simp_all
            subst hq
            obtain ⟨cf', _, _, hp, G⟩ := seg2 (gens := s.gens) (pr := prT 2) (S.par (by omega) (R₀ := R) (d := s.drawn) (os := s.os)) (rtL4e1 w b₁ b₂ a s.heap.objs.size s.toks sz2 tk2 u u2 lt ts tt tc nk k (k + 1 : Nat) ln nv ⟨⟨[]⟩⟩ 0 0 0 0 0 0 0 true) rfl
            exact G (fin_done hp fun s' D' e1 e2 e3 => h s' (k + 1) u2 lt _ tt nk _ ln D' hd' e1 e2 e3)
          | [d0], _, _, D, h =>
            obtain ⟨cf', _, _, hp, G⟩ := seg2 (gens := s.gens) (pr := prT 2) (S.par (by omega) (R₀ := R) (d := s.drawn) (os := s.os)) (rtL4x11 w b₁ b₂ a s.heap.objs.size s.toks sz2 tk2 u u2 lt ts tt tc nk k (k + 1 : Nat) ln nv ⟨⟨[]⟩⟩ 0 d0 0 0 0 0 0 q) rfl
            exact G (fin_done hp fun s' D' e1 e2 e3 => h s' (k + 1) u2 lt _ tt nk _ ln D' hd' e1 e2 e3)
          | [d0, d1], _, _, D, h =>
            obtain ⟨cf', _, _, hp, G⟩ := seg2 (gens := s.gens) (pr := prT 2) (S.par (by omega) (R₀ := R) (d := s.drawn) (os := s.os)) (rtL4x21 w b₁ b₂ a s.heap.objs.size s.toks sz2 tk2 u u2 lt ts tt tc nk k (k + 1 : Nat) ln nv ⟨⟨[]⟩⟩ 0 d0 d1 0 0 0 0 q) rfl
            exact G (fin_done hp fun s' D' e1 e2 e3 => h s' (k + 1) u2 lt _ tt nk _ ln D' hd' e1 e2 e3)
          | [d0, d1, d2], _, _, D, h =>
            obtain ⟨cf', _, _, hp, G⟩ := seg2 (gens := s.gens) (pr := prT 2) (S.par (by omega) (R₀ := R) (d := s.drawn) (os := s.os)) (rtL4x31 w b₁ b₂ a s.heap.objs.size s.toks sz2 tk2 u u2 lt ts tt tc nk k (k + 1 : Nat) ln nv ⟨⟨[]⟩⟩ 0 d0 d1 d2 0 0 0 q) rfl
            exact G (fin_done hp fun s' D' e1 e2 e3 => h s' (k + 1) u2 lt _ tt nk _ ln D' hd' e1 e2 e3)
          | [d0, d1, d2, d3], _, _, D, h =>
            obtain ⟨cf', _, _, hp, G⟩ := seg2 (gens := s.gens) (pr := prT 2) (S.par (by omega) (R₀ := R) (d := s.drawn) (os := s.os)) (rtL4x41 w b₁ b₂ a s.heap.objs.size s.toks sz2 tk2 u u2 lt ts tt tc nk k (k + 1 : Nat) ln nv ⟨⟨[]⟩⟩ 0 d0 d1 d2 d3 0 0 q) rfl
            exact G (fin_done hp fun s' D' e1 e2 e3 => h s' (k + 1) u2 lt _ tt nk _ ln D' hd' e1 e2 e3)
          | [d0, d1, d2, d3, d4], _, _, D, h =>
            obtain ⟨cf', _, _, hp, G⟩ := seg2 (gens := s.gens) (pr := prT 2) (S.par (by omega) (R₀ := R) (d := s.drawn) (os := s.os)) (rtL4x51 w b₁ b₂ a s.heap.objs.size s.toks sz2 tk2 u u2 lt ts tt tc nk k (k + 1 : Nat) ln nv ⟨⟨[]⟩⟩ 0 d0 d1 d2 d3 d4 0 q) rfl
            exact G (fin_done hp fun s' D' e1 e2 e3 => h s' (k + 1) u2 lt _ tt nk _ ln D' hd' e1 e2 e3)
          | [d0, d1, d2, d3, d4, d5], _, _, D, h =>
            obtain ⟨cf', _, _, hp, G⟩ := seg2 (gens := s.gens) (pr := prT 2) (S.par (by omega) (R₀ := R) (d := s.drawn) (os := s.os)) (rtL4x61 w b₁ b₂ a s.heap.objs.size s.toks sz2 tk2 u u2 lt ts tt tc nk k (k + 1 : Nat) ln nv ⟨⟨[]⟩⟩ 0 d0 d1 d2 d3 d4 d5 q) rfl
            exact G (fin_done hp fun s' D' e1 e2 e3 => h s' (k + 1) u2 lt _ tt nk _ ln D' hd' e1 e2 e3)
          | _ :: _ :: _ :: _ :: _ :: _ :: _ :: _, _, h6, _, _ => exact absurd h6 (by simp only [List.length_cons]; omega)
      · rw [if_neg h32] at ha
        by_cases h39 : c = 39
        · subst h39
          rw [if_pos rfl] at ha
          obtain ⟨cf', _, _, hp, G⟩ := seg2 (gens := s.gens) (pr := prT 2) (S.par (by omega) (R₀ := R) (d := s.drawn) (os := s.os)) (rtL5a1 w b₁ b₂ a s.heap.objs.size s.toks sz2 tk2 u u2 lt ts tt tc nk k (k + 1 : Nat) ln nv ⟨⟨T⟩⟩ 0 0 0 0 0 0 0 q) rfl
          exact G (fin_again hp fun s' D' e1 e2 e3 => ih .sq T q (k + 1) u2 lt _ tt nk _ ln s' T' q' fin rest hd' hl1 ha h6 D' (by rw [e1, e2, e3]; exact h))
        · rw [if_neg h39] at ha
          by_cases h34 : c = 34
          · subst h34
            rw [if_pos rfl] at ha
            obtain ⟨cf', _, _, hp, G⟩ := seg2 (gens := s.gens) (pr := prT 2) (S.par (by omega) (R₀ := R) (d := s.drawn) (os := s.os)) (rtL5b1 w b₁ b₂ a s.heap.objs.size s.toks sz2 tk2 u u2 lt ts tt tc nk k (k + 1 : Nat) ln nv ⟨⟨T⟩⟩ 0 0 0 0 0 0 0 q) rfl
            exact G (fin_again hp fun s' D' e1 e2 e3 => ih .dq T q (k + 1) u2 lt _ tt nk _ ln s' T' q' fin rest hd' hl1 ha h6 D' (by rw [e1, e2, e3]; exact h))
          · rw [if_neg h34] at ha
            cases hs : safe c with
            | false => rw [hs] at ha; cases ha
            | true =>
              rw [hs] at ha
              have ha : auto .a (T ++ [c]) q r = some (T', q', fin, rest) := ha
              obtain ⟨f1, f2, f3, f4, f5, f6, f7⟩ := safe_facts hs
              have go : ∀ (m : Nat) (tt' : Nat) (cf' : Cf), prT m cf' = (.pure (.again (wlRT a.L)), .base, rtLed (wB w b₁ b₂).params a (frObj (wB w b₁ b₂).params a q [dE (wB w b₁ b₂).params "nextchar" nk (.str (sg c) tc)] 4) u2 ((k + 1 : Nat) : Int) (shDict (wB w b₁ b₂).params a (.str (sg 97) ts) (.str ((⟨⟨T⟩⟩ : Str) ++ sg c) tt') ln lt)) → Good (vOf pw (wB w b₁ b₂) g A R s.drawn s.os) s.gens cf' := by
                intro m tt' cf' hp
                rw [app_sg] at hp
                exact fin_again hp fun s' D' e1 e2 e3 => ih .a (T ++ [c]) q (k + 1) u2 lt ts tt' nk _ ln s' T' q' fin rest hd' hl2 ha h6 D' (by rw [e1, e2, e3]; exact h)
              have i1 : inS (Str.ofString "\\") (sg c) = false := by rw [inS_one, bs_list]; simp [f2]
              have i2 : inS (Str.ofString "'\"") (sg c) = false := by rw [inS_one, qu_list]; simp [f3, f4]
              have i3 : inS (Str.ofString "") (sg c) = false := by rw [inS_one, em_list]; simp
              have i4 : inS (Str.ofString " \t\x0d\n") (sg c) = false := by rw [inS_one, ws_list]; simp [f1, f5, f6, f7]
              have i5 : eqS (sg c) (Str.ofString "\n") = false := by rw [eqS_one c _ 10 nl_list]; simp [f1]
              cases hw : inS shWord (sg c) with
              | true =>
                obtain ⟨cf', _, _, hp, G⟩ := seg2 (gens := s.gens) (pr := prT 2) (S.par (by omega) (R₀ := R) (d := s.drawn) (os := s.os)) (rtL7w1 w b₁ b₂ a s.heap.objs.size s.toks sz2 tk2 u u2 lt ts tt tc nk k (k + 1 : Nat) ln nv ⟨⟨T⟩⟩ c 0 0 0 0 0 0 q) (by rw [hcond, hw, i1, i2, i3, i4, i5])
                exact G (go _ _ _ hp)
              | false =>
                obtain ⟨cf', _, _, hp, G⟩ := seg2 (gens := s.gens) (pr := prT 3) (S.par (by omega) (R₀ := R) (d := s.drawn) (os := s.os)) (rtL7n1 w b₁ b₂ a s.heap.objs.size s.toks sz2 tk2 u u2 lt ts tt tc nk k (k + 1 : Nat) ln nv ⟨⟨T⟩⟩ c 0 0 0 0 0 0 q) (by rw [hcond, hw, i1, i2, i3, i4, i5])
                exact G (go _ _ _ hp)
end
end Mine
end
section
open PySem PySem.W PyProof.Rows PySem.Builtin PySem.Builtin.Str
set_option Elab.async false
set_option maxRecDepth 1000000
set_option maxHeartbeats 0
set_option linter.unusedVariables false
namespace Mine
open PySem.W.X (Kont Means aroundOf endOf okMark XV)
noncomputable abbrev rtIn (a : RtA) (sz tk : Nat) : RtA := { a with L := sz, ft := fun n => match n with | 0 => tk | 1 => tk + 1 | 2 => tk + 3 | _ => tk + 2 }
noncomputable abbrev entryCf (p : Params) (a : RtA) (u : Nat) (i : Int) (sh : Obj) (sz tk : Nat) : Cf := ⟨rtCode a.x, .base, (PT p).den (rtCode a.x), shLed p a u i sh, sz, tk⟩
noncomputable def hRTBq : List Nat := [1, 4, 0, 0, 0, 0, 4, 0, 0, 0, 4, 4, 0, 5, 1, 1, 1, 4, 0, 0, 0, 0, 4, 0, 0, 4, 0, 4, 0, 0, 0, 4, 0, 5, 5, 5, 1, 4, 0, 0, 0, 0, 4, 0, 0, 0, 4, 4, 0, 5, 0, 1, 1, 4, 0, 0, 0, 0, 4, 0, 0, 0, 4, 4, 0, 5, 0, 0, 0, 1]
theorem rtBq1 (w : World) (b₁ b₂ : Bool) (a : RtA) (sz tk sz2 tk2 u u2 lt ts tt nk : Nat) (i i2 ln : Int) (st nv : Value) (sh0 : Obj) (T : Str) :
    SegOk (PT (wB w b₁ b₂).params) 300 (after (runC (PT (wB w b₁ b₂).params) 200 (entryCf (wB w b₁ b₂).params a u i sh0 sz tk) { hs := hRTA }) (.ok .next) (fun _ => rtLed (wB w b₁ b₂).params (rtIn a sz tk) (frObj (wB w b₁ b₂).params (rtIn a sz tk) true [dE (wB w b₁ b₂).params "nextchar" nk nv] 4) u2 i2 (shDict (wB w b₁ b₂).params a st (.str T tt) ln lt)) sz2 tk2) hRTBq (prT 1) [] []
    (.pure (.done (.ret (.str T tt))), .base, shLed (wB w b₁ b₂).params a u2 i2 (shDict (wB w b₁ b₂).params a st (.str ⟨#[]⟩ (tk2 + 2)) ln lt)) := by
  cases b₁ <;> kernel_rfl
noncomputable def hRTBn : List Nat := [1, 4, 0, 0, 0, 0, 4, 0, 0, 0, 4, 4, 0, 5, 1, 1, 1, 4, 0, 0, 0, 0, 4, 0, 0, 4, 0, 4, 0, 0, 0, 4, 0, 5, 5, 5, 1, 4, 0, 0, 0, 0, 4, 0, 0, 0, 4, 4, 0, 5, 0, 1, 1, 0, 0, 1, 1, 4, 0, 0, 0, 0, 4, 0, 0, 0, 4, 4, 0, 5, 0, 0, 0, 1]
theorem rtBn1 (w : World) (b₁ b₂ : Bool) (a : RtA) (sz tk sz2 tk2 u u2 lt ts tt nk : Nat) (i i2 ln : Int) (st nv : Value) (sh0 : Obj) (T : Str) :
    SegOk (PT (wB w b₁ b₂).params) 300 (after (runC (PT (wB w b₁ b₂).params) 200 (entryCf (wB w b₁ b₂).params a u i sh0 sz tk) { hs := hRTA }) (.ok .next) (fun _ => rtLed (wB w b₁ b₂).params (rtIn a sz tk) (frObj (wB w b₁ b₂).params (rtIn a sz tk) false [dE (wB w b₁ b₂).params "nextchar" nk nv] 4) u2 i2 (shDict (wB w b₁ b₂).params a st (.str T tt) ln lt)) sz2 tk2) hRTBn (prT 1) [eqS T ""] [false]
    (.pure (.done (.ret (.str T tt))), .base, shLed (wB w b₁ b₂).params a u2 i2 (shDict (wB w b₁ b₂).params a st (.str ⟨#[]⟩ (tk2 + 2)) ln lt)) := by
  cases b₁ <;> kernel_rfl
noncomputable def hRTBz : List Nat := [1, 4, 0, 0, 0, 0, 4, 0, 0, 0, 4, 4, 0, 5, 1, 1, 1, 4, 0, 0, 0, 0, 4, 0, 0, 4, 0, 4, 0, 0, 0, 4, 0, 5, 5, 5, 1, 4, 0, 0, 0, 0, 4, 0, 0, 0, 4, 4, 0, 5, 0, 1, 1, 0, 0, 0, 1, 1, 1, 4, 0, 0, 0, 0, 4, 0, 0, 0, 4, 4, 0, 5, 0, 0, 0, 1]
theorem rtBz1 (w : World) (b₁ b₂ : Bool) (a : RtA) (sz tk sz2 tk2 u u2 lt ts tt nk : Nat) (i i2 ln : Int) (st nv : Value) (sh0 : Obj) (T : Str) :
    SegOk (PT (wB w b₁ b₂).params) 300 (after (runC (PT (wB w b₁ b₂).params) 200 (entryCf (wB w b₁ b₂).params a u i sh0 sz tk) { hs := hRTA }) (.ok .next) (fun _ => rtLed (wB w b₁ b₂).params (rtIn a sz tk) (frObj (wB w b₁ b₂).params (rtIn a sz tk) false [dE (wB w b₁ b₂).params "nextchar" nk nv] 4) u2 i2 (shDict (wB w b₁ b₂).params a st (.str ⟨#[]⟩ tt) ln lt)) sz2 tk2) hRTBz (prT 1) [] []
    (.pure (.done (.ret .none)), .base, shLed (wB w b₁ b₂).params a u2 i2 (shDict (wB w b₁ b₂).params a st (.str ⟨#[]⟩ (tk2 + 2)) ln lt)) := by
  cases b₁ <;> kernel_rfl

/-- a word from its first sign on -/
noncomputable def autoW : List Nat → Option (List Nat × Bool × Stp × List Nat)
  | [] => none
  | c :: r => if c = 39 then auto .sq [] false r else if safe c then auto .a [c] false r else none

section
variable {w : World} {b₁ b₂ : Bool} {A : Around} {g : Heap} {n : Nat} {R : Result → Shared → Prop}
theorem rt_first {a : RtA} (S : Sur n (wB w b₁ b₂).params A g) (hn : n + 20 ≤ 700) (hB : a.B.length ≤ sizeLine) (cs : List Nat) (k u lt ts tt : Nat) (ln : Int) (s : Shared) (T' : List Nat) (q' : Bool) (fin : Stp) (rest : List Nat)
    (hd : a.B.cps.toList.drop k = cs) (hl : cs.length ≤ sizeLine) (ha : autoW cs = some (T', q', fin, rest)) (h6 : T'.length ≤ 6)
    (D : Own g s.heap (rtLed (wB w b₁ b₂).params a (frObj (wB w b₁ b₂).params a false [] 3) u (k : Int) (shDict (wB w b₁ b₂).params a (.str (sg 32) ts) (.str ⟨#[]⟩ tt) ln lt)))
    (h : ∀ (s' : Shared) (k' u' lt' ts' tt' nk' : Nat) (nv' : Value) (ln' : Int), Own g s'.heap (rtLed (wB w b₁ b₂).params a (frObj (wB w b₁ b₂).params a q' [dE (wB w b₁ b₂).params "nextchar" nk' nv'] 4) u' (k' : Int) (shDict (wB w b₁ b₂).params a (fin.val ts') (.str ⟨⟨T'⟩⟩ tt') ln' lt')) →
      a.B.cps.toList.drop k' = rest → s'.gens = s.gens → s'.drawn = s.drawn → s'.os = s.os → R (.ok .next) s') :
    codeAny (model pw (wB w b₁ b₂)) A (wlRT a.L) R s := by
  cases cs with
  | nil => cases ha
  | cons c r =>
    obtain ⟨hc, hd'⟩ := at_of_drop hd
    rw [List.length_cons] at hl
    refine turn_ch S hn hB D hc fun tc u2 sz2 tk2 => ?_
    replace ha : (if c = 39 then auto .sq [] false r else if safe c then auto .a [c] false r else none) = some (T', q', fin, rest) := ha
    by_cases h39 : c = 39
    · subst h39
      rw [if_pos rfl] at ha
      obtain ⟨cf', _, _, hp, G⟩ := seg2 (gens := s.gens) (pr := prT 2) (S.par (by omega) (R₀ := R) (d := s.drawn) (os := s.os)) (rtF11 w b₁ b₂ a s.heap.objs.size s.toks sz2 tk2 u u2 lt ts tt tc 0 k (k + 1 : Nat) ln .none ⟨#[]⟩ 0 0 0 0 0 0 0 false) rfl
      exact G (fin_again hp fun s' D' e1 e2 e3 => rt_loop S hn hB r .sq [] false (k + 1) u2 lt tc tt tk2 _ ln s' T' q' fin rest hd' (by simp only [List.length_nil]; omega) ha h6 D' (by rw [e1, e2, e3]; exact h))
    · rw [if_neg h39] at ha
      cases hs : safe c with
      | false => rw [hs] at ha; cases ha
      | true =>
        rw [hs] at ha
        have ha : auto .a [c] false r = some (T', q', fin, rest) := ha
        obtain ⟨f1, f2, f3, f4, f5, f6, f7⟩ := safe_facts hs
        have i1 : inS (Str.ofString "\\") (sg c) = false := by rw [inS_one, bs_list]; simp [f2]
        have i2 : inS (Str.ofString "'\"") (sg c) = false := by rw [inS_one, qu_list]; simp [f3, f4]
        have i3 : inS (Str.ofString "") (sg c) = false := by rw [inS_one, em_list]; simp
        have i4 : inS (Str.ofString " \t\x0d\n") (sg c) = false := by rw [inS_one, ws_list]; simp [f1, f5, f6, f7]
        have i5 : eqS (sg c) (Str.ofString "\n") = false := by rw [eqS_one c _ 10 nl_list]; simp [f1]
        cases hw : inS shWord (sg c) with
        | true =>
          obtain ⟨cf', _, _, hp, G⟩ := seg2 (gens := s.gens) (pr := prT 1) (S.par (by omega) (R₀ := R) (d := s.drawn) (os := s.os)) (rtF2w1 w b₁ b₂ a s.heap.objs.size s.toks sz2 tk2 u u2 lt ts tt tc 0 k (k + 1 : Nat) ln .none ⟨#[]⟩ c 0 0 0 0 0 0 false) (by rw [hw, i1, i3, i4, i5])
          exact G (fin_again hp fun s' D' e1 e2 e3 => rt_loop S hn hB r .a [c] false (k + 1) u2 lt _ tc tk2 _ ln s' T' q' fin rest hd' (by simp only [List.length_cons, List.length_nil]; omega) ha h6 D' (by rw [e1, e2, e3]; exact h))
        | false =>
          obtain ⟨cf', _, _, hp, G⟩ := seg2 (gens := s.gens) (pr := prT 2) (S.par (by omega) (R₀ := R) (d := s.drawn) (os := s.os)) (rtF2n1 w b₁ b₂ a s.heap.objs.size s.toks sz2 tk2 u u2 lt ts tt tc 0 k (k + 1 : Nat) ln .none ⟨#[]⟩ c 0 0 0 0 0 0 false) (by rw [hw, i1, i2, i3, i4, i5])
          exact G (fin_again hp fun s' D' e1 e2 e3 => rt_loop S hn hB r .a [c] false (k + 1) u2 lt _ tc tk2 _ ln s' T' q' fin rest hd' (by simp only [List.length_cons, List.length_nil]; omega) ha h6 D' (by rw [e1, e2, e3]; exact h))

/-- the entry of read_token, its loop taken as a whole -/
theorem rt_enter {a : RtA} {s : Shared} {u k : Nat} {sh : Obj} (S : Sur n (wB w b₁ b₂).params A g) (hn : n + 40 ≤ 700) (D : Own g s.heap (shLed (wB w b₁ b₂).params a u (k : Int) sh))
    (h : ∀ {A' : Around} {R' : Result → Shared → Prop} {s' : Shared}, Sur (n + 20) (wB w b₁ b₂).params A' g → s'.gens = s.gens → s'.drawn = s.drawn → s'.os = s.os →
      Own g s'.heap (rtLed (wB w b₁ b₂).params (rtIn a s.heap.objs.size s.toks) (frObj (wB w b₁ b₂).params (rtIn a s.heap.objs.size s.toks) false [] 3) u (k : Int) sh) →
      (∀ (s'' : Shared) (led' : Led), Own g s''.heap led' → s''.gens = s.gens → s''.drawn = s.drawn → s''.os = s.os →
        (Good (vOf pw (wB w b₁ b₂) g A R s.drawn s.os) s.gens (after (runC (PT (wB w b₁ b₂).params) 200 (entryCf (wB w b₁ b₂).params a u (k : Int) sh s.heap.objs.size s.toks) { hs := hRTA }) (.ok .next) (fun _ => led') s''.heap.objs.size s''.toks)) → R' (.ok .next) s'') →
      codeAny (model pw (wB w b₁ b₂)) A' (wlRT s.heap.objs.size) R' s') :
    codeAny (model pw (wB w b₁ b₂)) A (rtCode a.x) R s := by
  refine code_good D ?_
  obtain ⟨cf', ac', er, hp, G⟩ := seg2 (gens := s.gens) (pr := fun cf => (callOf cf.t, lowC cf, cf.sz, cf.led)) (S.par (by omega) (R₀ := R) (d := s.drawn) (os := s.os)) (rtA1 w b₁ b₂ a s.heap.objs.size s.toks u k sh) rfl
  simp only [Prod.mk.injEq] at hp
  obtain ⟨p1, p2, p3, p4⟩ := hp
  refine G (good_call p1 fun H D' hsz => ?_)
  refine h (Sur.child (cf := cf') S (by omega) p2 fun _ _ e => e) rfl rfl rfl (by rw [p4] at D'; exact D') fun s'' led' D'' e1 e2 e3 z => ?_
  obtain ⟨H'', gens'', d'', tk'', os''⟩ := s''
  dsimp only at e1 e2 e3 D''
  subst e1 e2 e3
  unfold after at z
  rw [er] at z
  exact z H'' D'' rfl

/-- read_token where a word stands -/
theorem rt_word {a : RtA} {s : Shared} {u k lt ts tt : Nat} {ln : Int} {cs T' : List Nat} {q' : Bool} {fin : Stp} {rest : List Nat} (S : Sur n (wB w b₁ b₂).params A g) (hn : n + 40 ≤ 700) (hB : a.B.length ≤ sizeLine)
    (D : Own g s.heap (shLed (wB w b₁ b₂).params a u (k : Int) (shDict (wB w b₁ b₂).params a (.str (sg 32) ts) (.str ⟨#[]⟩ tt) ln lt)))
    (hd : a.B.cps.toList.drop k = cs) (hl : cs.length ≤ sizeLine) (ha : autoW cs = some (T', q', fin, rest)) (h6 : T'.length ≤ 6) (hne : T' ≠ [] ∨ q' = true)
    (h : ∀ (s' : Shared) (k' u' lt' ts' tt' tr : Nat) (ln' : Int), Own g s'.heap (shLed (wB w b₁ b₂).params a u' (k' : Int) (shDict (wB w b₁ b₂).params a (fin.val ts') (.str ⟨#[]⟩ tt') ln' lt')) →
      a.B.cps.toList.drop k' = rest → s'.gens = s.gens → s'.drawn = s.drawn → s'.os = s.os → R (.ok (.ret (.str ⟨⟨T'⟩⟩ tr))) s') :
    codeAny (model pw (wB w b₁ b₂)) A (rtCode a.x) R s := by
  refine rt_enter S hn D fun S' e1 e2 e3 D' back => ?_
  refine rt_first (a := rtIn a s.heap.objs.size s.toks) S' (by omega) hB cs k u lt ts tt ln _ T' q' fin rest hd hl ha h6 D' fun s'' k' u' lt' ts' tt' nk' nv' ln' D'' hd'' g1 g2 g3 => ?_
  refine back s'' _ D'' (g1.trans e1) (g2.trans e2) (g3.trans e3) ?_
  have fin' : ∀ cf' : Cf, prT 1 cf' = (.pure (.done (.ret (.str ⟨⟨T'⟩⟩ tt'))), .base, shLed (wB w b₁ b₂).params a u' (k' : Int) (shDict (wB w b₁ b₂).params a (fin.val ts') (.str ⟨#[]⟩ (s''.toks + 2)) ln' lt')) → Good (vOf pw (wB w b₁ b₂) g A R s.drawn s.os) s.gens cf' := by
    intro cf' hp
    simp only [prT, Prod.mk.injEq] at hp
    obtain ⟨p1, p2, p3⟩ := hp
    exact good_ret p1 p2 fun H D3 _ => h ⟨H, s.gens, s.drawn, cf'.tk, s.os⟩ k' u' lt' ts' _ tt' ln' (D3.drop p3) hd'' rfl rfl rfl
  cases q' with
  | true =>
    obtain ⟨cf', _, _, hp, G⟩ := seg2 (gens := s.gens) (pr := prT 1) (S.par (by omega) (R₀ := R) (d := s.drawn) (os := s.os)) (rtBq1 w b₁ b₂ a s.heap.objs.size s.toks s''.heap.objs.size s''.toks u u' lt' ts tt' nk' k k' ln' (fin.val ts') nv' _ ⟨⟨T'⟩⟩) rfl
    exact G (fin' cf' hp)
  | false =>
    have hT : T' ≠ [] := hne.resolve_right (by simp)
    obtain ⟨cf', _, _, hp, G⟩ := seg2 (gens := s.gens) (pr := prT 1) (S.par (by omega) (R₀ := R) (d := s.drawn) (os := s.os)) (rtBn1 w b₁ b₂ a s.heap.objs.size s.toks s''.heap.objs.size s''.toks u u' lt' ts tt' nk' k k' ln' (fin.val ts') nv' _ ⟨⟨T'⟩⟩)
      (by
        have : eqS ⟨⟨T'⟩⟩ (Str.ofString "") = false := by
          unfold eqS
          rw [em_list]
          cases T' with
          | nil => exact absurd rfl hT
          | cons _ _ => rfl
        rw [this])
    exact G (fin' cf' hp)

/-- read_token behind the last word -/
theorem rt_end {a : RtA} {s : Shared} {u k lt tt : Nat} {ln : Int} (S : Sur n (wB w b₁ b₂).params A g) (hn : n + 40 ≤ 700) (hB : a.B.length ≤ sizeLine)
    (D : Own g s.heap (shLed (wB w b₁ b₂).params a u (k : Int) (shDict (wB w b₁ b₂).params a .none (.str ⟨#[]⟩ tt) ln lt)))
    (hd : a.B.cps.toList.drop k = [])
    (h : ∀ (s' : Shared) (u' tt' : Nat), Own g s'.heap (shLed (wB w b₁ b₂).params a u' (k : Int) (shDict (wB w b₁ b₂).params a .none (.str ⟨#[]⟩ tt') ln lt)) → s'.gens = s.gens → s'.drawn = s.drawn → s'.os = s.os → R (.ok (.ret .none)) s') :
    codeAny (model pw (wB w b₁ b₂)) A (rtCode a.x) R s := by
  refine rt_enter S hn D fun {A' R' s'} S' e1 e2 e3 D' back => ?_
  refine turn_eof (a := rtIn a s.heap.objs.size s.toks) S' (by omega) hB D' hd fun tc u2 sz2 tk2 => ?_
  obtain ⟨cf', _, _, hp, G⟩ := seg2 (gens := s'.gens) (pr := prT 1) (S'.par (by omega) (R₀ := R') (d := s'.drawn) (os := s'.os)) (rtF31 w b₁ b₂ (rtIn a s.heap.objs.size s.toks) s'.heap.objs.size s'.toks sz2 tk2 u u2 lt 0 tt tc 0 k k ln .none ⟨#[]⟩ 0 0 0 0 0 0 0 false) rfl
  refine G (fin_done hp fun s'' D'' g1 g2 g3 => ?_)
  refine back s'' _ D'' (g1.trans e1) (g2.trans e2) (g3.trans e3) ?_
  obtain ⟨cf2, _, _, hp, G⟩ := seg2 (gens := s.gens) (pr := prT 1) (S.par (by omega) (R₀ := R) (d := s.drawn) (os := s.os)) (rtBz1 w b₁ b₂ a s.heap.objs.size s.toks s''.heap.objs.size s''.toks u u2 lt 0 (tk2 + 5) tk2 k k ln .none (.str ⟨#[]⟩ tc) _ ⟨#[]⟩) rfl
  simp only [prT, Prod.mk.injEq] at hp
  obtain ⟨p1, p2, p3⟩ := hp
  exact G (good_ret p1 p2 fun H D3 _ => h ⟨H, s.gens, s.drawn, cf2.tk, s.os⟩ u2 _ (D3.drop p3) rfl rfl rfl)
end
end Mine
end
section
open PySem PySem.W PyProof.Rows PySem.Builtin PySem.Builtin.Str
set_option Elab.async false
set_option maxRecDepth 1000000
set_option maxHeartbeats 0
set_option linter.unusedVariables false
namespace Mine
open PySem.W.X (Kont Means aroundOf endOf okMark XV)

theorem own_patchL {g h h' : Heap} {pre sm sm' post : Led} (D : Own g h (pre ++ sm ++ post)) (D' : Own (hide h (sm.map (·.1))) h' sm') (ha : sm'.map (·.1) = sm.map (·.1)) : Own g h' (pre ++ sm' ++ post) := by
  have nd := D.nodup
  have hn : ((pre ++ sm' ++ post).map (·.1)) = ((pre ++ sm ++ post).map (·.1)) := by simp only [List.map_append, ha]
  refine Own.back (sm := sm) (sm' := sm') D (fun p hp => List.mem_append_left _ (List.mem_append_right _ hp)) D' (fun p hp => ?_) (by rw [hn]; exact nd)
  simp only [List.map_append, List.nodup_append, List.mem_append, List.mem_map] at nd
  rcases List.mem_append.mp hp with hp | hp
  · rcases List.mem_append.mp hp with hp | hp
    · refine Or.inr ⟨List.mem_append_left _ (List.mem_append_left _ hp), fun q => ?_⟩
      exact nd.1.2.2 p.1 ⟨p, hp, rfl⟩ p.1 (List.mem_map.mp q) rfl
    · exact Or.inl ⟨hp, by rw [← ha]; exact List.mem_map_of_mem hp⟩
  · refine Or.inr ⟨List.mem_append_right _ hp, fun q => ?_⟩
    exact nd.2.2 p.1 (Or.inr (List.mem_map.mp q)) p.1 ⟨p, hp, rfl⟩ rfl
theorem Own.mid {g h : Heap} {pre sm post : Led} (D : Own g h (pre ++ sm ++ post)) : Own (hide h (sm.map (·.1))) h sm := by
  refine D.hand (fun p hp => List.mem_append_left _ (List.mem_append_right _ hp)) ?_
  have nd := D.nodup
  simp only [List.map_append, List.nodup_append] at nd
  exact nd.1.2.1
section
variable {w : World} {b₁ b₂ : Bool} {A : Around} {g : Heap} {n : Nat} {R : Result → Shared → Prop}
/-- a stop at a call, by the callee's contract -/
theorem call_seg {cf' : Cf} {ac' : Ac} {c' : Code} {d : Drawn} {os : OsState} {gens : Array GenState} {pre sm post : Led} {P : Result → Led → Prop} (S : Sur n (wB w b₁ b₂).params A g) (hn : n ≤ 700) (p1 : callOf cf'.t = some (c', none)) (p2 : lowC cf' = true) (p3 : cf'.led = pre ++ sm ++ post)
    (hr : ∀ {A' : Around} {g' : Heap} {s' : Shared} {R' : Result → Shared → Prop}, Sur (n + 20) (wB w b₁ b₂).params A' g' → Own g' s'.heap sm →
      (∀ (s'' : Shared) (r : Result) (sm' : Led), Own g' s''.heap sm' → sm'.map (·.1) = sm.map (·.1) → P r sm' → s''.gens = s'.gens → s''.drawn = s'.drawn → s''.os = s'.os → R' r s'') → codeAny (model pw (wB w b₁ b₂)) A' c' R' s')
    (h : ∀ r sm' sz2 tk2, P r sm' → Good (vOf pw (wB w b₁ b₂) g A R d os) gens (after (some (cf', ac')) r (fun _ => pre ++ sm' ++ post) sz2 tk2)) : Good (vOf pw (wB w b₁ b₂) g A R d os) gens cf' := by
  refine good_call p1 fun H D' hsz => ?_
  rw [p3] at D'
  refine hr (Sur.child (cf := cf') S hn p2 (D'.ghost fun p hp => List.mem_append_left _ (List.mem_append_right _ hp))) D'.mid fun s'' r sm' D'' ha hP e1 e2 e3 => ?_
  obtain ⟨H'', gens'', d'', tk'', os''⟩ := s''
  dsimp only at e1 e2 e3 D''
  subst e1 e2 e3
  exact h r sm' H''.objs.size tk'' hP H'' (own_patchL D' D'' ha) rfl
end
noncomputable abbrev gtCode (x : Addr) : Code := .call (.ref 693) ⟨[.ref x], []⟩
noncomputable abbrev nxCode (x : Addr) : Code := .call (.ref 729) ⟨[.ref x], []⟩
noncomputable def selfFr (p : Params) (x tk : Nat) : Obj := { cls := .type "frame", data := .dict [dE p "self" tk (.ref x)].toArray 1 }
noncomputable def hGTw0 : List Nat := [0, 0, 1, 1, 0, 0, 1, 4, 0, 0, 0, 0, 4, 0, 0, 0, 4, 4, 0, 5, 6, 6, 0, 6, 0, 6, 0, 6, 1, 4, 0, 0, 0, 4, 0, 0, 0, 4, 0, 0, 0, 0, 4, 5, 0, 1]
noncomputable def hGTw : List Nat := [1, 1, 1, 4, 0, 0, 0, 0, 4, 0, 0, 0, 4, 4, 0, 5, 0, 1, 1, 4, 0, 0, 0, 0, 4, 0, 0, 0, 4, 4, 0, 5, 0, 0, 0, 0, 1, 4, 0, 0, 0, 0, 4, 0, 0, 0, 4, 4, 0, 5, 0, 0, 0, 1]
noncomputable def hGTe : List Nat := [1, 1, 1, 4, 0, 0, 0, 0, 4, 0, 0, 0, 4, 4, 0, 5, 0, 1, 1, 4, 0, 0, 0, 0, 4, 0, 0, 0, 4, 4, 0, 5, 0, 0, 0, 1, 4, 0, 0, 0, 0, 4, 0, 0, 0, 4, 4, 0, 5, 7, 7, 0, 7, 0, 7, 0, 7, 1, 4, 0, 0, 0, 0, 4, 0, 0, 0, 4, 4, 0, 5]
noncomputable def hNXw0 : List Nat := [0, 0, 1, 1, 0, 0, 1, 4, 0, 0, 0, 4, 0, 0, 0, 4, 0, 0, 0, 0, 4, 5, 0, 1]
noncomputable def hNXw : List Nat := [1, 1, 1, 1, 4, 0, 0, 0, 0, 4, 0, 0, 0, 4, 4, 0, 5, 0, 0, 0, 0, 1]
noncomputable abbrev gtCf (p : Params) (a : RtA) (u : Nat) (i : Int) (st tok : Value) (ln : Int) (lt sz tk : Nat) : Cf := ⟨gtCode a.x, .base, (PT p).den (gtCode a.x), shLed p a u i (shDict p a st tok ln lt), sz, tk⟩
noncomputable abbrev nxCf (p : Params) (a : RtA) (u : Nat) (i : Int) (st tok : Value) (ln : Int) (lt sz tk : Nat) : Cf := ⟨nxCode a.x, .base, (PT p).den (nxCode a.x), shLed p a u i (shDict p a st tok ln lt), sz, tk⟩
noncomputable abbrev prC (cf : Cf) := (callOf cf.t, lowC cf, cf.led)
theorem gtA1 (w : World) (b₁ b₂ : Bool) (a : RtA) (u lt sz tk : Nat) (i ln : Int) (st tok : Value) :
    SegOk (PT (wB w b₁ b₂).params) 300 (gtCf (wB w b₁ b₂).params a u i st tok ln lt sz tk) hGTw0 prC [] []
    (some (rtCode a.x, none), true, (sz, selfFr (wB w b₁ b₂).params a.x tk) :: shLed (wB w b₁ b₂).params a u i (shDict (wB w b₁ b₂).params a st tok ln lt)) := by
  kernel_rfl
theorem gtW1 (w : World) (b₁ b₂ : Bool) (a : RtA) (u lt sz tk u2 lt2 sz2 tk2 tr : Nat) (i ln i2 ln2 : Int) (st tok st2 tok2 : Value) (T : Str) :
    SegOk (PT (wB w b₁ b₂).params) 300 (after (runC (PT (wB w b₁ b₂).params) 300 (gtCf (wB w b₁ b₂).params a u i st tok ln lt sz tk) { hs := hGTw0 }) (.ok (.ret (.str T tr))) (fun _ => (sz, selfFr (wB w b₁ b₂).params a.x tk) :: shLed (wB w b₁ b₂).params a u2 i2 (shDict (wB w b₁ b₂).params a st2 tok2 ln2 lt2)) sz2 tk2) hGTw (prT 1) [] []
    (.pure (.done (.ret (.str T tr))), .base, shLed (wB w b₁ b₂).params a u2 i2 (shDict (wB w b₁ b₂).params a st2 tok2 ln2 lt2)) := by
  cases b₁ <;> kernel_rfl
theorem gtE1 (w : World) (b₁ b₂ : Bool) (a : RtA) (u lt sz tk u2 lt2 sz2 tk2 tr : Nat) (i ln i2 ln2 : Int) (st tok st2 tok2 : Value) (T : Str) :
    SegOk (PT (wB w b₁ b₂).params) 300 (after (runC (PT (wB w b₁ b₂).params) 300 (gtCf (wB w b₁ b₂).params a u i st tok ln lt sz tk) { hs := hGTw0 }) (.ok (.ret .none)) (fun _ => (sz, selfFr (wB w b₁ b₂).params a.x tk) :: shLed (wB w b₁ b₂).params a u2 i2 (shDict (wB w b₁ b₂).params a st2 tok2 ln2 lt2)) sz2 tk2) hGTe (prT 1) [] []
    (.pure (.done (.ret .none)), .base, shLed (wB w b₁ b₂).params a u2 i2 (shDict (wB w b₁ b₂).params a st2 tok2 ln2 lt2)) := by
  cases b₁ <;> kernel_rfl
theorem nxA1 (w : World) (b₁ b₂ : Bool) (a : RtA) (u lt sz tk : Nat) (i ln : Int) (st tok : Value) :
    SegOk (PT (wB w b₁ b₂).params) 300 (nxCf (wB w b₁ b₂).params a u i st tok ln lt sz tk) hNXw0 prC [] []
    (some (gtCode a.x, none), true, (sz, selfFr (wB w b₁ b₂).params a.x tk) :: shLed (wB w b₁ b₂).params a u i (shDict (wB w b₁ b₂).params a st tok ln lt)) := by
  kernel_rfl
theorem nxW1 (w : World) (b₁ b₂ : Bool) (a : RtA) (u lt sz tk u2 lt2 sz2 tk2 tr : Nat) (i ln i2 ln2 : Int) (st tok st2 tok2 : Value) (T : Str) :
    SegOk (PT (wB w b₁ b₂).params) 300 (after (runC (PT (wB w b₁ b₂).params) 300 (nxCf (wB w b₁ b₂).params a u i st tok ln lt sz tk) { hs := hNXw0 }) (.ok (.ret (.str T tr))) (fun _ => (sz, selfFr (wB w b₁ b₂).params a.x tk) :: shLed (wB w b₁ b₂).params a u2 i2 (shDict (wB w b₁ b₂).params a st2 tok2 ln2 lt2)) sz2 tk2) hNXw (prT 1) [] []
    (.pure (.done (.ret (.str T tr))), .base, shLed (wB w b₁ b₂).params a u2 i2 (shDict (wB w b₁ b₂).params a st2 tok2 ln2 lt2)) := by
  cases b₁ <;> kernel_rfl
end Mine
end
section
open PySem PySem.W PyProof.Rows PySem.Builtin PySem.Builtin.Str
set_option Elab.async false
set_option maxRecDepth 1000000
set_option maxHeartbeats 1000000
set_option linter.unusedVariables false
namespace Mine
open PySem.W.X (Kont Means aroundOf endOf okMark XV)
/-- the word that stands at a place of the buffer, and what is behind it -/
structure Word (B : Str) (k : Nat) (T : List Nat) (fin : Stp) (rest : List Nat) : Prop where
  run : ∃ q, autoW (B.cps.toList.drop k) = some (T, q, fin, rest) ∧ (T ≠ [] ∨ q = true)
  len : (B.cps.toList.drop k).length ≤ sizeLine
  six : T.length ≤ 6
/-- what a call that hands the next word on leaves -/
noncomputable def Took (p : Params) (a : RtA) (T : List Nat) (fin : Stp) (rest : List Nat) (r : Result) (sm : Led) : Prop :=
  ∃ k' u' lt' ts' tt' tr ln', r = .ok (.ret (.str ⟨⟨T⟩⟩ tr)) ∧ sm = shLed p a u' ((k' : Nat) : Int) (shDict p a (fin.val ts') (.str ⟨#[]⟩ tt') ln' lt') ∧ a.B.cps.toList.drop k' = rest
noncomputable def Ended (p : Params) (a : RtA) (k : Nat) (ln : Int) (lt : Nat) (r : Result) (sm : Led) : Prop :=
  ∃ u' tt', r = .ok (.ret .none) ∧ sm = shLed p a u' (k : Int) (shDict p a .none (.str ⟨#[]⟩ tt') ln lt)

section
variable {w : World} {b₁ b₂ : Bool} {A : Around} {g : Heap} {n : Nat} {R : Result → Shared → Prop}
theorem gt_word {a : RtA} {s : Shared} {u k lt ts tt : Nat} {ln : Int} {T : List Nat} {fin : Stp} {rest : List Nat} (S : Sur n (wB w b₁ b₂).params A g) (hn : n + 60 ≤ 700) (hB : a.B.length ≤ sizeLine)
    (D : Own g s.heap (shLed (wB w b₁ b₂).params a u (k : Int) (shDict (wB w b₁ b₂).params a (.str (sg 32) ts) (.str ⟨#[]⟩ tt) ln lt))) (hw : Word a.B k T fin rest)
    (h : ∀ (s' : Shared) (r : Result) (sm' : Led), Own g s'.heap sm' → Took (wB w b₁ b₂).params a T fin rest r sm' → s'.gens = s.gens → s'.drawn = s.drawn → s'.os = s.os → R r s') :
    codeAny (model pw (wB w b₁ b₂)) A (gtCode a.x) R s := by
  refine code_good D ?_
  obtain ⟨cf', ac', er, hp, G⟩ := seg2 (gens := s.gens) (pr := prC) (S.par (by omega) (R₀ := R) (d := s.drawn) (os := s.os)) (gtA1 w b₁ b₂ a u lt s.heap.objs.size s.toks k ln _ _) rfl
  simp only [prC, Prod.mk.injEq] at hp
  obtain ⟨p1, p2, p3⟩ := hp
  refine G (call_seg (ac' := ac') (pre := [(s.heap.objs.size, selfFr (wB w b₁ b₂).params a.x s.toks)]) (sm := shLed (wB w b₁ b₂).params a u (k : Int) (shDict (wB w b₁ b₂).params a (.str (sg 32) ts) (.str ⟨#[]⟩ tt) ln lt)) (post := []) (P := Took (wB w b₁ b₂).params a T fin rest) S (by omega) p1 p2 (by rw [p3]; rfl) (fun S' D' h' => ?_) ?_)
  · obtain ⟨q, ha, hne⟩ := hw.run
    exact rt_word S' (by omega) hB D' rfl hw.len ha hw.six hne fun s' k' u' lt' ts' tt' tr ln' D'' hd'' e1 e2 e3 => h' s' _ _ D'' rfl ⟨k', u', lt', ts', tt', tr, ln', rfl, rfl, hd''⟩ e1 e2 e3
  · rintro r sm' sz2 tk2 ⟨k', u', lt', ts', tt', tr, ln', rfl, rfl, hd''⟩
    rw [← er]
    obtain ⟨cf2, _, _, hp, G⟩ := seg2 (gens := s.gens) (pr := prT 1) (S.par (by omega) (R₀ := R) (d := s.drawn) (os := s.os)) (gtW1 w b₁ b₂ a u lt s.heap.objs.size s.toks u' lt' sz2 tk2 tr k ln k' ln' _ _ _ _ ⟨⟨T⟩⟩) rfl
    simp only [prT, Prod.mk.injEq] at hp
    obtain ⟨q1, q2, q3⟩ := hp
    exact G (good_ret q1 q2 fun H D3 _ => h ⟨H, s.gens, s.drawn, cf2.tk, s.os⟩ _ _ (D3.drop q3) ⟨k', u', lt', ts', tt', tr, ln', rfl, rfl, hd''⟩ rfl rfl rfl)
theorem gt_end {a : RtA} {s : Shared} {u k lt tt : Nat} {ln : Int} (S : Sur n (wB w b₁ b₂).params A g) (hn : n + 60 ≤ 700) (hB : a.B.length ≤ sizeLine)
    (D : Own g s.heap (shLed (wB w b₁ b₂).params a u (k : Int) (shDict (wB w b₁ b₂).params a .none (.str ⟨#[]⟩ tt) ln lt))) (hd : a.B.cps.toList.drop k = [])
    (h : ∀ (s' : Shared) (r : Result) (sm' : Led), Own g s'.heap sm' → Ended (wB w b₁ b₂).params a k ln lt r sm' → s'.gens = s.gens → s'.drawn = s.drawn → s'.os = s.os → R r s') :
    codeAny (model pw (wB w b₁ b₂)) A (gtCode a.x) R s := by
  refine code_good D ?_
  obtain ⟨cf', ac', er, hp, G⟩ := seg2 (gens := s.gens) (pr := prC) (S.par (by omega) (R₀ := R) (d := s.drawn) (os := s.os)) (gtA1 w b₁ b₂ a u lt s.heap.objs.size s.toks k ln _ _) rfl
  simp only [prC, Prod.mk.injEq] at hp
  obtain ⟨p1, p2, p3⟩ := hp
  refine G (call_seg (ac' := ac') (pre := [(s.heap.objs.size, selfFr (wB w b₁ b₂).params a.x s.toks)]) (sm := shLed (wB w b₁ b₂).params a u (k : Int) (shDict (wB w b₁ b₂).params a .none (.str ⟨#[]⟩ tt) ln lt)) (post := []) (P := Ended (wB w b₁ b₂).params a k ln lt) S (by omega) p1 p2 (by rw [p3]; rfl) (fun S' D' h' => ?_) ?_)
  · exact rt_end S' (by omega) hB D' hd fun s' u' tt' D'' e1 e2 e3 => h' s' _ _ D'' rfl ⟨u', tt', rfl, rfl⟩ e1 e2 e3
  · rintro r sm' sz2 tk2 ⟨u', tt', rfl, rfl⟩
    rw [← er]
    obtain ⟨cf2, _, _, hp, G⟩ := seg2 (gens := s.gens) (pr := prT 1) (S.par (by omega) (R₀ := R) (d := s.drawn) (os := s.os)) (gtE1 w b₁ b₂ a u lt s.heap.objs.size s.toks u' lt sz2 tk2 0 k ln k ln _ _ _ _ ⟨⟨[]⟩⟩) rfl
    simp only [prT, Prod.mk.injEq] at hp
    obtain ⟨q1, q2, q3⟩ := hp
    exact G (good_ret q1 q2 fun H D3 _ => h ⟨H, s.gens, s.drawn, cf2.tk, s.os⟩ _ _ (D3.drop q3) ⟨u', tt', rfl, rfl⟩ rfl rfl rfl)
theorem nx_word {a : RtA} {s : Shared} {u k lt ts tt : Nat} {ln : Int} {T : List Nat} {fin : Stp} {rest : List Nat} (S : Sur n (wB w b₁ b₂).params A g) (hn : n + 80 ≤ 700) (hB : a.B.length ≤ sizeLine)
    (D : Own g s.heap (shLed (wB w b₁ b₂).params a u (k : Int) (shDict (wB w b₁ b₂).params a (.str (sg 32) ts) (.str ⟨#[]⟩ tt) ln lt))) (hw : Word a.B k T fin rest)
    (h : ∀ (s' : Shared) (r : Result) (sm' : Led), Own g s'.heap sm' → Took (wB w b₁ b₂).params a T fin rest r sm' → s'.gens = s.gens → s'.drawn = s.drawn → s'.os = s.os → R r s') :
    codeAny (model pw (wB w b₁ b₂)) A (nxCode a.x) R s := by
  refine code_good D ?_
  obtain ⟨cf', ac', er, hp, G⟩ := seg2 (gens := s.gens) (pr := prC) (S.par (by omega) (R₀ := R) (d := s.drawn) (os := s.os)) (nxA1 w b₁ b₂ a u lt s.heap.objs.size s.toks k ln _ _) rfl
  simp only [prC, Prod.mk.injEq] at hp
  obtain ⟨p1, p2, p3⟩ := hp
  refine G (call_seg (ac' := ac') (pre := [(s.heap.objs.size, selfFr (wB w b₁ b₂).params a.x s.toks)]) (sm := shLed (wB w b₁ b₂).params a u (k : Int) (shDict (wB w b₁ b₂).params a (.str (sg 32) ts) (.str ⟨#[]⟩ tt) ln lt)) (post := []) (P := Took (wB w b₁ b₂).params a T fin rest) S (by omega) p1 p2 (by rw [p3]; rfl) (fun S' D' h' => ?_) ?_)
  · exact gt_word S' (by omega) hB D' hw fun s' r sm' D'' ht e1 e2 e3 => h' s' r sm' D'' (by obtain ⟨_, _, _, _, _, _, _, _, rfl, _⟩ := ht; rfl) ht e1 e2 e3
  · rintro r sm' sz2 tk2 ⟨k', u', lt', ts', tt', tr, ln', rfl, rfl, hd''⟩
    rw [← er]
    obtain ⟨cf2, _, _, hp, G⟩ := seg2 (gens := s.gens) (pr := prT 1) (S.par (by omega) (R₀ := R) (d := s.drawn) (os := s.os)) (nxW1 w b₁ b₂ a u lt s.heap.objs.size s.toks u' lt' sz2 tk2 tr k ln k' ln' _ _ _ _ ⟨⟨T⟩⟩) rfl
    simp only [prT, Prod.mk.injEq] at hp
    obtain ⟨q1, q2, q3⟩ := hp
    exact G (good_ret q1 q2 fun H D3 _ => h ⟨H, s.gens, s.drawn, cf2.tk, s.os⟩ _ _ (D3.drop q3) ⟨k', u', lt', ts', tt', tr, ln', rfl, rfl, hd''⟩ rfl rfl rfl)
end
end Mine
end
section
open PySem PySem.W PyProof.Rows PySem.Builtin PySem.Builtin.Str
set_option Elab.async false
set_option maxRecDepth 1000000
set_option maxHeartbeats 0
set_option linter.unusedVariables false
namespace Mine
open PySem.W.X (Kont Means aroundOf endOf okMark XV)
/-- where the parts of a comparison stand -/
structure CmA where
  l : Nat
  r : Nat
  x : Nat
  dx : Nat
  kl : Nat
  k : Nat → Nat
  t : Nat → Nat
noncomputable def tupO (vs : List Value) : Obj := { cls := .type "tuple", data := .seq vs.toArray 0 }
noncomputable def lstO (vs : List Value) : Obj := { cls := .type "list", data := .seq vs.toArray 0 }
/-- a function's row: file, line, name -/
structure RowS where
  f : Str
  n : Int
  m : Str
noncomputable def rowO (r : RowS) (t : Nat → Nat) (i : Nat) : Obj := tupO [.str r.f (t i), .int r.n (t (i + 1)), .str r.m (t (i + 2))]
noncomputable def keyO (a : CmA) (i : Nat) (q : Int × Int) : Addr × Obj := (a.k i, tupO [.int q.1 (a.t (20 + 2 * i)), .int q.2 (a.t (21 + 2 * i))])
noncomputable def cmRo (p : Params) (a : CmA) (ks : List (Int × Int)) (u v : RowS) : Led :=
  [(a.l, rowO u a.t 0), (a.r, rowO v a.t 3), (a.x, { cls := .ref 776, dict := some a.dx }), (a.dx, { cls := .type "dict", data := .dict [dE p "comp_select_list" (a.t 6) (.ref a.kl)].toArray 1 }), (a.kl, lstO ((List.range ks.length).map fun i => .ref (a.k i)))] ++ (List.range ks.length).map fun i => keyO a i (ks.getD i (0, 0))
noncomputable abbrev cmCode (a : CmA) : Code := .call (.ref 773) ⟨[.ref a.x, .ref a.l, .ref a.r], []⟩
noncomputable abbrev cmCf (p : Params) (a : CmA) (sz tk : Nat) : Cf := ⟨cmCode a, .base, (PT p).den (cmCode a), [], sz, tk⟩
noncomputable def intOf : Sem Fin → Option Int
  | .pure (.done (.ret (.int i _))) => some i
  | _ => none
noncomputable abbrev prI (cf : Cf) := (intOf cf.t, cf.κ)
noncomputable def ltS (x y : Str) : Bool := decide (x.cps.toList < y.cps.toList)
noncomputable def keysA : List (Int × Int) := [(2, 1), (0, 1), (1, 1)]
noncomputable def keysB : List (Int × Int) := [(0, -1), (2, 1)]
noncomputable def keysC : List (Int × Int) := [(1, -1), (2, -1), (0, 1)]
noncomputable def keysD : List (Int × Int) := [(2, -1)]
noncomputable def hCAl : List Nat := [0, 0, 1, 1, 1, 1, 1, 1, 0, 0, 1, 1002, 0, 0, 0, 0, 1002, 0, 0, 0, 1002, 1002, 0, 1003, 1004, 1004, 0, 1004, 0, 1, 0, 1, 0, 1, 0, 1, 1, 1004, 1, 1, 1, 1005, 1005, 1005, 0, 1005, 0, 1, 1, 0, 1, 0, 1, 1, 1005, 1, 1, 1, 0, 1, 0, 1, 1, 1005, 1, 1, 1, 0, 1, 0, 1, 1, 1005, 1, 1, 1, 5, 5, 5, 5, 5, 5, 1000, 1000, 1000, 0, 1000, 0, 1000, 5, 5, 5, 5, 1001, 1001, 1001, 0, 1001, 0, 1001, 5, 5, 5, 5, 0, 0, 2, 5, 0, 0]
theorem cmAl1 (w : World) (b₁ b₂ : Bool) (a : CmA) (u v : RowS) (sz tk : Nat) :
    SegOk (PTr (wB w b₁ b₂).params (cmRo (wB w b₁ b₂).params a keysA u v)) 600 (cmCf (wB w b₁ b₂).params a sz tk) hCAl prI [ltS u.m v.m] [true]
    (some (-1), .base) := by
  cases b₁ <;> kernel_rfl
noncomputable def hCAg : List Nat := [0, 0, 1, 1, 1, 1, 1, 1, 0, 0, 1, 1002, 0, 0, 0, 0, 1002, 0, 0, 0, 1002, 1002, 0, 1003, 1004, 1004, 0, 1004, 0, 1, 0, 1, 0, 1, 0, 1, 1, 1004, 1, 1, 1, 1005, 1005, 1005, 0, 1005, 0, 1, 1, 0, 1, 0, 1, 1, 1005, 1, 1, 1, 0, 1, 0, 1, 1, 1005, 1, 1, 1, 0, 1, 0, 1, 1, 1005, 1, 1, 1, 5, 5, 5, 5, 5, 5, 1000, 1000, 1000, 0, 1000, 0, 1000, 5, 5, 5, 5, 1001, 1001, 1001, 0, 1001, 0, 1001, 5, 5, 5, 5, 0, 0, 1, 5, 5, 0, 0, 2, 5]
theorem cmAg1 (w : World) (b₁ b₂ : Bool) (a : CmA) (u v : RowS) (sz tk : Nat) :
    SegOk (PTr (wB w b₁ b₂).params (cmRo (wB w b₁ b₂).params a keysA u v)) 600 (cmCf (wB w b₁ b₂).params a sz tk) hCAg prI [ltS v.m u.m, ltS u.m v.m] [true, false]
    (some (1), .base) := by
  cases b₁ <;> kernel_rfl
noncomputable def hCAel : List Nat := [0, 0, 1, 1, 1, 1, 1, 1, 0, 0, 1, 1002, 0, 0, 0, 0, 1002, 0, 0, 0, 1002, 1002, 0, 1003, 1004, 1004, 0, 1004, 0, 1, 0, 1, 0, 1, 0, 1, 1, 1004, 1, 1, 1, 1005, 1005, 1005, 0, 1005, 0, 1, 1, 0, 1, 0, 1, 1, 1005, 1, 1, 1, 0, 1, 0, 1, 1, 1005, 1, 1, 1, 0, 1, 0, 1, 1, 1005, 1, 1, 1, 5, 5, 5, 5, 5, 5, 1000, 1000, 1000, 0, 1000, 0, 1000, 5, 5, 5, 5, 1001, 1001, 1001, 0, 1001, 0, 1001, 5, 5, 5, 5, 0, 0, 1, 5, 5, 0, 0, 1, 0, 4, 0, 4, 0, 4, 4, 1004, 4, 4, 4, 1006, 1006, 1006, 0, 1006, 0, 1, 1, 0, 1, 0, 1, 1, 1006, 1, 1, 1, 0, 1, 0, 1, 1, 1006, 1, 1, 1, 0, 1, 0, 1, 1, 1006, 1, 1, 1, 8, 8, 8, 8, 8, 8, 1000, 1000, 1000, 0, 1000, 0, 1000, 8, 8, 8, 8, 1001, 1001, 1001, 0, 1001, 0, 1001, 8, 8, 8, 8, 0, 0, 2, 8, 0, 0]
theorem cmAel1 (w : World) (b₁ b₂ : Bool) (a : CmA) (u v : RowS) (sz tk : Nat) :
    SegOk (PTr (wB w b₁ b₂).params (cmRo (wB w b₁ b₂).params a keysA u v)) 600 (cmCf (wB w b₁ b₂).params a sz tk) hCAel prI [ltS u.f v.f, ltS v.m u.m, ltS u.m v.m] [true, false, false]
    (some (-1), .base) := by
  cases b₁ <;> kernel_rfl
noncomputable def hCAeg : List Nat := [0, 0, 1, 1, 1, 1, 1, 1, 0, 0, 1, 1002, 0, 0, 0, 0, 1002, 0, 0, 0, 1002, 1002, 0, 1003, 1004, 1004, 0, 1004, 0, 1, 0, 1, 0, 1, 0, 1, 1, 1004, 1, 1, 1, 1005, 1005, 1005, 0, 1005, 0, 1, 1, 0, 1, 0, 1, 1, 1005, 1, 1, 1, 0, 1, 0, 1, 1, 1005, 1, 1, 1, 0, 1, 0, 1, 1, 1005, 1, 1, 1, 5, 5, 5, 5, 5, 5, 1000, 1000, 1000, 0, 1000, 0, 1000, 5, 5, 5, 5, 1001, 1001, 1001, 0, 1001, 0, 1001, 5, 5, 5, 5, 0, 0, 1, 5, 5, 0, 0, 1, 0, 4, 0, 4, 0, 4, 4, 1004, 4, 4, 4, 1006, 1006, 1006, 0, 1006, 0, 1, 1, 0, 1, 0, 1, 1, 1006, 1, 1, 1, 0, 1, 0, 1, 1, 1006, 1, 1, 1, 0, 1, 0, 1, 1, 1006, 1, 1, 1, 8, 8, 8, 8, 8, 8, 1000, 1000, 1000, 0, 1000, 0, 1000, 8, 8, 8, 8, 1001, 1001, 1001, 0, 1001, 0, 1001, 8, 8, 8, 8, 0, 0, 1, 8, 8, 0, 0, 2, 8]
theorem cmAeg1 (w : World) (b₁ b₂ : Bool) (a : CmA) (u v : RowS) (sz tk : Nat) :
    SegOk (PTr (wB w b₁ b₂).params (cmRo (wB w b₁ b₂).params a keysA u v)) 600 (cmCf (wB w b₁ b₂).params a sz tk) hCAeg prI [ltS v.f u.f, ltS u.f v.f, ltS v.m u.m, ltS u.m v.m] [true, false, false, false]
    (some (1), .base) := by
  cases b₁ <;> kernel_rfl
noncomputable def hCAeel : List Nat := [0, 0, 1, 1, 1, 1, 1, 1, 0, 0, 1, 1002, 0, 0, 0, 0, 1002, 0, 0, 0, 1002, 1002, 0, 1003, 1004, 1004, 0, 1004, 0, 1, 0, 1, 0, 1, 0, 1, 1, 1004, 1, 1, 1, 1005, 1005, 1005, 0, 1005, 0, 1, 1, 0, 1, 0, 1, 1, 1005, 1, 1, 1, 0, 1, 0, 1, 1, 1005, 1, 1, 1, 0, 1, 0, 1, 1, 1005, 1, 1, 1, 5, 5, 5, 5, 5, 5, 1000, 1000, 1000, 0, 1000, 0, 1000, 5, 5, 5, 5, 1001, 1001, 1001, 0, 1001, 0, 1001, 5, 5, 5, 5, 0, 0, 1, 5, 5, 0, 0, 1, 0, 4, 0, 4, 0, 4, 4, 1004, 4, 4, 4, 1006, 1006, 1006, 0, 1006, 0, 1, 1, 0, 1, 0, 1, 1, 1006, 1, 1, 1, 0, 1, 0, 1, 1, 1006, 1, 1, 1, 0, 1, 0, 1, 1, 1006, 1, 1, 1, 8, 8, 8, 8, 8, 8, 1000, 1000, 1000, 0, 1000, 0, 1000, 8, 8, 8, 8, 1001, 1001, 1001, 0, 1001, 0, 1001, 8, 8, 8, 8, 0, 0, 1, 8, 8, 0, 0, 1, 0, 7, 0, 7, 0, 7, 7, 1004, 7, 7, 7, 1007, 1007, 1007, 0, 1007, 0, 1, 1, 0, 1, 0, 1, 1, 1007, 1, 1, 1, 0, 1, 0, 1, 1, 1007, 1, 1, 1, 0, 1, 0, 1, 1, 1007, 1, 1, 1, 11, 11, 11, 11, 11, 11, 1000, 1000, 1000, 0, 1000, 0, 1000, 11, 11, 11, 11, 1001, 1001, 1001, 0, 1001, 0, 1001, 11, 11, 11, 11, 0, 0, 2, 11, 0, 0]
theorem cmAeel1 (w : World) (b₁ b₂ : Bool) (a : CmA) (u v : RowS) (sz tk : Nat) :
    SegOk (PTr (wB w b₁ b₂).params (cmRo (wB w b₁ b₂).params a keysA u v)) 600 (cmCf (wB w b₁ b₂).params a sz tk) hCAeel prI [decide (u.n < v.n), ltS v.f u.f, ltS u.f v.f, ltS v.m u.m, ltS u.m v.m] [true, false, false, false, false]
    (some (-1), .base) := by
  cases b₁ <;> kernel_rfl
noncomputable def hCAeeg : List Nat := [0, 0, 1, 1, 1, 1, 1, 1, 0, 0, 1, 1002, 0, 0, 0, 0, 1002, 0, 0, 0, 1002, 1002, 0, 1003, 1004, 1004, 0, 1004, 0, 1, 0, 1, 0, 1, 0, 1, 1, 1004, 1, 1, 1, 1005, 1005, 1005, 0, 1005, 0, 1, 1, 0, 1, 0, 1, 1, 1005, 1, 1, 1, 0, 1, 0, 1, 1, 1005, 1, 1, 1, 0, 1, 0, 1, 1, 1005, 1, 1, 1, 5, 5, 5, 5, 5, 5, 1000, 1000, 1000, 0, 1000, 0, 1000, 5, 5, 5, 5, 1001, 1001, 1001, 0, 1001, 0, 1001, 5, 5, 5, 5, 0, 0, 1, 5, 5, 0, 0, 1, 0, 4, 0, 4, 0, 4, 4, 1004, 4, 4, 4, 1006, 1006, 1006, 0, 1006, 0, 1, 1, 0, 1, 0, 1, 1, 1006, 1, 1, 1, 0, 1, 0, 1, 1, 1006, 1, 1, 1, 0, 1, 0, 1, 1, 1006, 1, 1, 1, 8, 8, 8, 8, 8, 8, 1000, 1000, 1000, 0, 1000, 0, 1000, 8, 8, 8, 8, 1001, 1001, 1001, 0, 1001, 0, 1001, 8, 8, 8, 8, 0, 0, 1, 8, 8, 0, 0, 1, 0, 7, 0, 7, 0, 7, 7, 1004, 7, 7, 7, 1007, 1007, 1007, 0, 1007, 0, 1, 1, 0, 1, 0, 1, 1, 1007, 1, 1, 1, 0, 1, 0, 1, 1, 1007, 1, 1, 1, 0, 1, 0, 1, 1, 1007, 1, 1, 1, 11, 11, 11, 11, 11, 11, 1000, 1000, 1000, 0, 1000, 0, 1000, 11, 11, 11, 11, 1001, 1001, 1001, 0, 1001, 0, 1001, 11, 11, 11, 11, 0, 0, 1, 11, 11, 0, 0, 2, 11]
theorem cmAeeg1 (w : World) (b₁ b₂ : Bool) (a : CmA) (u v : RowS) (sz tk : Nat) :
    SegOk (PTr (wB w b₁ b₂).params (cmRo (wB w b₁ b₂).params a keysA u v)) 600 (cmCf (wB w b₁ b₂).params a sz tk) hCAeeg prI [decide (u.n > v.n), decide (u.n < v.n), ltS v.f u.f, ltS u.f v.f, ltS v.m u.m, ltS u.m v.m] [true, false, false, false, false, false]
    (some (1), .base) := by
  cases b₁ <;> kernel_rfl
noncomputable def hCAeee : List Nat := [0, 0, 1, 1, 1, 1, 1, 1, 0, 0, 1, 1002, 0, 0, 0, 0, 1002, 0, 0, 0, 1002, 1002, 0, 1003, 1004, 1004, 0, 1004, 0, 1, 0, 1, 0, 1, 0, 1, 1, 1004, 1, 1, 1, 1005, 1005, 1005, 0, 1005, 0, 1, 1, 0, 1, 0, 1, 1, 1005, 1, 1, 1, 0, 1, 0, 1, 1, 1005, 1, 1, 1, 0, 1, 0, 1, 1, 1005, 1, 1, 1, 5, 5, 5, 5, 5, 5, 1000, 1000, 1000, 0, 1000, 0, 1000, 5, 5, 5, 5, 1001, 1001, 1001, 0, 1001, 0, 1001, 5, 5, 5, 5, 0, 0, 1, 5, 5, 0, 0, 1, 0, 4, 0, 4, 0, 4, 4, 1004, 4, 4, 4, 1006, 1006, 1006, 0, 1006, 0, 1, 1, 0, 1, 0, 1, 1, 1006, 1, 1, 1, 0, 1, 0, 1, 1, 1006, 1, 1, 1, 0, 1, 0, 1, 1, 1006, 1, 1, 1, 8, 8, 8, 8, 8, 8, 1000, 1000, 1000, 0, 1000, 0, 1000, 8, 8, 8, 8, 1001, 1001, 1001, 0, 1001, 0, 1001, 8, 8, 8, 8, 0, 0, 1, 8, 8, 0, 0, 1, 0, 7, 0, 7, 0, 7, 7, 1004, 7, 7, 7, 1007, 1007, 1007, 0, 1007, 0, 1, 1, 0, 1, 0, 1, 1, 1007, 1, 1, 1, 0, 1, 0, 1, 1, 1007, 1, 1, 1, 0, 1, 0, 1, 1, 1007, 1, 1, 1, 11, 11, 11, 11, 11, 11, 1000, 1000, 1000, 0, 1000, 0, 1000, 11, 11, 11, 11, 1001, 1001, 1001, 0, 1001, 0, 1001, 11, 11, 11, 11, 0, 0, 1, 11, 11, 0, 0, 1, 0, 10, 0, 10, 0, 10, 10, 1004, 10, 10, 1, 0]
theorem cmAeee1 (w : World) (b₁ b₂ : Bool) (a : CmA) (u v : RowS) (sz tk : Nat) :
    SegOk (PTr (wB w b₁ b₂).params (cmRo (wB w b₁ b₂).params a keysA u v)) 600 (cmCf (wB w b₁ b₂).params a sz tk) hCAeee prI [decide (u.n > v.n), decide (u.n < v.n), ltS v.f u.f, ltS u.f v.f, ltS v.m u.m, ltS u.m v.m] [false, false, false, false, false, false]
    (some (0), .base) := by
  cases b₁ <;> kernel_rfl
noncomputable def hCBl : List Nat := [0, 0, 1, 1, 1, 1, 1, 1, 0, 0, 1, 1002, 0, 0, 0, 0, 1002, 0, 0, 0, 1002, 1002, 0, 1003, 1004, 1004, 0, 1004, 0, 1, 0, 1, 0, 1, 0, 1, 1, 1004, 1, 1, 1, 1005, 1005, 1005, 0, 1005, 0, 1, 1, 0, 1, 0, 1, 1, 1005, 1, 1, 1, 0, 1, 0, 1, 1, 1005, 1, 1, 1, 0, 1, 0, 1, 1, 1005, 1, 1, 1, 5, 5, 5, 5, 5, 5, 1000, 1000, 1000, 0, 1000, 0, 1000, 5, 5, 5, 5, 1001, 1001, 1001, 0, 1001, 0, 1001, 5, 5, 5, 5, 0, 0, 2, 5, 0, 0]
theorem cmBl1 (w : World) (b₁ b₂ : Bool) (a : CmA) (u v : RowS) (sz tk : Nat) :
    SegOk (PTr (wB w b₁ b₂).params (cmRo (wB w b₁ b₂).params a keysB u v)) 600 (cmCf (wB w b₁ b₂).params a sz tk) hCBl prI [ltS u.f v.f] [true]
    (some (1), .base) := by
  cases b₁ <;> kernel_rfl
noncomputable def hCBg : List Nat := [0, 0, 1, 1, 1, 1, 1, 1, 0, 0, 1, 1002, 0, 0, 0, 0, 1002, 0, 0, 0, 1002, 1002, 0, 1003, 1004, 1004, 0, 1004, 0, 1, 0, 1, 0, 1, 0, 1, 1, 1004, 1, 1, 1, 1005, 1005, 1005, 0, 1005, 0, 1, 1, 0, 1, 0, 1, 1, 1005, 1, 1, 1, 0, 1, 0, 1, 1, 1005, 1, 1, 1, 0, 1, 0, 1, 1, 1005, 1, 1, 1, 5, 5, 5, 5, 5, 5, 1000, 1000, 1000, 0, 1000, 0, 1000, 5, 5, 5, 5, 1001, 1001, 1001, 0, 1001, 0, 1001, 5, 5, 5, 5, 0, 0, 1, 5, 5, 0, 0, 2, 5]
theorem cmBg1 (w : World) (b₁ b₂ : Bool) (a : CmA) (u v : RowS) (sz tk : Nat) :
    SegOk (PTr (wB w b₁ b₂).params (cmRo (wB w b₁ b₂).params a keysB u v)) 600 (cmCf (wB w b₁ b₂).params a sz tk) hCBg prI [ltS v.f u.f, ltS u.f v.f] [true, false]
    (some (-1), .base) := by
  cases b₁ <;> kernel_rfl
noncomputable def hCBel : List Nat := [0, 0, 1, 1, 1, 1, 1, 1, 0, 0, 1, 1002, 0, 0, 0, 0, 1002, 0, 0, 0, 1002, 1002, 0, 1003, 1004, 1004, 0, 1004, 0, 1, 0, 1, 0, 1, 0, 1, 1, 1004, 1, 1, 1, 1005, 1005, 1005, 0, 1005, 0, 1, 1, 0, 1, 0, 1, 1, 1005, 1, 1, 1, 0, 1, 0, 1, 1, 1005, 1, 1, 1, 0, 1, 0, 1, 1, 1005, 1, 1, 1, 5, 5, 5, 5, 5, 5, 1000, 1000, 1000, 0, 1000, 0, 1000, 5, 5, 5, 5, 1001, 1001, 1001, 0, 1001, 0, 1001, 5, 5, 5, 5, 0, 0, 1, 5, 5, 0, 0, 1, 0, 4, 0, 4, 0, 4, 4, 1004, 4, 4, 4, 1006, 1006, 1006, 0, 1006, 0, 1, 1, 0, 1, 0, 1, 1, 1006, 1, 1, 1, 0, 1, 0, 1, 1, 1006, 1, 1, 1, 0, 1, 0, 1, 1, 1006, 1, 1, 1, 8, 8, 8, 8, 8, 8, 1000, 1000, 1000, 0, 1000, 0, 1000, 8, 8, 8, 8, 1001, 1001, 1001, 0, 1001, 0, 1001, 8, 8, 8, 8, 0, 0, 2, 8, 0, 0]
theorem cmBel1 (w : World) (b₁ b₂ : Bool) (a : CmA) (u v : RowS) (sz tk : Nat) :
    SegOk (PTr (wB w b₁ b₂).params (cmRo (wB w b₁ b₂).params a keysB u v)) 600 (cmCf (wB w b₁ b₂).params a sz tk) hCBel prI [ltS u.m v.m, ltS v.f u.f, ltS u.f v.f] [true, false, false]
    (some (-1), .base) := by
  cases b₁ <;> kernel_rfl
noncomputable def hCBeg : List Nat := [0, 0, 1, 1, 1, 1, 1, 1, 0, 0, 1, 1002, 0, 0, 0, 0, 1002, 0, 0, 0, 1002, 1002, 0, 1003, 1004, 1004, 0, 1004, 0, 1, 0, 1, 0, 1, 0, 1, 1, 1004, 1, 1, 1, 1005, 1005, 1005, 0, 1005, 0, 1, 1, 0, 1, 0, 1, 1, 1005, 1, 1, 1, 0, 1, 0, 1, 1, 1005, 1, 1, 1, 0, 1, 0, 1, 1, 1005, 1, 1, 1, 5, 5, 5, 5, 5, 5, 1000, 1000, 1000, 0, 1000, 0, 1000, 5, 5, 5, 5, 1001, 1001, 1001, 0, 1001, 0, 1001, 5, 5, 5, 5, 0, 0, 1, 5, 5, 0, 0, 1, 0, 4, 0, 4, 0, 4, 4, 1004, 4, 4, 4, 1006, 1006, 1006, 0, 1006, 0, 1, 1, 0, 1, 0, 1, 1, 1006, 1, 1, 1, 0, 1, 0, 1, 1, 1006, 1, 1, 1, 0, 1, 0, 1, 1, 1006, 1, 1, 1, 8, 8, 8, 8, 8, 8, 1000, 1000, 1000, 0, 1000, 0, 1000, 8, 8, 8, 8, 1001, 1001, 1001, 0, 1001, 0, 1001, 8, 8, 8, 8, 0, 0, 1, 8, 8, 0, 0, 2, 8]
theorem cmBeg1 (w : World) (b₁ b₂ : Bool) (a : CmA) (u v : RowS) (sz tk : Nat) :
    SegOk (PTr (wB w b₁ b₂).params (cmRo (wB w b₁ b₂).params a keysB u v)) 600 (cmCf (wB w b₁ b₂).params a sz tk) hCBeg prI [ltS v.m u.m, ltS u.m v.m, ltS v.f u.f, ltS u.f v.f] [true, false, false, false]
    (some (1), .base) := by
  cases b₁ <;> kernel_rfl
noncomputable def hCBee : List Nat := [0, 0, 1, 1, 1, 1, 1, 1, 0, 0, 1, 1002, 0, 0, 0, 0, 1002, 0, 0, 0, 1002, 1002, 0, 1003, 1004, 1004, 0, 1004, 0, 1, 0, 1, 0, 1, 0, 1, 1, 1004, 1, 1, 1, 1005, 1005, 1005, 0, 1005, 0, 1, 1, 0, 1, 0, 1, 1, 1005, 1, 1, 1, 0, 1, 0, 1, 1, 1005, 1, 1, 1, 0, 1, 0, 1, 1, 1005, 1, 1, 1, 5, 5, 5, 5, 5, 5, 1000, 1000, 1000, 0, 1000, 0, 1000, 5, 5, 5, 5, 1001, 1001, 1001, 0, 1001, 0, 1001, 5, 5, 5, 5, 0, 0, 1, 5, 5, 0, 0, 1, 0, 4, 0, 4, 0, 4, 4, 1004, 4, 4, 4, 1006, 1006, 1006, 0, 1006, 0, 1, 1, 0, 1, 0, 1, 1, 1006, 1, 1, 1, 0, 1, 0, 1, 1, 1006, 1, 1, 1, 0, 1, 0, 1, 1, 1006, 1, 1, 1, 8, 8, 8, 8, 8, 8, 1000, 1000, 1000, 0, 1000, 0, 1000, 8, 8, 8, 8, 1001, 1001, 1001, 0, 1001, 0, 1001, 8, 8, 8, 8, 0, 0, 1, 8, 8, 0, 0, 1, 0, 7, 0, 7, 0, 7, 7, 1004, 7, 7, 1, 0]
theorem cmBee1 (w : World) (b₁ b₂ : Bool) (a : CmA) (u v : RowS) (sz tk : Nat) :
    SegOk (PTr (wB w b₁ b₂).params (cmRo (wB w b₁ b₂).params a keysB u v)) 600 (cmCf (wB w b₁ b₂).params a sz tk) hCBee prI [ltS v.m u.m, ltS u.m v.m, ltS v.f u.f, ltS u.f v.f] [false, false, false, false]
    (some (0), .base) := by
  cases b₁ <;> kernel_rfl
noncomputable def hCCl : List Nat := [0, 0, 1, 1, 1, 1, 1, 1, 0, 0, 1, 1002, 0, 0, 0, 0, 1002, 0, 0, 0, 1002, 1002, 0, 1003, 1004, 1004, 0, 1004, 0, 1, 0, 1, 0, 1, 0, 1, 1, 1004, 1, 1, 1, 1005, 1005, 1005, 0, 1005, 0, 1, 1, 0, 1, 0, 1, 1, 1005, 1, 1, 1, 0, 1, 0, 1, 1, 1005, 1, 1, 1, 0, 1, 0, 1, 1, 1005, 1, 1, 1, 5, 5, 5, 5, 5, 5, 1000, 1000, 1000, 0, 1000, 0, 1000, 5, 5, 5, 5, 1001, 1001, 1001, 0, 1001, 0, 1001, 5, 5, 5, 5, 0, 0, 2, 5, 0, 0]
theorem cmCl1 (w : World) (b₁ b₂ : Bool) (a : CmA) (u v : RowS) (sz tk : Nat) :
    SegOk (PTr (wB w b₁ b₂).params (cmRo (wB w b₁ b₂).params a keysC u v)) 600 (cmCf (wB w b₁ b₂).params a sz tk) hCCl prI [decide (u.n < v.n)] [true]
    (some (1), .base) := by
  cases b₁ <;> kernel_rfl
noncomputable def hCCg : List Nat := [0, 0, 1, 1, 1, 1, 1, 1, 0, 0, 1, 1002, 0, 0, 0, 0, 1002, 0, 0, 0, 1002, 1002, 0, 1003, 1004, 1004, 0, 1004, 0, 1, 0, 1, 0, 1, 0, 1, 1, 1004, 1, 1, 1, 1005, 1005, 1005, 0, 1005, 0, 1, 1, 0, 1, 0, 1, 1, 1005, 1, 1, 1, 0, 1, 0, 1, 1, 1005, 1, 1, 1, 0, 1, 0, 1, 1, 1005, 1, 1, 1, 5, 5, 5, 5, 5, 5, 1000, 1000, 1000, 0, 1000, 0, 1000, 5, 5, 5, 5, 1001, 1001, 1001, 0, 1001, 0, 1001, 5, 5, 5, 5, 0, 0, 1, 5, 5, 0, 0, 2, 5]
theorem cmCg1 (w : World) (b₁ b₂ : Bool) (a : CmA) (u v : RowS) (sz tk : Nat) :
    SegOk (PTr (wB w b₁ b₂).params (cmRo (wB w b₁ b₂).params a keysC u v)) 600 (cmCf (wB w b₁ b₂).params a sz tk) hCCg prI [decide (u.n > v.n), decide (u.n < v.n)] [true, false]
    (some (-1), .base) := by
  cases b₁ <;> kernel_rfl
noncomputable def hCCel : List Nat := [0, 0, 1, 1, 1, 1, 1, 1, 0, 0, 1, 1002, 0, 0, 0, 0, 1002, 0, 0, 0, 1002, 1002, 0, 1003, 1004, 1004, 0, 1004, 0, 1, 0, 1, 0, 1, 0, 1, 1, 1004, 1, 1, 1, 1005, 1005, 1005, 0, 1005, 0, 1, 1, 0, 1, 0, 1, 1, 1005, 1, 1, 1, 0, 1, 0, 1, 1, 1005, 1, 1, 1, 0, 1, 0, 1, 1, 1005, 1, 1, 1, 5, 5, 5, 5, 5, 5, 1000, 1000, 1000, 0, 1000, 0, 1000, 5, 5, 5, 5, 1001, 1001, 1001, 0, 1001, 0, 1001, 5, 5, 5, 5, 0, 0, 1, 5, 5, 0, 0, 1, 0, 4, 0, 4, 0, 4, 4, 1004, 4, 4, 4, 1006, 1006, 1006, 0, 1006, 0, 1, 1, 0, 1, 0, 1, 1, 1006, 1, 1, 1, 0, 1, 0, 1, 1, 1006, 1, 1, 1, 0, 1, 0, 1, 1, 1006, 1, 1, 1, 8, 8, 8, 8, 8, 8, 1000, 1000, 1000, 0, 1000, 0, 1000, 8, 8, 8, 8, 1001, 1001, 1001, 0, 1001, 0, 1001, 8, 8, 8, 8, 0, 0, 2, 8, 0, 0]
theorem cmCel1 (w : World) (b₁ b₂ : Bool) (a : CmA) (u v : RowS) (sz tk : Nat) :
    SegOk (PTr (wB w b₁ b₂).params (cmRo (wB w b₁ b₂).params a keysC u v)) 600 (cmCf (wB w b₁ b₂).params a sz tk) hCCel prI [ltS u.m v.m, decide (u.n > v.n), decide (u.n < v.n)] [true, false, false]
    (some (1), .base) := by
  cases b₁ <;> kernel_rfl
noncomputable def hCCeg : List Nat := [0, 0, 1, 1, 1, 1, 1, 1, 0, 0, 1, 1002, 0, 0, 0, 0, 1002, 0, 0, 0, 1002, 1002, 0, 1003, 1004, 1004, 0, 1004, 0, 1, 0, 1, 0, 1, 0, 1, 1, 1004, 1, 1, 1, 1005, 1005, 1005, 0, 1005, 0, 1, 1, 0, 1, 0, 1, 1, 1005, 1, 1, 1, 0, 1, 0, 1, 1, 1005, 1, 1, 1, 0, 1, 0, 1, 1, 1005, 1, 1, 1, 5, 5, 5, 5, 5, 5, 1000, 1000, 1000, 0, 1000, 0, 1000, 5, 5, 5, 5, 1001, 1001, 1001, 0, 1001, 0, 1001, 5, 5, 5, 5, 0, 0, 1, 5, 5, 0, 0, 1, 0, 4, 0, 4, 0, 4, 4, 1004, 4, 4, 4, 1006, 1006, 1006, 0, 1006, 0, 1, 1, 0, 1, 0, 1, 1, 1006, 1, 1, 1, 0, 1, 0, 1, 1, 1006, 1, 1, 1, 0, 1, 0, 1, 1, 1006, 1, 1, 1, 8, 8, 8, 8, 8, 8, 1000, 1000, 1000, 0, 1000, 0, 1000, 8, 8, 8, 8, 1001, 1001, 1001, 0, 1001, 0, 1001, 8, 8, 8, 8, 0, 0, 1, 8, 8, 0, 0, 2, 8]
theorem cmCeg1 (w : World) (b₁ b₂ : Bool) (a : CmA) (u v : RowS) (sz tk : Nat) :
    SegOk (PTr (wB w b₁ b₂).params (cmRo (wB w b₁ b₂).params a keysC u v)) 600 (cmCf (wB w b₁ b₂).params a sz tk) hCCeg prI [ltS v.m u.m, ltS u.m v.m, decide (u.n > v.n), decide (u.n < v.n)] [true, false, false, false]
    (some (-1), .base) := by
  cases b₁ <;> kernel_rfl
noncomputable def hCCeel : List Nat := [0, 0, 1, 1, 1, 1, 1, 1, 0, 0, 1, 1002, 0, 0, 0, 0, 1002, 0, 0, 0, 1002, 1002, 0, 1003, 1004, 1004, 0, 1004, 0, 1, 0, 1, 0, 1, 0, 1, 1, 1004, 1, 1, 1, 1005, 1005, 1005, 0, 1005, 0, 1, 1, 0, 1, 0, 1, 1, 1005, 1, 1, 1, 0, 1, 0, 1, 1, 1005, 1, 1, 1, 0, 1, 0, 1, 1, 1005, 1, 1, 1, 5, 5, 5, 5, 5, 5, 1000, 1000, 1000, 0, 1000, 0, 1000, 5, 5, 5, 5, 1001, 1001, 1001, 0, 1001, 0, 1001, 5, 5, 5, 5, 0, 0, 1, 5, 5, 0, 0, 1, 0, 4, 0, 4, 0, 4, 4, 1004, 4, 4, 4, 1006, 1006, 1006, 0, 1006, 0, 1, 1, 0, 1, 0, 1, 1, 1006, 1, 1, 1, 0, 1, 0, 1, 1, 1006, 1, 1, 1, 0, 1, 0, 1, 1, 1006, 1, 1, 1, 8, 8, 8, 8, 8, 8, 1000, 1000, 1000, 0, 1000, 0, 1000, 8, 8, 8, 8, 1001, 1001, 1001, 0, 1001, 0, 1001, 8, 8, 8, 8, 0, 0, 1, 8, 8, 0, 0, 1, 0, 7, 0, 7, 0, 7, 7, 1004, 7, 7, 7, 1007, 1007, 1007, 0, 1007, 0, 1, 1, 0, 1, 0, 1, 1, 1007, 1, 1, 1, 0, 1, 0, 1, 1, 1007, 1, 1, 1, 0, 1, 0, 1, 1, 1007, 1, 1, 1, 11, 11, 11, 11, 11, 11, 1000, 1000, 1000, 0, 1000, 0, 1000, 11, 11, 11, 11, 1001, 1001, 1001, 0, 1001, 0, 1001, 11, 11, 11, 11, 0, 0, 2, 11, 0, 0]
theorem cmCeel1 (w : World) (b₁ b₂ : Bool) (a : CmA) (u v : RowS) (sz tk : Nat) :
    SegOk (PTr (wB w b₁ b₂).params (cmRo (wB w b₁ b₂).params a keysC u v)) 600 (cmCf (wB w b₁ b₂).params a sz tk) hCCeel prI [ltS u.f v.f, ltS v.m u.m, ltS u.m v.m, decide (u.n > v.n), decide (u.n < v.n)] [true, false, false, false, false]
    (some (-1), .base) := by
  cases b₁ <;> kernel_rfl
noncomputable def hCCeeg : List Nat := [0, 0, 1, 1, 1, 1, 1, 1, 0, 0, 1, 1002, 0, 0, 0, 0, 1002, 0, 0, 0, 1002, 1002, 0, 1003, 1004, 1004, 0, 1004, 0, 1, 0, 1, 0, 1, 0, 1, 1, 1004, 1, 1, 1, 1005, 1005, 1005, 0, 1005, 0, 1, 1, 0, 1, 0, 1, 1, 1005, 1, 1, 1, 0, 1, 0, 1, 1, 1005, 1, 1, 1, 0, 1, 0, 1, 1, 1005, 1, 1, 1, 5, 5, 5, 5, 5, 5, 1000, 1000, 1000, 0, 1000, 0, 1000, 5, 5, 5, 5, 1001, 1001, 1001, 0, 1001, 0, 1001, 5, 5, 5, 5, 0, 0, 1, 5, 5, 0, 0, 1, 0, 4, 0, 4, 0, 4, 4, 1004, 4, 4, 4, 1006, 1006, 1006, 0, 1006, 0, 1, 1, 0, 1, 0, 1, 1, 1006, 1, 1, 1, 0, 1, 0, 1, 1, 1006, 1, 1, 1, 0, 1, 0, 1, 1, 1006, 1, 1, 1, 8, 8, 8, 8, 8, 8, 1000, 1000, 1000, 0, 1000, 0, 1000, 8, 8, 8, 8, 1001, 1001, 1001, 0, 1001, 0, 1001, 8, 8, 8, 8, 0, 0, 1, 8, 8, 0, 0, 1, 0, 7, 0, 7, 0, 7, 7, 1004, 7, 7, 7, 1007, 1007, 1007, 0, 1007, 0, 1, 1, 0, 1, 0, 1, 1, 1007, 1, 1, 1, 0, 1, 0, 1, 1, 1007, 1, 1, 1, 0, 1, 0, 1, 1, 1007, 1, 1, 1, 11, 11, 11, 11, 11, 11, 1000, 1000, 1000, 0, 1000, 0, 1000, 11, 11, 11, 11, 1001, 1001, 1001, 0, 1001, 0, 1001, 11, 11, 11, 11, 0, 0, 1, 11, 11, 0, 0, 2, 11]
theorem cmCeeg1 (w : World) (b₁ b₂ : Bool) (a : CmA) (u v : RowS) (sz tk : Nat) :
    SegOk (PTr (wB w b₁ b₂).params (cmRo (wB w b₁ b₂).params a keysC u v)) 600 (cmCf (wB w b₁ b₂).params a sz tk) hCCeeg prI [ltS v.f u.f, ltS u.f v.f, ltS v.m u.m, ltS u.m v.m, decide (u.n > v.n), decide (u.n < v.n)] [true, false, false, false, false, false]
    (some (1), .base) := by
  cases b₁ <;> kernel_rfl
noncomputable def hCCeee : List Nat := [0, 0, 1, 1, 1, 1, 1, 1, 0, 0, 1, 1002, 0, 0, 0, 0, 1002, 0, 0, 0, 1002, 1002, 0, 1003, 1004, 1004, 0, 1004, 0, 1, 0, 1, 0, 1, 0, 1, 1, 1004, 1, 1, 1, 1005, 1005, 1005, 0, 1005, 0, 1, 1, 0, 1, 0, 1, 1, 1005, 1, 1, 1, 0, 1, 0, 1, 1, 1005, 1, 1, 1, 0, 1, 0, 1, 1, 1005, 1, 1, 1, 5, 5, 5, 5, 5, 5, 1000, 1000, 1000, 0, 1000, 0, 1000, 5, 5, 5, 5, 1001, 1001, 1001, 0, 1001, 0, 1001, 5, 5, 5, 5, 0, 0, 1, 5, 5, 0, 0, 1, 0, 4, 0, 4, 0, 4, 4, 1004, 4, 4, 4, 1006, 1006, 1006, 0, 1006, 0, 1, 1, 0, 1, 0, 1, 1, 1006, 1, 1, 1, 0, 1, 0, 1, 1, 1006, 1, 1, 1, 0, 1, 0, 1, 1, 1006, 1, 1, 1, 8, 8, 8, 8, 8, 8, 1000, 1000, 1000, 0, 1000, 0, 1000, 8, 8, 8, 8, 1001, 1001, 1001, 0, 1001, 0, 1001, 8, 8, 8, 8, 0, 0, 1, 8, 8, 0, 0, 1, 0, 7, 0, 7, 0, 7, 7, 1004, 7, 7, 7, 1007, 1007, 1007, 0, 1007, 0, 1, 1, 0, 1, 0, 1, 1, 1007, 1, 1, 1, 0, 1, 0, 1, 1, 1007, 1, 1, 1, 0, 1, 0, 1, 1, 1007, 1, 1, 1, 11, 11, 11, 11, 11, 11, 1000, 1000, 1000, 0, 1000, 0, 1000, 11, 11, 11, 11, 1001, 1001, 1001, 0, 1001, 0, 1001, 11, 11, 11, 11, 0, 0, 1, 11, 11, 0, 0, 1, 0, 10, 0, 10, 0, 10, 10, 1004, 10, 10, 1, 0]
theorem cmCeee1 (w : World) (b₁ b₂ : Bool) (a : CmA) (u v : RowS) (sz tk : Nat) :
    SegOk (PTr (wB w b₁ b₂).params (cmRo (wB w b₁ b₂).params a keysC u v)) 600 (cmCf (wB w b₁ b₂).params a sz tk) hCCeee prI [ltS v.f u.f, ltS u.f v.f, ltS v.m u.m, ltS u.m v.m, decide (u.n > v.n), decide (u.n < v.n)] [false, false, false, false, false, false]
    (some (0), .base) := by
  cases b₁ <;> kernel_rfl
noncomputable def hCDl : List Nat := [0, 0, 1, 1, 1, 1, 1, 1, 0, 0, 1, 1002, 0, 0, 0, 0, 1002, 0, 0, 0, 1002, 1002, 0, 1003, 1004, 1004, 0, 1004, 0, 1, 0, 1, 0, 1, 0, 1, 1, 1004, 1, 1, 1, 1005, 1005, 1005, 0, 1005, 0, 1, 1, 0, 1, 0, 1, 1, 1005, 1, 1, 1, 0, 1, 0, 1, 1, 1005, 1, 1, 1, 0, 1, 0, 1, 1, 1005, 1, 1, 1, 5, 5, 5, 5, 5, 5, 1000, 1000, 1000, 0, 1000, 0, 1000, 5, 5, 5, 5, 1001, 1001, 1001, 0, 1001, 0, 1001, 5, 5, 5, 5, 0, 0, 2, 5, 0, 0]
theorem cmDl1 (w : World) (b₁ b₂ : Bool) (a : CmA) (u v : RowS) (sz tk : Nat) :
    SegOk (PTr (wB w b₁ b₂).params (cmRo (wB w b₁ b₂).params a keysD u v)) 600 (cmCf (wB w b₁ b₂).params a sz tk) hCDl prI [ltS u.m v.m] [true]
    (some (1), .base) := by
  cases b₁ <;> kernel_rfl
noncomputable def hCDg : List Nat := [0, 0, 1, 1, 1, 1, 1, 1, 0, 0, 1, 1002, 0, 0, 0, 0, 1002, 0, 0, 0, 1002, 1002, 0, 1003, 1004, 1004, 0, 1004, 0, 1, 0, 1, 0, 1, 0, 1, 1, 1004, 1, 1, 1, 1005, 1005, 1005, 0, 1005, 0, 1, 1, 0, 1, 0, 1, 1, 1005, 1, 1, 1, 0, 1, 0, 1, 1, 1005, 1, 1, 1, 0, 1, 0, 1, 1, 1005, 1, 1, 1, 5, 5, 5, 5, 5, 5, 1000, 1000, 1000, 0, 1000, 0, 1000, 5, 5, 5, 5, 1001, 1001, 1001, 0, 1001, 0, 1001, 5, 5, 5, 5, 0, 0, 1, 5, 5, 0, 0, 2, 5]
theorem cmDg1 (w : World) (b₁ b₂ : Bool) (a : CmA) (u v : RowS) (sz tk : Nat) :
    SegOk (PTr (wB w b₁ b₂).params (cmRo (wB w b₁ b₂).params a keysD u v)) 600 (cmCf (wB w b₁ b₂).params a sz tk) hCDg prI [ltS v.m u.m, ltS u.m v.m] [true, false]
    (some (-1), .base) := by
  cases b₁ <;> kernel_rfl
noncomputable def hCDe : List Nat := [0, 0, 1, 1, 1, 1, 1, 1, 0, 0, 1, 1002, 0, 0, 0, 0, 1002, 0, 0, 0, 1002, 1002, 0, 1003, 1004, 1004, 0, 1004, 0, 1, 0, 1, 0, 1, 0, 1, 1, 1004, 1, 1, 1, 1005, 1005, 1005, 0, 1005, 0, 1, 1, 0, 1, 0, 1, 1, 1005, 1, 1, 1, 0, 1, 0, 1, 1, 1005, 1, 1, 1, 0, 1, 0, 1, 1, 1005, 1, 1, 1, 5, 5, 5, 5, 5, 5, 1000, 1000, 1000, 0, 1000, 0, 1000, 5, 5, 5, 5, 1001, 1001, 1001, 0, 1001, 0, 1001, 5, 5, 5, 5, 0, 0, 1, 5, 5, 0, 0, 1, 0, 4, 0, 4, 0, 4, 4, 1004, 4, 4, 1, 0]
theorem cmDe1 (w : World) (b₁ b₂ : Bool) (a : CmA) (u v : RowS) (sz tk : Nat) :
    SegOk (PTr (wB w b₁ b₂).params (cmRo (wB w b₁ b₂).params a keysD u v)) 600 (cmCf (wB w b₁ b₂).params a sz tk) hCDe prI [ltS v.m u.m, ltS u.m v.m] [false, false]
    (some (0), .base) := by
  cases b₁ <;> kernel_rfl
end Mine
end
section
open PySem PySem.W PyProof.Rows PySem.Builtin PySem.Builtin.Str
set_option Elab.async false
set_option maxRecDepth 1000000
set_option maxHeartbeats 1000000
set_option linter.unusedVariables false
set_option linter.unusedSimpArgs false
namespace Mine
open PySem.W.X (Kont Means aroundOf endOf okMark XV)
/-- what compare tells of two rows by one key: less, greater or neither -/
noncomputable def lessK (i : Int) (u v : RowS) : Bool := if i = 1 then decide (u.n < v.n) else if i = 0 then ltS u.f v.f else ltS u.m v.m
noncomputable def cmpS : List (Int × Int) → RowS → RowS → Int
  | [], _, _ => 0
  | (i, d) :: ks, u, v => if lessK i u v then -d else if lessK i v u then d else cmpS ks u v
theorem intOf_some {t : Sem Fin} {i : Int} (h : intOf t = some i) : ∃ tok, t = .pure (.done (.ret (.int i tok))) := by
  unfold intOf at h
  split at h
  · cases h; exact ⟨_, rfl⟩
  · cases h
section
variable {w : World} {b₁ b₂ : Bool} {A : Around} {g : Heap} {n : Nat} {R : Result → Shared → Prop}
theorem cm_fin {a : CmA} {s : Shared} {i : Int} {ro : Led} {hs : List Nat} {s1 s2 : List Bool} (S : Sur n (wB w b₁ b₂).params A g) (hn : n ≤ 700) (hro : ∀ p ∈ ro, g.get? p.1 = some p.2) (D : Own g s.heap [])
    (e1 : SegOk (PTr (wB w b₁ b₂).params ro) 600 (cmCf (wB w b₁ b₂).params a s.heap.objs.size s.toks) hs prI s1 s2 (some i, .base)) (es : s1 = s2)
    (h : ∀ (s' : Shared) (tok : Nat), Own g s'.heap [] → s'.gens = s.gens → s'.drawn = s.drawn → s'.os = s.os → R (.ok (.ret (.int i tok))) s') :
    codeAny (model pw (wB w b₁ b₂)) A (cmCode a) R s := by
  refine code_good D ?_
  obtain ⟨cf', _, _, hp, G⟩ := seg2 (gens := s.gens) (pr := prI) (S.parR hn hro (R₀ := R) (d := s.drawn) (os := s.os)) e1 es
  simp only [prI, Prod.mk.injEq] at hp
  obtain ⟨p1, p2⟩ := hp
  obtain ⟨tok, ht⟩ := intOf_some p1
  exact G (good_ret ht p2 fun H D' _ => h ⟨H, s.gens, s.drawn, cf'.tk, s.os⟩ tok (D'.sub (fun p hp => by cases hp) .nil) rfl rfl rfl)
theorem cm_A {a : CmA} {s : Shared} {u v : RowS} (S : Sur n (wB w b₁ b₂).params A g) (hn : n ≤ 700) (hro : ∀ p ∈ cmRo (wB w b₁ b₂).params a keysA u v, g.get? p.1 = some p.2) (D : Own g s.heap [])
    (h : ∀ (s' : Shared) (tok : Nat), Own g s'.heap [] → s'.gens = s.gens → s'.drawn = s.drawn → s'.os = s.os → R (.ok (.ret (.int (cmpS keysA u v) tok))) s') :
    codeAny (model pw (wB w b₁ b₂)) A (cmCode a) R s := by
  cases h0 : ltS u.m v.m with
  | true =>
    exact cm_fin S hn hro D (cmAl1 w b₁ b₂ a u v _ _) (by simp only [GT.gt, h0]) (by simpa only [cmpS, keysA, lessK, h0, if_true, if_false, Bool.false_eq_true, show ((2 : Int) = 1) = False by decide, show ((0 : Int) = 1) = False by decide, show ((2 : Int) = 0) = False by decide, show ((1 : Int) = 1) = True by decide, show ((0 : Int) = 0) = True by decide, Int.neg_neg] using h)
  | false =>
    cases h1 : ltS v.m u.m with
    | true =>
      exact cm_fin S hn hro D (cmAg1 w b₁ b₂ a u v _ _) (by simp only [GT.gt, h0, h1]) (by simpa only [cmpS, keysA, lessK, h0, h1, if_true, if_false, Bool.false_eq_true, show ((2 : Int) = 1) = False by decide, show ((0 : Int) = 1) = False by decide, show ((2 : Int) = 0) = False by decide, show ((1 : Int) = 1) = True by decide, show ((0 : Int) = 0) = True by decide, Int.neg_neg] using h)
    | false =>
      cases h2 : ltS u.f v.f with
      | true =>
        exact cm_fin S hn hro D (cmAel1 w b₁ b₂ a u v _ _) (by simp only [GT.gt, h0, h1, h2]) (by simpa only [cmpS, keysA, lessK, h0, h1, h2, if_true, if_false, Bool.false_eq_true, show ((2 : Int) = 1) = False by decide, show ((0 : Int) = 1) = False by decide, show ((2 : Int) = 0) = False by decide, show ((1 : Int) = 1) = True by decide, show ((0 : Int) = 0) = True by decide, Int.neg_neg] using h)
      | false =>
        cases h3 : ltS v.f u.f with
        | true =>
          exact cm_fin S hn hro D (cmAeg1 w b₁ b₂ a u v _ _) (by simp only [GT.gt, h0, h1, h2, h3]) (by simpa only [cmpS, keysA, lessK, h0, h1, h2, h3, if_true, if_false, Bool.false_eq_true, show ((2 : Int) = 1) = False by decide, show ((0 : Int) = 1) = False by decide, show ((2 : Int) = 0) = False by decide, show ((1 : Int) = 1) = True by decide, show ((0 : Int) = 0) = True by decide, Int.neg_neg] using h)
        | false =>
          cases h4 : decide (u.n < v.n) with
          | true =>
            exact cm_fin S hn hro D (cmAeel1 w b₁ b₂ a u v _ _) (by simp only [GT.gt, h0, h1, h2, h3, h4]) (by simpa only [cmpS, keysA, lessK, h0, h1, h2, h3, h4, if_true, if_false, Bool.false_eq_true, show ((2 : Int) = 1) = False by decide, show ((0 : Int) = 1) = False by decide, show ((2 : Int) = 0) = False by decide, show ((1 : Int) = 1) = True by decide, show ((0 : Int) = 0) = True by decide, Int.neg_neg] using h)
          | false =>
            cases h5 : decide (v.n < u.n) with
            | true =>
              exact cm_fin S hn hro D (cmAeeg1 w b₁ b₂ a u v _ _) (by simp only [GT.gt, h0, h1, h2, h3, h4, h5]) (by simpa only [cmpS, keysA, lessK, h0, h1, h2, h3, h4, h5, if_true, if_false, Bool.false_eq_true, show ((2 : Int) = 1) = False by decide, show ((0 : Int) = 1) = False by decide, show ((2 : Int) = 0) = False by decide, show ((1 : Int) = 1) = True by decide, show ((0 : Int) = 0) = True by decide, Int.neg_neg] using h)
            | false =>
              exact cm_fin S hn hro D (cmAeee1 w b₁ b₂ a u v _ _) (by simp only [GT.gt, h0, h1, h2, h3, h4, h5]) (by simpa only [cmpS, keysA, lessK, h0, h1, h2, h3, h4, h5, if_true, if_false, Bool.false_eq_true, show ((2 : Int) = 1) = False by decide, show ((0 : Int) = 1) = False by decide, show ((2 : Int) = 0) = False by decide, show ((1 : Int) = 1) = True by decide, show ((0 : Int) = 0) = True by decide] using h)
theorem cm_B {a : CmA} {s : Shared} {u v : RowS} (S : Sur n (wB w b₁ b₂).params A g) (hn : n ≤ 700) (hro : ∀ p ∈ cmRo (wB w b₁ b₂).params a keysB u v, g.get? p.1 = some p.2) (D : Own g s.heap [])
    (h : ∀ (s' : Shared) (tok : Nat), Own g s'.heap [] → s'.gens = s.gens → s'.drawn = s.drawn → s'.os = s.os → R (.ok (.ret (.int (cmpS keysB u v) tok))) s') :
    codeAny (model pw (wB w b₁ b₂)) A (cmCode a) R s := by
  cases h0 : ltS u.f v.f with
  | true =>
    exact cm_fin S hn hro D (cmBl1 w b₁ b₂ a u v _ _) (by simp only [GT.gt, h0]) (by simpa only [cmpS, keysB, lessK, h0, if_true, if_false, Bool.false_eq_true, show ((2 : Int) = 1) = False by decide, show ((0 : Int) = 1) = False by decide, show ((2 : Int) = 0) = False by decide, show ((1 : Int) = 1) = True by decide, show ((0 : Int) = 0) = True by decide, Int.neg_neg] using h)
  | false =>
    cases h1 : ltS v.f u.f with
    | true =>
      exact cm_fin S hn hro D (cmBg1 w b₁ b₂ a u v _ _) (by simp only [GT.gt, h0, h1]) (by simpa only [cmpS, keysB, lessK, h0, h1, if_true, if_false, Bool.false_eq_true, show ((2 : Int) = 1) = False by decide, show ((0 : Int) = 1) = False by decide, show ((2 : Int) = 0) = False by decide, show ((1 : Int) = 1) = True by decide, show ((0 : Int) = 0) = True by decide, Int.neg_neg] using h)
    | false =>
      cases h2 : ltS u.m v.m with
      | true =>
        exact cm_fin S hn hro D (cmBel1 w b₁ b₂ a u v _ _) (by simp only [GT.gt, h0, h1, h2]) (by simpa only [cmpS, keysB, lessK, h0, h1, h2, if_true, if_false, Bool.false_eq_true, show ((2 : Int) = 1) = False by decide, show ((0 : Int) = 1) = False by decide, show ((2 : Int) = 0) = False by decide, show ((1 : Int) = 1) = True by decide, show ((0 : Int) = 0) = True by decide, Int.neg_neg] using h)
      | false =>
        cases h3 : ltS v.m u.m with
        | true =>
          exact cm_fin S hn hro D (cmBeg1 w b₁ b₂ a u v _ _) (by simp only [GT.gt, h0, h1, h2, h3]) (by simpa only [cmpS, keysB, lessK, h0, h1, h2, h3, if_true, if_false, Bool.false_eq_true, show ((2 : Int) = 1) = False by decide, show ((0 : Int) = 1) = False by decide, show ((2 : Int) = 0) = False by decide, show ((1 : Int) = 1) = True by decide, show ((0 : Int) = 0) = True by decide, Int.neg_neg] using h)
        | false =>
          exact cm_fin S hn hro D (cmBee1 w b₁ b₂ a u v _ _) (by simp only [GT.gt, h0, h1, h2, h3]) (by simpa only [cmpS, keysB, lessK, h0, h1, h2, h3, if_true, if_false, Bool.false_eq_true, show ((2 : Int) = 1) = False by decide, show ((0 : Int) = 1) = False by decide, show ((2 : Int) = 0) = False by decide, show ((1 : Int) = 1) = True by decide, show ((0 : Int) = 0) = True by decide] using h)
theorem cm_C {a : CmA} {s : Shared} {u v : RowS} (S : Sur n (wB w b₁ b₂).params A g) (hn : n ≤ 700) (hro : ∀ p ∈ cmRo (wB w b₁ b₂).params a keysC u v, g.get? p.1 = some p.2) (D : Own g s.heap [])
    (h : ∀ (s' : Shared) (tok : Nat), Own g s'.heap [] → s'.gens = s.gens → s'.drawn = s.drawn → s'.os = s.os → R (.ok (.ret (.int (cmpS keysC u v) tok))) s') :
    codeAny (model pw (wB w b₁ b₂)) A (cmCode a) R s := by
  cases h0 : decide (u.n < v.n) with
  | true =>
    exact cm_fin S hn hro D (cmCl1 w b₁ b₂ a u v _ _) (by simp only [GT.gt, h0]) (by simpa only [cmpS, keysC, lessK, h0, if_true, if_false, Bool.false_eq_true, show ((2 : Int) = 1) = False by decide, show ((0 : Int) = 1) = False by decide, show ((2 : Int) = 0) = False by decide, show ((1 : Int) = 1) = True by decide, show ((0 : Int) = 0) = True by decide, Int.neg_neg] using h)
  | false =>
    cases h1 : decide (v.n < u.n) with
    | true =>
      exact cm_fin S hn hro D (cmCg1 w b₁ b₂ a u v _ _) (by simp only [GT.gt, h0, h1]) (by simpa only [cmpS, keysC, lessK, h0, h1, if_true, if_false, Bool.false_eq_true, show ((2 : Int) = 1) = False by decide, show ((0 : Int) = 1) = False by decide, show ((2 : Int) = 0) = False by decide, show ((1 : Int) = 1) = True by decide, show ((0 : Int) = 0) = True by decide, Int.neg_neg] using h)
    | false =>
      cases h2 : ltS u.m v.m with
      | true =>
        exact cm_fin S hn hro D (cmCel1 w b₁ b₂ a u v _ _) (by simp only [GT.gt, h0, h1, h2]) (by simpa only [cmpS, keysC, lessK, h0, h1, h2, if_true, if_false, Bool.false_eq_true, show ((2 : Int) = 1) = False by decide, show ((0 : Int) = 1) = False by decide, show ((2 : Int) = 0) = False by decide, show ((1 : Int) = 1) = True by decide, show ((0 : Int) = 0) = True by decide, Int.neg_neg] using h)
      | false =>
        cases h3 : ltS v.m u.m with
        | true =>
          exact cm_fin S hn hro D (cmCeg1 w b₁ b₂ a u v _ _) (by simp only [GT.gt, h0, h1, h2, h3]) (by simpa only [cmpS, keysC, lessK, h0, h1, h2, h3, if_true, if_false, Bool.false_eq_true, show ((2 : Int) = 1) = False by decide, show ((0 : Int) = 1) = False by decide, show ((2 : Int) = 0) = False by decide, show ((1 : Int) = 1) = True by decide, show ((0 : Int) = 0) = True by decide, Int.neg_neg] using h)
        | false =>
          cases h4 : ltS u.f v.f with
          | true =>
            exact cm_fin S hn hro D (cmCeel1 w b₁ b₂ a u v _ _) (by simp only [GT.gt, h0, h1, h2, h3, h4]) (by simpa only [cmpS, keysC, lessK, h0, h1, h2, h3, h4, if_true, if_false, Bool.false_eq_true, show ((2 : Int) = 1) = False by decide, show ((0 : Int) = 1) = False by decide, show ((2 : Int) = 0) = False by decide, show ((1 : Int) = 1) = True by decide, show ((0 : Int) = 0) = True by decide, Int.neg_neg] using h)
          | false =>
            cases h5 : ltS v.f u.f with
            | true =>
              exact cm_fin S hn hro D (cmCeeg1 w b₁ b₂ a u v _ _) (by simp only [GT.gt, h0, h1, h2, h3, h4, h5]) (by simpa only [cmpS, keysC, lessK, h0, h1, h2, h3, h4, h5, if_true, if_false, Bool.false_eq_true, show ((2 : Int) = 1) = False by decide, show ((0 : Int) = 1) = False by decide, show ((2 : Int) = 0) = False by decide, show ((1 : Int) = 1) = True by decide, show ((0 : Int) = 0) = True by decide, Int.neg_neg] using h)
            | false =>
              exact cm_fin S hn hro D (cmCeee1 w b₁ b₂ a u v _ _) (by simp only [GT.gt, h0, h1, h2, h3, h4, h5]) (by simpa only [cmpS, keysC, lessK, h0, h1, h2, h3, h4, h5, if_true, if_false, Bool.false_eq_true, show ((2 : Int) = 1) = False by decide, show ((0 : Int) = 1) = False by decide, show ((2 : Int) = 0) = False by decide, show ((1 : Int) = 1) = True by decide, show ((0 : Int) = 0) = True by decide] using h)
theorem cm_D {a : CmA} {s : Shared} {u v : RowS} (S : Sur n (wB w b₁ b₂).params A g) (hn : n ≤ 700) (hro : ∀ p ∈ cmRo (wB w b₁ b₂).params a keysD u v, g.get? p.1 = some p.2) (D : Own g s.heap [])
    (h : ∀ (s' : Shared) (tok : Nat), Own g s'.heap [] → s'.gens = s.gens → s'.drawn = s.drawn → s'.os = s.os → R (.ok (.ret (.int (cmpS keysD u v) tok))) s') :
    codeAny (model pw (wB w b₁ b₂)) A (cmCode a) R s := by
  cases h0 : ltS u.m v.m with
  | true =>
    exact cm_fin S hn hro D (cmDl1 w b₁ b₂ a u v _ _) (by simp only [GT.gt, h0]) (by simpa only [cmpS, keysD, lessK, h0, if_true, if_false, Bool.false_eq_true, show ((2 : Int) = 1) = False by decide, show ((0 : Int) = 1) = False by decide, show ((2 : Int) = 0) = False by decide, show ((1 : Int) = 1) = True by decide, show ((0 : Int) = 0) = True by decide, Int.neg_neg] using h)
  | false =>
    cases h1 : ltS v.m u.m with
    | true =>
      exact cm_fin S hn hro D (cmDg1 w b₁ b₂ a u v _ _) (by simp only [GT.gt, h0, h1]) (by simpa only [cmpS, keysD, lessK, h0, h1, if_true, if_false, Bool.false_eq_true, show ((2 : Int) = 1) = False by decide, show ((0 : Int) = 1) = False by decide, show ((2 : Int) = 0) = False by decide, show ((1 : Int) = 1) = True by decide, show ((0 : Int) = 0) = True by decide, Int.neg_neg] using h)
    | false =>
      exact cm_fin S hn hro D (cmDe1 w b₁ b₂ a u v _ _) (by simp only [GT.gt, h0, h1]) (by simpa only [cmpS, keysD, lessK, h0, h1, if_true, if_false, Bool.false_eq_true, show ((2 : Int) = 1) = False by decide, show ((0 : Int) = 1) = False by decide, show ((2 : Int) = 0) = False by decide, show ((1 : Int) = 1) = True by decide, show ((0 : Int) = 0) = True by decide] using h)
end
end Mine
end
section
open PySem
set_option Elab.async false
namespace Mine
/-- a word inside single quotes -/
noncomputable def escL (s : List Nat) : List Nat := s.flatMap fun c => if c = 39 then [39, 34, 39, 34, 39] else [c]
/-- what quote makes of a word -/
noncomputable def quoteL (s : List Nat) : List Nat := if s = [] then [39, 39] else if s.all safe then s else 39 :: escL s ++ [39]
theorem auto_sq (r : List Nat) : ∀ (s T : List Nat) (q : Bool), auto .sq T q (escL s ++ 39 :: r) = auto .a (T ++ s) true r
  | [], T, q => by simp [escL, auto]
  | c :: s, T, q => by
    by_cases h : c = 39
    · subst h
      have e : escL (39 :: s) ++ 39 :: r = 39 :: 34 :: 39 :: 34 :: 39 :: (escL s ++ 39 :: r) := by simp [escL]
      rw [e]
      simp only [auto, if_true, show ¬ (39 = 32) by decide, show ¬ (34 = 32) by decide, show ¬ (34 = 39) by decide, show ¬ (39 = 34) by decide, if_false]
      rw [auto_sq r s (T ++ [39]) true]
      simp
    · have e : escL (c :: s) ++ 39 :: r = c :: (escL s ++ 39 :: r) := by simp [escL, h]
      rw [e]
      simp only [auto, h, if_false]
      rw [auto_sq r s (T ++ [c]) true]
      simp
theorem auto_a (r : List Nat) : ∀ (s T : List Nat) (q : Bool), s.all safe = true → auto .a T q (s ++ r) = auto .a (T ++ s) q r
  | [], T, q, _ => by simp
  | c :: s, T, q, h => by
    simp only [List.all_cons, Bool.and_eq_true] at h
    obtain ⟨f1, f2, f3, f4, f5, f6, f7⟩ := safe_facts h.1
    rw [List.cons_append]
    simp only [auto, f5, f3, f4, if_false, h.1, if_true]
    rw [auto_a r s (T ++ [c]) q h.2]
    simp
theorem autoW_quote (s r : List Nat) : ∃ q, autoW (quoteL s ++ r) = auto .a s q r ∧ (s ≠ [] ∨ q = true) := by
  unfold quoteL
  by_cases h : s = []
  · subst h
    refine ⟨true, ?_, .inr rfl⟩
    simp [autoW, auto]
  · rw [if_neg h]
    by_cases ha : s.all safe = true
    · rw [if_pos ha]
      refine ⟨false, ?_, .inl h⟩
      cases s with
      | nil => exact absurd rfl h
      | cons c s =>
        simp only [List.all_cons, Bool.and_eq_true] at ha
        obtain ⟨f1, f2, f3, f4, f5, f6, f7⟩ := safe_facts ha.1
        show (if c = 39 then auto .sq [] false (s ++ r) else if safe c then auto .a [c] false (s ++ r) else none) = _
        rw [if_neg f3, if_pos ha.1, auto_a r s [c] false ha.2]
        rfl
    · rw [if_neg ha]
      refine ⟨true, ?_, .inl h⟩
      have e : autoW (39 :: escL s ++ [39] ++ r) = auto .sq [] false (escL s ++ 39 :: r) := by
        rw [List.cons_append, List.cons_append, List.append_assoc]
        rfl
      rw [e]
      exact auto_sq r s [] false
theorem autoW_sp (s r : List Nat) : ∃ q, autoW (quoteL s ++ 32 :: r) = some (s, q, .sp, r) ∧ (s ≠ [] ∨ q = true) := by
  obtain ⟨q, e, h⟩ := autoW_quote s (32 :: r)
  refine ⟨q, ?_, h⟩
  rw [e]
  simp only [auto, if_true]
  rw [if_neg]
  cases s <;> simp_all
theorem autoW_eof (s : List Nat) : ∃ q, autoW (quoteL s) = some (s, q, .eof, []) ∧ (s ≠ [] ∨ q = true) := by
  obtain ⟨q, e, h⟩ := autoW_quote s []
  rw [List.append_nil] at e
  exact ⟨q, by rw [e]; rfl, h⟩
end Mine
end
section
open PySem
set_option Elab.async false
namespace Mine
/-- the order of two words that are quoted -/
noncomputable def ltE : List Nat → List Nat → Bool
  | [], [] => false
  | [], c :: _ => decide (39 ≤ c)
  | c :: _, [] => decide (c < 39)
  | c :: x, d :: y => if c = d then ltE x y else decide (c < d)
theorem lt_cons (a b : Nat) (x y : List Nat) : (a :: x < b :: y) ↔ (a < b ∨ (a = b ∧ x < y)) := List.cons_lt_cons_iff
theorem lt_app (p : List Nat) (x y : List Nat) : (p ++ x < p ++ y) ↔ x < y := by
  induction p with
  | nil => simp
  | cons a p ih => rw [List.cons_append, List.cons_append, lt_cons]; simp [ih]
noncomputable def escC (c : Nat) : List Nat := if c = 39 then [39, 34, 39, 34, 39] else [c]
theorem esc_cons (c : Nat) (x : List Nat) : escL (c :: x) = escC c ++ escL x := by simp [escL, escC]
theorem esc_head (c : Nat) : ∃ t, escC c = c :: t ∧ (c ≠ 39 → t = []) := by
  by_cases h : c = 39
  · exact ⟨[34, 39, 34, 39], by simp [escC, h], fun q => absurd h q⟩
  · exact ⟨[], by simp [escC, h], fun _ => rfl⟩
theorem esc_lt : ∀ x y : List Nat, (escL x ++ [39] < escL y ++ [39]) ↔ ltE x y = true
  | [], [] => by simp [escL, ltE]
  | [], c :: y => by
    rw [esc_cons]
    obtain ⟨t, e, ht⟩ := esc_head c
    rw [e]
    have e0 : escL [] = [] := rfl
    simp only [e0, List.nil_append, List.cons_append, lt_cons, ltE, decide_eq_true_eq]
    constructor
    · rintro (h | ⟨h, _⟩) <;> omega
    · intro h
      by_cases hc : 39 < c
      · exact .inl hc
      · have : c = 39 := by omega
        subst this
        refine .inr ⟨rfl, ?_⟩
        have : escC 39 = [39, 34, 39, 34, 39] := by simp [escC]
        rw [this] at e
        obtain rfl := (List.cons.inj e).2
        simp
  | c :: x, [] => by
    rw [esc_cons]
    obtain ⟨t, e, ht⟩ := esc_head c
    rw [e]
    have e0 : escL [] = [] := rfl
    simp only [e0, List.nil_append, List.cons_append, lt_cons, ltE, decide_eq_true_eq]
    constructor
    · rintro (h | ⟨_, h⟩)
      · exact h
      · simp at h
    · exact .inl
  | c :: x, d :: y => by
    rw [esc_cons, esc_cons]
    by_cases h : c = d
    · subst h
      rw [List.append_assoc, List.append_assoc, lt_app, esc_lt x y]
      simp [ltE]
    · obtain ⟨t, e, _⟩ := esc_head c
      obtain ⟨t', e', _⟩ := esc_head d
      rw [e, e']
      simp only [List.cons_append, lt_cons, ltE, h, if_false, decide_eq_true_eq, false_and, or_false]
end Mine
end
section
open PySem
set_option Elab.async false
namespace Mine
noncomputable def bareL (s : List Nat) : Bool := !s.isEmpty && s.all safe
/-- the law's own order of two words that differ: less or not -/
noncomputable def lawLt (x y : List Nat) : Bool :=
  if bareL x ≠ bareL y then (if bareL x then decide (x.headD 0 = 37) else decide (y.headD 0 ≠ 37))
  else if bareL x = false then ltE x y
  else decide (x < y)
theorem safe_head {c : Nat} (h : safe c = true) : (c < 39 ↔ c = 37) ∧ c ≠ 39 := by
  have h' : c ∈ safeL := by simpa [safe] using h
  have key : ∀ c ∈ safeL, (c < 39 ↔ c = 37) ∧ c ≠ 39 := by decide
  exact key c h'
theorem quote_bare {s : List Nat} (h : bareL s = true) : quoteL s = s := by
  unfold bareL at h
  simp only [Bool.and_eq_true, Bool.not_eq_true', List.isEmpty_eq_false_iff] at h
  unfold quoteL
  rw [if_neg h.1, if_pos h.2]
theorem quote_not {s : List Nat} (h : bareL s = false) : quoteL s = 39 :: (escL s ++ [39]) := by
  unfold quoteL
  by_cases hs : s = []
  · subst hs; rfl
  · rw [if_neg hs, if_neg]
    · rfl
    · intro q
      unfold bareL at h
      rw [q] at h
      cases s <;> simp_all
theorem bare_head {s : List Nat} (h : bareL s = true) : ∃ c t, s = c :: t ∧ safe c = true := by
  unfold bareL at h
  cases s with
  | nil => simp at h
  | cons c t => exact ⟨c, t, rfl, by simp at h; exact h.1⟩
theorem quote_lt (x y : List Nat) : (quoteL x < quoteL y) ↔ lawLt x y = true := by
  unfold lawLt
  cases hx : bareL x with
  | true =>
    rw [quote_bare hx]
    obtain ⟨c, t, rfl, hc⟩ := bare_head hx
    cases hy : bareL y with
    | true => rw [quote_bare hy]; simp
    | false =>
      rw [quote_not hy, lt_cons]
      have := safe_head hc
      simp only [ne_eq, Bool.true_eq_false, not_false_eq_true, if_true, List.headD_cons, decide_eq_true_eq]
      constructor
      · rintro (h | ⟨h, _⟩)
        · exact decide_eq_true (this.1.mp h)
        · exact absurd h this.2
      · intro h; exact .inl (this.1.mpr (of_decide_eq_true h))
  | false =>
    rw [quote_not hx]
    cases hy : bareL y with
    | true =>
      rw [quote_bare hy]
      obtain ⟨c, t, rfl, hc⟩ := bare_head hy
      rw [lt_cons]
      have := safe_head hc
      simp only [ne_eq, Bool.false_eq_true, not_false_eq_true, if_true, if_false, List.headD_cons, decide_eq_true_eq]
      constructor
      · rintro (h | ⟨h, _⟩)
        · refine decide_eq_true fun q => ?_
          have := this.1.mpr q
          omega
        · exact absurd h.symm this.2
      · intro h
        left
        have h := of_decide_eq_true h
        have h1 : ¬ c < 39 := fun q => h (this.1.mp q)
        have h2 := this.2
        omega
    | false =>
      rw [quote_not hy, lt_cons]
      simp [esc_lt]
end Mine
end
section
open PySem PySem.W PyProof.Rows PySem.Builtin PySem.Builtin.Str
set_option Elab.async false
set_option maxRecDepth 1000000
set_option maxHeartbeats 0
set_option linter.unusedVariables false
namespace Mine
open PySem.W.X (Kont Means aroundOf endOf okMark XV)
noncomputable def lstE (L : List Value) (e : Nat) : Obj := { cls := .type "list", data := .seq ⟨L⟩ e }
noncomputable def loopOf : Code → Code
  | .compStart e d it acc env => .compLoop e d it acc env
  | c => c
noncomputable abbrev evT : Expr → Env → Sem Value := PySem.W.Fast.tw14044960220447912780
noncomputable abbrev exT : List Stmt → Env → Sem Flow := PySem.W.Fast.tw12563942051412417395
noncomputable abbrev tV (m : Sem Value) : Sem Fin := PySem.W.R.bindR m fun v => .pure (.done (.ret v))
noncomputable abbrev tF (m : Sem Flow) : Sem Fin := PySem.W.R.bindR m fun v => .pure (.done v)
noncomputable def lawSafe : Str := "abcdefghijklmnopqrstuvwxyzABCDEFGHIJKLMNOPQRSTUVWXYZ0123456789_@%+=:,./-"
noncomputable abbrev bCode (W : Str) (t : Nat) : Code := .call (.ref 792) ⟨[.str W t], []⟩
noncomputable abbrev bCf (p : Params) (W : Str) (t z tk : Nat) : Cf := ⟨bCode W t, .base, (PT p).den (bCode W t), [], z, tk⟩
noncomputable def bEnv (z : Nat) : Env := { scope := fnScope (stAt 29), locals := z, globals := 3, cells := [("safe", z + 1)], qual := "_law_bare.<locals>.", func := some 792, code := .ref 791, frame := some z }
noncomputable abbrev bFc (z : Nat) : Code := .func (fnBody (stAt 29)) (bEnv z)
noncomputable def bFr (p : Params) (W : Str) (t k : Nat) : Obj := { cls := .type "frame", data := .dict [dE p "word" k (.str W t)].toArray 1 }
noncomputable def bCell (v : Option Value) : Obj := { cls := .type "cell", data := .cell v }
noncomputable def bDict0 : Obj := { cls := .type "dict", data := .dict #[] 0 }
noncomputable def bDict (p : Params) (k : Nat) (v : Value) : Obj := { cls := .type "dict", data := .dict [dE p "sign" k v].toArray 1 }
noncomputable abbrev bLed2 (p : Params) (W : Str) (t z k : Nat) (cv : Option Value) : Led := [(z + 1, bCell cv), (z, bFr p W t k)]
noncomputable abbrev bLed (p : Params) (W : Str) (t z k ct q : Nat) (D acc it : Obj) : Led := [(q + 2, D), (q + 1, acc), (q, it), (z + 1, bCell (some (.str lawSafe ct))), (z, bFr p W t k)]
noncomputable abbrev prA (cf : Cf) := (cf.t, cf.κ, cf.led)
noncomputable abbrev prB (cf : Cf) := (callOf cf.t, lowC cf, cf.led)
noncomputable def he0 : List Nat := [0, 0, 2, 2, 0, 9]
noncomputable def hx1 : List Nat := [1, 1]
noncomputable def hx2 : List Nat := [2, 0, 0, 2, 0]
noncomputable def hx2z : List Nat := [2, 0, 0, 1, 0]
noncomputable def hx3 : List Nat := [2, 21, 1, 1]
noncomputable def hx3w : List Nat := [2, 85, 1, 1]
noncomputable def hx4 : List Nat := [1, 1, 1]
/-- the parts of _law_bare's text -/
noncomputable def bParts : Option (Stmt × Expr × Expr × Expr) := match fnBody (stAt 29) with
  | [s1, .Return (some (.BoolOp _ [c1, .Compare lc _ [el] _] _)) _] => some (s1, c1, lc, el)
  | _ => none
noncomputable def bS1 : Stmt := match bParts with | some (x, _) => x | none => .Pass default
noncomputable def bC1 : Expr := match bParts with | some (_, x, _) => x | none => default
noncomputable def bLc : Expr := match bParts with | some (_, _, x, _) => x | none => default
noncomputable def bEl : Expr := match bParts with | some (_, _, _, x) => x | none => default
noncomputable def bPos (n : Nat) : Pos := match fnBody (stAt 29) with
  | [_, .Return (some (.BoolOp _ [_, .Compare _ _ _ p3] p2)) p1] => match n with | 1 => p1 | 2 => p2 | _ => p3
  | _ => default
theorem b_body : fnBody (stAt 29) = [bS1, .Return (some (.BoolOp .And [bC1, .Compare bLc [.Eq] [bEl] (bPos 3)] (bPos 2))) (bPos 1)] := by kernel_rfl
theorem bE0 (w : World) (b₁ b₂ : Bool) (W : Str) (t z tk : Nat) : SegOk (PT (wB w b₁ b₂).params) 30 (bCf (wB w b₁ b₂).params W t z tk) he0 prA [] []
    (.pure (.again (bFc z)), .base, bLed2 (wB w b₁ b₂).params W t z tk none) := by
  kernel_rfl
theorem bX1 (w : World) (b₁ b₂ : Bool) (W : Str) (t z k sz tk : Nat) : SegOk (PT (wB w b₁ b₂).params) 30 (⟨bFc z, .base, tF (exT [bS1] (bEnv z)), bLed2 (wB w b₁ b₂).params W t z k none, sz, tk⟩) hx1 prA [] []
    (.pure (.done .next), .base, bLed2 (wB w b₁ b₂).params W t z k (some (.str lawSafe tk))) := by
  kernel_rfl
theorem bX2 (w : World) (b₁ b₂ : Bool) (W : Str) (t z k ct sz tk : Nat) : SegOk (PT (wB w b₁ b₂).params) 30 (⟨bFc z, .base, tV (evT bC1 (bEnv z)), bLed2 (wB w b₁ b₂).params W t z k (some (.str lawSafe ct)), sz, tk⟩) hx2 prA [!eqS W ""] [true]
    (.pure (.done (.ret (.bool true))), .base, bLed2 (wB w b₁ b₂).params W t z k (some (.str lawSafe ct))) := by
  cases b₁ <;> kernel_rfl
theorem bX2z (w : World) (b₁ b₂ : Bool) (W : Str) (t z k ct sz tk : Nat) : SegOk (PT (wB w b₁ b₂).params) 30 (⟨bFc z, .base, tV (evT bC1 (bEnv z)), bLed2 (wB w b₁ b₂).params W t z k (some (.str lawSafe ct)), sz, tk⟩) hx2z prA [!eqS W ""] [false]
    (.pure (.done (.ret (.bool false))), .base, bLed2 (wB w b₁ b₂).params W t z k (some (.str lawSafe ct))) := by
  cases b₁ <;> kernel_rfl
noncomputable abbrev bX3Cf (p : Params) (W : Str) (t z k ct sz tk : Nat) : Cf := ⟨bFc z, .base, tV (evT bLc (bEnv z)), bLed2 p W t z k (some (.str lawSafe ct)), sz, tk⟩
noncomputable def bc0 (p : Params) (W : Str) (t z k ct sz tk : Nat) : Code := codeAt (runC (PT p) 30 (bX3Cf p W t z k ct sz tk) { hs := hx3 })
noncomputable def bc1 (p : Params) (W : Str) (t z k ct sz tk : Nat) : Code := loopOf (bc0 p W t z k ct sz tk)
theorem bX3A (w : World) (b₁ b₂ : Bool) (W : Str) (t z k ct q tk : Nat) : SegOk (PT (wB w b₁ b₂).params) 30 (bX3Cf (wB w b₁ b₂).params W t z k ct q tk) hx3 prB [W.cps.all (· < 128)] [true]
    (some (bc0 (wB w b₁ b₂).params W t z k ct q tk, none), true, bLed (wB w b₁ b₂).params W t z k ct q bDict0 (lstE [] 0) (siO "str_ascii_iterator" W t 0)) := by
  cases b₁ <;> kernel_rfl
theorem bX3W (w : World) (b₁ b₂ : Bool) (W : Str) (t z k ct q tk : Nat) : SegOk (PT (wB w b₁ b₂).params) 30 (bX3Cf (wB w b₁ b₂).params W t z k ct q tk) hx3w prB [!W.cps.all (· < 128)] [true]
    (some (bc0 (wB w b₁ b₂).params W t z k ct q tk, none), true, bLed (wB w b₁ b₂).params W t z k ct q bDict0 (lstE [] 0) (siO "str_iterator" W t 0)) := by
  cases b₁ <;> kernel_rfl
noncomputable def hs0 (b₂ : Bool) : List Nat := match b₂ with
  | true => [9]
  | false => [3, 3, 0, 3, 0, 3, 9]
theorem bSA (w : World) (b₁ b₂ : Bool) (W : Str) (t z k ct q tk sz2 tk2 : Nat) : SegOk (PT (wB w b₁ b₂).params) 30 (⟨bc0 (wB w b₁ b₂).params W t z k ct q tk, .base, (PT (wB w b₁ b₂).params).den (bc0 (wB w b₁ b₂).params W t z k ct q tk), bLed (wB w b₁ b₂).params W t z k ct q bDict0 (lstE [] 0) (siO "str_ascii_iterator" W t 0), sz2, tk2⟩) (hs0 b₂) prA [] []
    (.pure (.again (bc1 (wB w b₁ b₂).params W t z k ct q tk)), .base, bLed (wB w b₁ b₂).params W t z k ct q bDict0 (lstE [] 0) (siO "str_ascii_iterator" W t 0)) := by
  cases b₁ <;> cases b₂ <;> kernel_rfl
theorem bSW (w : World) (b₁ b₂ : Bool) (W : Str) (t z k ct q tk sz2 tk2 : Nat) : SegOk (PT (wB w b₁ b₂).params) 30 (⟨bc0 (wB w b₁ b₂).params W t z k ct q tk, .base, (PT (wB w b₁ b₂).params).den (bc0 (wB w b₁ b₂).params W t z k ct q tk), bLed (wB w b₁ b₂).params W t z k ct q bDict0 (lstE [] 0) (siO "str_iterator" W t 0), sz2, tk2⟩) (hs0 b₂) prA [] []
    (.pure (.again (bc1 (wB w b₁ b₂).params W t z k ct q tk)), .base, bLed (wB w b₁ b₂).params W t z k ct q bDict0 (lstE [] 0) (siO "str_iterator" W t 0)) := by
  cases b₁ <;> cases b₂ <;> kernel_rfl
/-- a turn up to the next sign -/
noncomputable abbrev btCf (p : Params) (W : Str) (t z k ct q tk : Nat) (D acc it : Obj) (sz2 tk2 : Nat) : Cf := ⟨bc1 p W t z k ct q tk, .base, (PT p).den (bc1 p W t z k ct q tk), bLed p W t z k ct q D acc it, sz2, tk2⟩
noncomputable def ht0 : List Nat := [3, 1]
theorem bTA (w : World) (b₁ b₂ : Bool) (W : Str) (t z k ct q tk i sz2 tk2 : Nat) (D acc : Obj) : SegOk (PT (wB w b₁ b₂).params) 20 (btCf (wB w b₁ b₂).params W t z k ct q tk D acc (siO "str_ascii_iterator" W t i) sz2 tk2) ht0 prB [] []
    (some (nextCode "str_ascii_iterator.__next__" q, none), true, bLed (wB w b₁ b₂).params W t z k ct q D acc (siO "str_ascii_iterator" W t i)) := by
  cases b₁ <;> kernel_rfl
theorem bTW (w : World) (b₁ b₂ : Bool) (W : Str) (t z k ct q tk i sz2 tk2 : Nat) (D acc : Obj) : SegOk (PT (wB w b₁ b₂).params) 20 (btCf (wB w b₁ b₂).params W t z k ct q tk D acc (siO "str_iterator" W t i) sz2 tk2) ht0 prB [] []
    (some (nextCode "str_iterator.__next__" q, none), true, bLed (wB w b₁ b₂).params W t z k ct q D acc (siO "str_iterator" W t i)) := by
  cases b₁ <;> kernel_rfl
noncomputable abbrev buCf (p : Params) (W : Str) (t z k ct q tk : Nat) (D acc : Obj) (ty : String) (i sz2 tk2 : Nat) (r : Result) (it' : Led) (sz3 tk3 : Nat) : Cf :=
  after (runC (PT p) 20 (btCf p W t z k ct q tk D acc (siO ty W t i) sz2 tk2) { hs := ht0 }) r (fun _ => [(q + 2, D), (q + 1, acc)] ++ it' ++ [(z + 1, bCell (some (.str lawSafe ct))), (z, bFr p W t k)]) sz3 tk3
noncomputable def ht1 : List Nat := [1, 1, 1, 4, 0, 0, 2, 9]
noncomputable def ht2 : List Nat := [1, 1, 1, 4, 0, 0, 1, 1, 99, 9]
noncomputable def hu1 : List Nat := [1, 1, 1, 4, 0, 0, 2, 9]
noncomputable def hu2 : List Nat := [1, 1, 1, 4, 0, 0, 1, 1, 99, 9]
noncomputable def hte : List Nat := [3]
theorem bt1A (w : World) (b₁ b₂ : Bool) (W : Str) (t z k ct q tk i c tc dk e sz2 tk2 sz3 tk3 : Nat) (L : List Value) (v : Value) : SegOk (PT (wB w b₁ b₂).params) 60 (buCf (wB w b₁ b₂).params W t z k ct q tk bDict0 (lstE L e) "str_ascii_iterator" i sz2 tk2 (.ok (.ret (.str (sg c) tc))) [(q, siO "str_ascii_iterator" W t (i + 1))] sz3 tk3) ht1 prA [inS lawSafe (sg c)] [true]
    (.pure (.again (bc1 (wB w b₁ b₂).params W t z k ct q tk)), .base, bLed (wB w b₁ b₂).params W t z k ct q (bDict (wB w b₁ b₂).params tk3 (.str (sg c) tc)) (lstE L e) (siO "str_ascii_iterator" W t (i + 1))) := by
  cases b₁ <;> kernel_rfl
theorem bt2A (w : World) (b₁ b₂ : Bool) (W : Str) (t z k ct q tk i c tc dk e sz2 tk2 sz3 tk3 : Nat) (L : List Value) (v : Value) : SegOk (PT (wB w b₁ b₂).params) 60 (buCf (wB w b₁ b₂).params W t z k ct q tk bDict0 (lstE L e) "str_ascii_iterator" i sz2 tk2 (.ok (.ret (.str (sg c) tc))) [(q, siO "str_ascii_iterator" W t (i + 1))] sz3 tk3) ht2 prA [Nat.ble L.length 65536, inS lawSafe (sg c)] [true, false]
    (.pure (.again (bc1 (wB w b₁ b₂).params W t z k ct q tk)), .base, bLed (wB w b₁ b₂).params W t z k ct q (bDict (wB w b₁ b₂).params tk3 (.str (sg c) tc)) (lstE (L ++ [.str (sg c) tc]) (e + 1)) (siO "str_ascii_iterator" W t (i + 1))) := by
  cases b₁ <;> kernel_rfl
theorem bu1A (w : World) (b₁ b₂ : Bool) (W : Str) (t z k ct q tk i c tc dk e sz2 tk2 sz3 tk3 : Nat) (L : List Value) (v : Value) : SegOk (PT (wB w b₁ b₂).params) 60 (buCf (wB w b₁ b₂).params W t z k ct q tk (bDict (wB w b₁ b₂).params dk v) (lstE L e) "str_ascii_iterator" i sz2 tk2 (.ok (.ret (.str (sg c) tc))) [(q, siO "str_ascii_iterator" W t (i + 1))] sz3 tk3) hu1 prA [inS lawSafe (sg c)] [true]
    (.pure (.again (bc1 (wB w b₁ b₂).params W t z k ct q tk)), .base, bLed (wB w b₁ b₂).params W t z k ct q (bDict (wB w b₁ b₂).params dk (.str (sg c) tc)) (lstE L e) (siO "str_ascii_iterator" W t (i + 1))) := by
  cases b₁ <;> kernel_rfl
theorem bu2A (w : World) (b₁ b₂ : Bool) (W : Str) (t z k ct q tk i c tc dk e sz2 tk2 sz3 tk3 : Nat) (L : List Value) (v : Value) : SegOk (PT (wB w b₁ b₂).params) 60 (buCf (wB w b₁ b₂).params W t z k ct q tk (bDict (wB w b₁ b₂).params dk v) (lstE L e) "str_ascii_iterator" i sz2 tk2 (.ok (.ret (.str (sg c) tc))) [(q, siO "str_ascii_iterator" W t (i + 1))] sz3 tk3) hu2 prA [Nat.ble L.length 65536, inS lawSafe (sg c)] [true, false]
    (.pure (.again (bc1 (wB w b₁ b₂).params W t z k ct q tk)), .base, bLed (wB w b₁ b₂).params W t z k ct q (bDict (wB w b₁ b₂).params dk (.str (sg c) tc)) (lstE (L ++ [.str (sg c) tc]) (e + 1)) (siO "str_ascii_iterator" W t (i + 1))) := by
  cases b₁ <;> kernel_rfl
theorem beA (w : World) (b₁ b₂ : Bool) (W : Str) (t z k ct q tk i et ee sz2 tk2 sz3 tk3 : Nat) (D acc : Obj) : SegOk (PT (wB w b₁ b₂).params) 20 (buCf (wB w b₁ b₂).params W t z k ct q tk D acc "str_ascii_iterator" i sz2 tk2 (.error (.ref ee)) [(ee, stopO et), (et, nilO), (q, siE "str_ascii_iterator" i)] sz3 tk3) hte prA [] []
    (.pure (.done .next), .base, [(q + 2, D), (q + 1, acc)] ++ [(ee, stopO et), (et, nilO), (q, siE "str_ascii_iterator" i)] ++ [(z + 1, bCell (some (.str lawSafe ct))), (z, bFr (wB w b₁ b₂).params W t k)]) := by
  cases b₁ <;> kernel_rfl
theorem bt1W (w : World) (b₁ b₂ : Bool) (W : Str) (t z k ct q tk i c tc dk e sz2 tk2 sz3 tk3 : Nat) (L : List Value) (v : Value) : SegOk (PT (wB w b₁ b₂).params) 60 (buCf (wB w b₁ b₂).params W t z k ct q tk bDict0 (lstE L e) "str_iterator" i sz2 tk2 (.ok (.ret (.str (sg c) tc))) [(q, siO "str_iterator" W t (i + 1))] sz3 tk3) ht1 prA [inS lawSafe (sg c)] [true]
    (.pure (.again (bc1 (wB w b₁ b₂).params W t z k ct q tk)), .base, bLed (wB w b₁ b₂).params W t z k ct q (bDict (wB w b₁ b₂).params tk3 (.str (sg c) tc)) (lstE L e) (siO "str_iterator" W t (i + 1))) := by
  cases b₁ <;> kernel_rfl
theorem bt2W (w : World) (b₁ b₂ : Bool) (W : Str) (t z k ct q tk i c tc dk e sz2 tk2 sz3 tk3 : Nat) (L : List Value) (v : Value) : SegOk (PT (wB w b₁ b₂).params) 60 (buCf (wB w b₁ b₂).params W t z k ct q tk bDict0 (lstE L e) "str_iterator" i sz2 tk2 (.ok (.ret (.str (sg c) tc))) [(q, siO "str_iterator" W t (i + 1))] sz3 tk3) ht2 prA [Nat.ble L.length 65536, inS lawSafe (sg c)] [true, false]
    (.pure (.again (bc1 (wB w b₁ b₂).params W t z k ct q tk)), .base, bLed (wB w b₁ b₂).params W t z k ct q (bDict (wB w b₁ b₂).params tk3 (.str (sg c) tc)) (lstE (L ++ [.str (sg c) tc]) (e + 1)) (siO "str_iterator" W t (i + 1))) := by
  cases b₁ <;> kernel_rfl
theorem bu1W (w : World) (b₁ b₂ : Bool) (W : Str) (t z k ct q tk i c tc dk e sz2 tk2 sz3 tk3 : Nat) (L : List Value) (v : Value) : SegOk (PT (wB w b₁ b₂).params) 60 (buCf (wB w b₁ b₂).params W t z k ct q tk (bDict (wB w b₁ b₂).params dk v) (lstE L e) "str_iterator" i sz2 tk2 (.ok (.ret (.str (sg c) tc))) [(q, siO "str_iterator" W t (i + 1))] sz3 tk3) hu1 prA [inS lawSafe (sg c)] [true]
    (.pure (.again (bc1 (wB w b₁ b₂).params W t z k ct q tk)), .base, bLed (wB w b₁ b₂).params W t z k ct q (bDict (wB w b₁ b₂).params dk (.str (sg c) tc)) (lstE L e) (siO "str_iterator" W t (i + 1))) := by
  cases b₁ <;> kernel_rfl
theorem bu2W (w : World) (b₁ b₂ : Bool) (W : Str) (t z k ct q tk i c tc dk e sz2 tk2 sz3 tk3 : Nat) (L : List Value) (v : Value) : SegOk (PT (wB w b₁ b₂).params) 60 (buCf (wB w b₁ b₂).params W t z k ct q tk (bDict (wB w b₁ b₂).params dk v) (lstE L e) "str_iterator" i sz2 tk2 (.ok (.ret (.str (sg c) tc))) [(q, siO "str_iterator" W t (i + 1))] sz3 tk3) hu2 prA [Nat.ble L.length 65536, inS lawSafe (sg c)] [true, false]
    (.pure (.again (bc1 (wB w b₁ b₂).params W t z k ct q tk)), .base, bLed (wB w b₁ b₂).params W t z k ct q (bDict (wB w b₁ b₂).params dk (.str (sg c) tc)) (lstE (L ++ [.str (sg c) tc]) (e + 1)) (siO "str_iterator" W t (i + 1))) := by
  cases b₁ <;> kernel_rfl
theorem beW (w : World) (b₁ b₂ : Bool) (W : Str) (t z k ct q tk i et ee sz2 tk2 sz3 tk3 : Nat) (D acc : Obj) : SegOk (PT (wB w b₁ b₂).params) 20 (buCf (wB w b₁ b₂).params W t z k ct q tk D acc "str_iterator" i sz2 tk2 (.error (.ref ee)) [(ee, stopO et), (et, nilO), (q, siE "str_iterator" i)] sz3 tk3) hte prA [] []
    (.pure (.done .next), .base, [(q + 2, D), (q + 1, acc)] ++ [(ee, stopO et), (et, nilO), (q, siE "str_iterator" i)] ++ [(z + 1, bCell (some (.str lawSafe ct))), (z, bFr (wB w b₁ b₂).params W t k)]) := by
  cases b₁ <;> kernel_rfl
theorem bX4A (w : World) (b₁ b₂ : Bool) (W : Str) (t z k ct q tk ee et dk sz2 tk2 : Nat) (u : Value) (acc it : Obj) : SegOk (PT (wB w b₁ b₂).params) 30 (after (runC (PT (wB w b₁ b₂).params) 30 (bX3Cf (wB w b₁ b₂).params W t z k ct q tk) { hs := hx3 }) (.ok .next) (fun _ => [(q + 2, bDict (wB w b₁ b₂).params dk u), (q + 1, acc)] ++ [(ee, stopO et), (et, nilO), (q, it)] ++ [(z + 1, bCell (some (.str lawSafe ct))), (z, bFr (wB w b₁ b₂).params W t k)]) sz2 tk2) hx4 (fun cf => (cf.t, cf.κ, cf.led.drop 1)) [] []
    (.pure (.done (.ret (.ref (q + 1)))), .base, [(q + 1, acc), (ee, stopO et), (et, nilO), (q, it), (z + 1, bCell (some (.str lawSafe ct))), (z, bFr (wB w b₁ b₂).params W t k)]) := by
  cases b₁ <;> kernel_rfl
theorem bX4W (w : World) (b₁ b₂ : Bool) (W : Str) (t z k ct q tk ee et dk sz2 tk2 : Nat) (u : Value) (acc it : Obj) : SegOk (PT (wB w b₁ b₂).params) 30 (after (runC (PT (wB w b₁ b₂).params) 30 (bX3Cf (wB w b₁ b₂).params W t z k ct q tk) { hs := hx3w }) (.ok .next) (fun _ => [(q + 2, bDict (wB w b₁ b₂).params dk u), (q + 1, acc)] ++ [(ee, stopO et), (et, nilO), (q, it)] ++ [(z + 1, bCell (some (.str lawSafe ct))), (z, bFr (wB w b₁ b₂).params W t k)]) sz2 tk2) hx4 (fun cf => (cf.t, cf.κ, cf.led.drop 1)) [] []
    (.pure (.done (.ret (.ref (q + 1)))), .base, [(q + 1, acc), (ee, stopO et), (et, nilO), (q, it), (z + 1, bCell (some (.str lawSafe ct))), (z, bFr (wB w b₁ b₂).params W t k)]) := by
  cases b₁ <;> kernel_rfl
theorem bX5 (w : World) (b₁ b₂ : Bool) (W : Str) (z sz tk : Nat) (led : Led) : SegOk (PT (wB w b₁ b₂).params) 10 (⟨bFc z, .base, tV (evT bEl (bEnv z)), led, sz, tk⟩) [] prA [] []
    (.pure (.done (.ret (.ref sz))), .base, (sz, lstE [] 0) :: led) := by
  kernel_rfl
end Mine
end
section
open PySem PySem.W PyProof.Rows PySem.Builtin PySem.Builtin.Str
set_option Elab.async false
set_option maxRecDepth 100000
set_option linter.unusedVariables false
namespace Mine
open PySem.W.X (Kont Means aroundOf endOf okMark XV)
section
variable {w : World} {A : Around} {g : Heap} {c : Code} {led : Led} {s : Shared}
/-- an expression's tree, by a run of it -/
theorem val_good {t : Sem Value} {Q : Value → Shared → Prop} {E : Value → Shared → Prop} (D : Own g s.heap led)
    (G : Good (vOf pw w g A (fun r s' => match r with | .ok (.ret v) => Q v s' | .ok _ => False | .error e => E e s') s.drawn s.os) s.gens ⟨c, .base, tV t, led, s.heap.objs.size, s.toks⟩) : wpOwn (model pw w) A c t Q E s := by
  have z := G s.heap D rfl
  intro Γ p hc hΓ
  have z' := z Γ p hc hΓ
  have e : (tV t : Sem Fin) = t >>= fun v => pure (.done (.ret v)) := by
    show PySem.W.R.bindR t _ = _
    rw [← PySem.W.R.bindR_eq]; rfl
  dsimp only at z'
  rw [e, Sem.wp_bind'] at z'
  exact Sem.wp_mono _ Γ t (fun a p' s' h' => h') (fun _ _ _ h' => h') p s z'
theorem flow_good {t : Sem Flow} {Q : Flow → Shared → Prop} {E : Value → Shared → Prop} (D : Own g s.heap led)
    (G : Good (vOf pw w g A (fun r s' => match r with | .ok f => Q f s' | .error e => E e s') s.drawn s.os) s.gens ⟨c, .base, tF t, led, s.heap.objs.size, s.toks⟩) : wpOwn (model pw w) A c t Q E s := by
  have z := G s.heap D rfl
  intro Γ p hc hΓ
  have z' := z Γ p hc hΓ
  have e : (tF t : Sem Fin) = t >>= fun v => pure (.done v) := by
    show PySem.W.R.bindR t _ = _
    rw [← PySem.W.R.bindR_eq]; rfl
  dsimp only at z'
  rw [e, Sem.wp_bind'] at z'
  exact Sem.wp_mono _ Γ t (fun a p' s' h' => h') (fun _ _ _ h' => h') p s z'
theorem ev_good {e : Expr} {env : Env} {Q : Value → Shared → Prop} {E : Value → Shared → Prop} (D : Own g s.heap led)
    (G : Good (vOf pw w g A (fun r s' => match r with | .ok (.ret v) => Q v s' | .ok _ => False | .error e => E e s') s.drawn s.os) s.gens ⟨c, .base, tV (evT e env), led, s.heap.objs.size, s.toks⟩) : wpOwn (model pw w) A c (eval e env) Q E s := by
  rw [PySem.W.Fast.te14044960220447912780]
  exact val_good D G
theorem ex_good {b : List Stmt} {env : Env} {Q : Flow → Shared → Prop} {E : Value → Shared → Prop} (D : Own g s.heap led)
    (G : Good (vOf pw w g A (fun r s' => match r with | .ok f => Q f s' | .error e => E e s') s.drawn s.os) s.gens ⟨c, .base, tF (exT b env), led, s.heap.objs.size, s.toks⟩) : wpOwn (model pw w) A c (execs b env) Q E s := by
  rw [PySem.W.Fast.te12563942051412417395]
  exact flow_good D G
end
section
variable {prog : Program} {w : World} {A : Around} {c : Code} {s : Shared} {R : Result → Shared → Prop} {Q : Value → Shared → Prop} {E : Value → Shared → Prop} {env : Env}
theorem func_own {body : List Stmt} (h : wpOwn (model prog w) A (.func body env) (execs body env) (fun f s' => R (.ok (.ret (match f with | .ret v => v | _ => .none))) s') (fun _ _ => False) s) :
    codeAny (model prog w) A (.func body env) R s := by
  refine codeAny_of_own ?_
  show wpOwn _ _ _ (point >>= fun _ => (execs body env).onRaise (leaving env) >>= fun f => match f with | .ret v => ret v | _ => ret .none) _ _ s
  refine wpOwn_bind (wpOwn_of_wpAny (wpAny_point ?_))
  refine wpOwn_bind ?_
  intro Γ p hc hΓ
  rw [Sem.wp_onRaise]
  refine Sem.wp_mono _ Γ _ (fun f p' s' h' => ?_) (fun _ _ _ h' => h'.elim) p s (h Γ p hc hΓ)
  intro Γ p hc hΓ
  cases f <;> exact h'
theorem own_exec1 {s1 : Stmt} {rest : List Stmt} {Q : Flow → Shared → Prop} (h : wpOwn (model prog w) A c (execs [s1] env) (fun f s' => match f with | .next => wpOwn (model prog w) A c (execs rest env) Q E s' | f => Q f s') E s) :
    wpOwn (model prog w) A c (execs (s1 :: rest) env) Q E s := by
  have e1 : execs [s1] env = exec s1 env >>= fun f => match f with | .next => pure .next | f => pure f := rfl
  have e2 : execs (s1 :: rest) env = exec s1 env >>= fun f => match f with | .next => execs rest env | f => pure f := rfl
  intro Γ p hc hΓ
  have z := h Γ p hc hΓ
  rw [e1, Sem.wp_bind'] at z
  rw [e2, Sem.wp_bind']
  refine Sem.wp_mono _ Γ _ (fun f p' s' h' => ?_) (fun _ _ _ h' => h') p s z
  cases f with
  | next => exact h' Γ p' hc hΓ
  | _ => exact h'
theorem own_return {e : Expr} {pos : Pos} {Q : Flow → Shared → Prop} (h : wpOwn (model prog w) A c (eval e env) (fun v s' => Q (.ret v) s') E s) : wpOwn (model prog w) A c (execs [.Return (some e) pos] env) Q E s := by
  have e2 : execs [.Return (some e) pos] env = (standAt pos >>= fun _ => eval e env >>= fun v => pure (Flow.ret v)) >>= fun f => match f with | .next => pure .next | f => pure f := rfl
  intro Γ p hc hΓ
  rw [e2]
  simp only [Sem.wp_bind', Sem.wp_cmd_standAt]
  exact Sem.wp_mono _ Γ _ (fun f p' s' h' => h') (fun _ _ _ h' => h') _ s (h Γ _ hc hΓ)
theorem own_compare1 {l : Expr} {op : CmpOp} {r : Expr} {pos : Pos}
    (h : wpOwn (model prog w) A c (eval l env) (fun a s₁ => wpOwn (model prog w) A c (eval r env) (fun b s₂ => wpOwn (model prog w) A c (compareOp op a b) Q E s₂) E s₁) E s) (hm : behindInMarks op r = false) :
    wpOwn (model prog w) A c (eval (.Compare l [op] [r] pos) env) Q E s := fun Γ p hc hΓ => by
  simp only [eval_Compare1, markedBehindIn_of_false hm, Sem.wp_bind', Sem.wp_holding, Sem.wp_cmd_standAt, Sem.wp_operate]
  exact Sem.wp_mono _ Γ _ (fun a p₁ s₁ h₁ => Sem.wp_mono _ Γ _ (fun b _ s₂ h₂ => h₂ Γ _ hc hΓ) (fun _ _ _ h' => h') _ _ (h₁ Γ p₁ hc hΓ)) (fun _ _ _ h' => h') _ _ (h Γ p hc hΓ)
theorem own_and {x y : Expr} {pos : Pos} (h : wpOwn (model prog w) A c (eval x env) (fun v s' => ∃ b, v = .bool b ∧ match b with | true => wpOwn (model prog w) A c (eval y env) Q E s' | false => Q (.bool false) s') E s) :
    wpOwn (model prog w) A c (eval (.BoolOp .And [x, y] pos) env) Q E s := by
  have e2 : eval (.BoolOp .And [x, y] pos) env = eval x env >>= fun v => standAt pos >>= fun _ => holding [v] (truthy v) >>= fun t => match BoolOp.And, t with | .And, false | .Or, true => pure v | _, _ => eval y env := rfl
  intro Γ p hc hΓ
  rw [e2]
  simp only [Sem.wp_bind', Sem.wp_cmd_standAt, Sem.wp_holding]
  refine Sem.wp_mono _ Γ _ (fun v p' s' h' => ?_) (fun _ _ _ h' => h') _ s (h Γ _ hc hΓ)
  obtain ⟨b, rfl, h'⟩ := h'
  cases b with
  | true => exact h' Γ _ hc hΓ
  | false => exact h'
end
end Mine
end
section
open PySem PySem.W PyProof.Rows PySem.Builtin PySem.Builtin.Str
set_option Elab.async false
set_option maxRecDepth 100000
set_option maxHeartbeats 1000000
set_option linter.unusedVariables false
namespace Mine
open PySem.W.X (Kont Means aroundOf endOf okMark XV)
theorem lawSafe_list : lawSafe.cps.toList = safeL := by decide +kernel
theorem inS_safe (c : Nat) : inS lawSafe (sg c) = safe c := by
  rw [inS_one, lawSafe_list]
  simp [safe]
theorem bc1_quiet (w : World) (b₁ b₂ : Bool) (W : Str) (t z k ct q tk : Nat) : (bc1 (wB w b₁ b₂).params W t z k ct q tk).quiet = true := by
  cases b₁ <;> kernel_rfl
/-- what _law_bare tells -/
noncomputable def bareS (W : Str) : Bool := !eqS W "" && W.cps.toList.all safe
noncomputable abbrev StrIt (ty id : String) : Prop := (ty = "str_ascii_iterator" ∧ id = "str_ascii_iterator.__next__") ∨ (ty = "str_iterator" ∧ id = "str_iterator.__next__")
section
variable {w : World} {b₁ b₂ : Bool} {A : Around} {g : Heap} {n : Nat} {R : Result → Shared → Prop}
theorem bare_loop {W : Str} {t z k ct q tk : Nat} {ty id : String} (hty : StrIt ty id) (S : Sur n (wB w b₁ b₂).params A g) (hn : n + 20 ≤ 700) : ∀ (r : List Nat) (i : Nat) (D : Obj) (L : List Value) (e : Nat) (s : Shared),
    W.cps.toList.drop i = r → (r = [] → ∃ dk v, D = bDict (wB w b₁ b₂).params dk v) → (D = bDict0 ∨ ∃ dk v, D = bDict (wB w b₁ b₂).params dk v) → L.length + r.length ≤ 65536 →
    Own g s.heap (bLed (wB w b₁ b₂).params W t z k ct q D (lstE L e) (siO ty W t i)) →
    (∀ (s' : Shared) (ee et dk e' i' : Nat) (v : Value) (L' : List Value), (L'.isEmpty = (L.isEmpty && r.all safe)) →
      Own g s'.heap ([(q + 2, bDict (wB w b₁ b₂).params dk v), (q + 1, lstE L' e')] ++ [(ee, stopO et), (et, nilO), (q, siE ty i')] ++ [(z + 1, bCell (some (.str lawSafe ct))), (z, bFr (wB w b₁ b₂).params W t k)]) →
      s'.gens = s.gens → s'.drawn = s.drawn → s'.os = s.os → R (.ok .next) s') →
    codeAny (model pw (wB w b₁ b₂)) A (bc1 (wB w b₁ b₂).params W t z k ct q tk) R s := by
  intro r
  induction r with
  | nil =>
    intro i D L e s hd hD0 _ hl Dn h
    obtain ⟨dk, v, rfl⟩ := hD0 rfl
    refine code_good Dn ?_
    have sg1 : SegOk (PT (wB w b₁ b₂).params) 20 (btCf (wB w b₁ b₂).params W t z k ct q tk (bDict (wB w b₁ b₂).params dk v) (lstE L e) (siO ty W t i) s.heap.objs.size s.toks) ht0 prB [] []
        (some (nextCode id q, none), true, bLed (wB w b₁ b₂).params W t z k ct q (bDict (wB w b₁ b₂).params dk v) (lstE L e) (siO ty W t i)) := by
      rcases hty with ⟨rfl, rfl⟩ | ⟨rfl, rfl⟩
      · exact bTA ..
      · exact bTW ..
    obtain ⟨cf', ac', er, hp, G⟩ := seg2 (gens := s.gens) (S.par (by omega) (R₀ := R) (d := s.drawn) (os := s.os)) sg1 rfl
    simp only [prB, Prod.mk.injEq] at hp
    obtain ⟨p1, p2, p3⟩ := hp
    refine G (call_segG (ac' := ac') [(q + 2, bDict (wB w b₁ b₂).params dk v), (q + 1, lstE L e)] [(q, siO ty W t i)] [(z + 1, bCell (some (.str lawSafe ct))), (z, bFr (wB w b₁ b₂).params W t k)]
      (fun r sm => ∃ ee et, r = .error (.ref ee) ∧ sm = [(ee, stopO et), (et, nilO), (q, siE ty i)]) S (by omega) p1 p2 (by rw [p3]; rfl) ?_ ?_)
    · intro A' g' s' R' S' hk hr D' h'
      refine nx_str_end S'.handled hty (by rw [List.drop_eq_nil_iff] at hd; simpa using hd) D' fun H et ee D'' => h' _ _ _ D'' ⟨ee, et, rfl, rfl⟩ rfl rfl rfl
    · rintro r sm' sz2 tk2 ⟨ee, et, rfl, rfl⟩
      rw [← er]
      have sg2 : SegOk (PT (wB w b₁ b₂).params) 20 (buCf (wB w b₁ b₂).params W t z k ct q tk (bDict (wB w b₁ b₂).params dk v) (lstE L e) ty i s.heap.objs.size s.toks (.error (.ref ee)) [(ee, stopO et), (et, nilO), (q, siE ty i)] sz2 tk2) hte prA [] []
          (.pure (.done .next), .base, [(q + 2, bDict (wB w b₁ b₂).params dk v), (q + 1, lstE L e)] ++ [(ee, stopO et), (et, nilO), (q, siE ty i)] ++ [(z + 1, bCell (some (.str lawSafe ct))), (z, bFr (wB w b₁ b₂).params W t k)]) := by
        rcases hty with ⟨rfl, rfl⟩ | ⟨rfl, rfl⟩
        · exact beA ..
        · exact beW ..
      obtain ⟨cf2, _, _, hp, G⟩ := seg2 (gens := s.gens) (S.par (by omega) (R₀ := R) (d := s.drawn) (os := s.os)) sg2 rfl
      simp only [prA, Prod.mk.injEq] at hp
      obtain ⟨q1, q2, q3⟩ := hp
      refine G (good_done q1 q2 fun H D3 _ => h ⟨H, s.gens, s.drawn, cf2.tk, s.os⟩ ee et dk e i v L (by simp) (by rw [← q3]; exact D3) rfl rfl rfl)
  | cons c r ih =>
    intro i D L e s hd _ hD hl Dn h
    have hx : W.cps[i]? = some c := by
      have := congrArg (·[0]?) hd
      simp only [List.getElem?_drop, Nat.add_zero, List.getElem?_cons_zero, Array.getElem?_toList] at this
      exact this
    have hd' : W.cps.toList.drop (i + 1) = r := by
      rw [← List.drop_drop, hd]; rfl
    simp only [List.length_cons] at hl
    refine code_good Dn ?_
    have sg1 : SegOk (PT (wB w b₁ b₂).params) 20 (btCf (wB w b₁ b₂).params W t z k ct q tk D (lstE L e) (siO ty W t i) s.heap.objs.size s.toks) ht0 prB [] []
        (some (nextCode id q, none), true, bLed (wB w b₁ b₂).params W t z k ct q D (lstE L e) (siO ty W t i)) := by
      rcases hty with ⟨rfl, rfl⟩ | ⟨rfl, rfl⟩
      · exact bTA ..
      · exact bTW ..
    obtain ⟨cf', ac', er, hp, G⟩ := seg2 (gens := s.gens) (S.par (by omega) (R₀ := R) (d := s.drawn) (os := s.os)) sg1 rfl
    simp only [prB, Prod.mk.injEq] at hp
    obtain ⟨p1, p2, p3⟩ := hp
    refine G (call_segG (ac' := ac') [(q + 2, D), (q + 1, lstE L e)] [(q, siO ty W t i)] [(z + 1, bCell (some (.str lawSafe ct))), (z, bFr (wB w b₁ b₂).params W t k)]
      (fun r sm => ∃ tc, r = .ok (.ret (.str (sg c) tc)) ∧ sm = [(q, siO ty W t (i + 1))]) S (by omega) p1 p2 (by rw [p3]; rfl) ?_ ?_)
    · intro A' g' s' R' S' hk hr D' h'
      exact nx_str_item hty hx D' fun H D'' => h' _ _ _ D'' ⟨_, rfl, rfl⟩ rfl rfl rfl
    · rintro rr sm' sz2 tk2 ⟨tc, rfl, rfl⟩
      rw [← er]
      have fin : ∀ (cf2 : Cf) (dk e' : Nat) (L' : List Value), L'.length ≤ L.length + 1 → (L'.isEmpty = (L.isEmpty && safe c)) → prA cf2 = (.pure (.again (bc1 (wB w b₁ b₂).params W t z k ct q tk)), .base, bLed (wB w b₁ b₂).params W t z k ct q (bDict (wB w b₁ b₂).params dk (.str (sg c) tc)) (lstE L' e') (siO ty W t (i + 1))) →
          Good (vOf pw (wB w b₁ b₂) g A R s.drawn s.os) s.gens cf2 := by
        intro cf2 dk e' L' hL hE hp
        simp only [prA, Prod.mk.injEq] at hp
        obtain ⟨q1, q2, q3⟩ := hp
        refine good_again q1 q2 (bc1_quiet ..) fun H D3 => ?_
        refine ih (i + 1) (bDict (wB w b₁ b₂).params dk (.str (sg c) tc)) L' e' ⟨H, s.gens, s.drawn, cf2.tk, s.os⟩ hd' (fun _ => ⟨_, _, rfl⟩) (.inr ⟨_, _, rfl⟩) (by omega) (by rw [← q3]; exact D3) fun s' ee et dk2 e2 i2 v2 L2 hL2 D4 e1 e2 e3 => ?_
        exact h s' ee et dk2 _ i2 v2 L2 (by rw [hL2, hE, List.all_cons, Bool.and_assoc]) D4 e1 e2 e3
      have hb : Nat.ble L.length 65536 = true := Nat.ble_eq_true_of_le (by omega)
      cases hs : safe c with
      | true =>
        have hs' : inS lawSafe (sg c) = true := by rw [inS_safe]; exact hs
        rcases hD with rfl | ⟨dk, v, rfl⟩
        · have sg2 : SegOk (PT (wB w b₁ b₂).params) 60 (buCf (wB w b₁ b₂).params W t z k ct q tk bDict0 (lstE L e) ty i s.heap.objs.size s.toks (.ok (.ret (.str (sg c) tc))) [(q, siO ty W t (i + 1))] sz2 tk2) ht1 prA [inS lawSafe (sg c)] [true]
              (.pure (.again (bc1 (wB w b₁ b₂).params W t z k ct q tk)), .base, bLed (wB w b₁ b₂).params W t z k ct q (bDict (wB w b₁ b₂).params tk2 (.str (sg c) tc)) (lstE L e) (siO ty W t (i + 1))) := by
            rcases hty with ⟨rfl, rfl⟩ | ⟨rfl, rfl⟩
            · exact bt1A w b₁ b₂ W t z k ct q tk i c tc 0 e _ _ sz2 tk2 L .none
            · exact bt1W w b₁ b₂ W t z k ct q tk i c tc 0 e _ _ sz2 tk2 L .none
          obtain ⟨cf2, _, _, hp, G⟩ := seg2 (gens := s.gens) (S.par (by omega) (R₀ := R) (d := s.drawn) (os := s.os)) sg2 (by rw [hs'])
          exact G (fin cf2 _ _ _ (by omega) (by rw [hs, Bool.and_true]) hp)
        · have sg2 : SegOk (PT (wB w b₁ b₂).params) 60 (buCf (wB w b₁ b₂).params W t z k ct q tk (bDict (wB w b₁ b₂).params dk v) (lstE L e) ty i s.heap.objs.size s.toks (.ok (.ret (.str (sg c) tc))) [(q, siO ty W t (i + 1))] sz2 tk2) hu1 prA [inS lawSafe (sg c)] [true]
              (.pure (.again (bc1 (wB w b₁ b₂).params W t z k ct q tk)), .base, bLed (wB w b₁ b₂).params W t z k ct q (bDict (wB w b₁ b₂).params dk (.str (sg c) tc)) (lstE L e) (siO ty W t (i + 1))) := by
            rcases hty with ⟨rfl, rfl⟩ | ⟨rfl, rfl⟩
            · exact bu1A w b₁ b₂ W t z k ct q tk i c tc dk e _ _ sz2 tk2 L v
            · exact bu1W w b₁ b₂ W t z k ct q tk i c tc dk e _ _ sz2 tk2 L v
          obtain ⟨cf2, _, _, hp, G⟩ := seg2 (gens := s.gens) (S.par (by omega) (R₀ := R) (d := s.drawn) (os := s.os)) sg2 (by rw [hs'])
          exact G (fin cf2 _ _ _ (by omega) (by rw [hs, Bool.and_true]) hp)
      | false =>
        have hs' : inS lawSafe (sg c) = false := by rw [inS_safe]; exact hs
        rcases hD with rfl | ⟨dk, v, rfl⟩
        · have sg2 : SegOk (PT (wB w b₁ b₂).params) 60 (buCf (wB w b₁ b₂).params W t z k ct q tk bDict0 (lstE L e) ty i s.heap.objs.size s.toks (.ok (.ret (.str (sg c) tc))) [(q, siO ty W t (i + 1))] sz2 tk2) ht2 prA [Nat.ble L.length 65536, inS lawSafe (sg c)] [true, false]
              (.pure (.again (bc1 (wB w b₁ b₂).params W t z k ct q tk)), .base, bLed (wB w b₁ b₂).params W t z k ct q (bDict (wB w b₁ b₂).params tk2 (.str (sg c) tc)) (lstE (L ++ [.str (sg c) tc]) (e + 1)) (siO ty W t (i + 1))) := by
            rcases hty with ⟨rfl, rfl⟩ | ⟨rfl, rfl⟩
            · exact bt2A w b₁ b₂ W t z k ct q tk i c tc 0 e _ _ sz2 tk2 L .none
            · exact bt2W w b₁ b₂ W t z k ct q tk i c tc 0 e _ _ sz2 tk2 L .none
          obtain ⟨cf2, _, _, hp, G⟩ := seg2 (gens := s.gens) (S.par (by omega) (R₀ := R) (d := s.drawn) (os := s.os)) sg2 (by rw [hs', hb])
          exact G (fin cf2 _ _ _ (by simp) (by rw [hs, Bool.and_false]; simp) hp)
        · have sg2 : SegOk (PT (wB w b₁ b₂).params) 60 (buCf (wB w b₁ b₂).params W t z k ct q tk (bDict (wB w b₁ b₂).params dk v) (lstE L e) ty i s.heap.objs.size s.toks (.ok (.ret (.str (sg c) tc))) [(q, siO ty W t (i + 1))] sz2 tk2) hu2 prA [Nat.ble L.length 65536, inS lawSafe (sg c)] [true, false]
              (.pure (.again (bc1 (wB w b₁ b₂).params W t z k ct q tk)), .base, bLed (wB w b₁ b₂).params W t z k ct q (bDict (wB w b₁ b₂).params dk (.str (sg c) tc)) (lstE (L ++ [.str (sg c) tc]) (e + 1)) (siO ty W t (i + 1))) := by
            rcases hty with ⟨rfl, rfl⟩ | ⟨rfl, rfl⟩
            · exact bu2A w b₁ b₂ W t z k ct q tk i c tc dk e _ _ sz2 tk2 L v
            · exact bu2W w b₁ b₂ W t z k ct q tk i c tc dk e _ _ sz2 tk2 L v
          obtain ⟨cf2, _, _, hp, G⟩ := seg2 (gens := s.gens) (S.par (by omega) (R₀ := R) (d := s.drawn) (os := s.os)) sg2 (by rw [hs', hb])
          exact G (fin cf2 _ _ _ (by simp) (by rw [hs, Bool.and_false]; simp) hp)
/-- the comprehension as a whole -/
theorem bare_comp {W : Str} {t z k ct q tk : Nat} {s : Shared} {ty id : String} (hty : StrIt ty id) (S : Sur n (wB w b₁ b₂).params A g) (hn : n + 20 ≤ 700) (hW : W.cps.toList ≠ []) (hl : W.cps.toList.length ≤ 65536)
    (D : Own g s.heap (bLed (wB w b₁ b₂).params W t z k ct q bDict0 (lstE [] 0) (siO ty W t 0)))
    (h : ∀ (s' : Shared) (ee et dk e' i' : Nat) (v : Value) (L' : List Value), (L'.isEmpty = W.cps.toList.all safe) →
      Own g s'.heap ([(q + 2, bDict (wB w b₁ b₂).params dk v), (q + 1, lstE L' e')] ++ [(ee, stopO et), (et, nilO), (q, siE ty i')] ++ [(z + 1, bCell (some (.str lawSafe ct))), (z, bFr (wB w b₁ b₂).params W t k)]) →
      s'.gens = s.gens → s'.drawn = s.drawn → s'.os = s.os → R (.ok .next) s') :
    codeAny (model pw (wB w b₁ b₂)) A (bc0 (wB w b₁ b₂).params W t z k ct q tk) R s := by
  refine code_good D ?_
  have sg1 : SegOk (PT (wB w b₁ b₂).params) 30 ⟨bc0 (wB w b₁ b₂).params W t z k ct q tk, .base, (PT (wB w b₁ b₂).params).den (bc0 (wB w b₁ b₂).params W t z k ct q tk), bLed (wB w b₁ b₂).params W t z k ct q bDict0 (lstE [] 0) (siO ty W t 0), s.heap.objs.size, s.toks⟩ (hs0 b₂) prA [] []
      (.pure (.again (bc1 (wB w b₁ b₂).params W t z k ct q tk)), .base, bLed (wB w b₁ b₂).params W t z k ct q bDict0 (lstE [] 0) (siO ty W t 0)) := by
    rcases hty with ⟨rfl, rfl⟩ | ⟨rfl, rfl⟩
    · exact bSA ..
    · exact bSW ..
  obtain ⟨cf', ac', er, hp, G⟩ := seg2 (gens := s.gens) (S.par (by omega) (R₀ := R) (d := s.drawn) (os := s.os)) sg1 rfl
  simp only [prA, Prod.mk.injEq] at hp
  obtain ⟨q1, q2, q3⟩ := hp
  refine G (good_again q1 q2 (bc1_quiet ..) fun H D3 => ?_)
  exact bare_loop hty S hn W.cps.toList 0 bDict0 [] 0 ⟨H, s.gens, s.drawn, cf'.tk, s.os⟩ rfl (fun q => absurd q hW) (.inl rfl) (by simpa using hl) (by rw [← q3]; exact D3) fun s' ee et dk e' i' v L' hL D' e1 e2 e3 => h s' ee et dk e' i' v L' (by simpa using hL) D' e1 e2 e3
/-- the list that the comprehension makes -/
theorem bare_lc {W : Str} {t z k ct : Nat} {s : Shared} {Q : Value → Shared → Prop} {E : Value → Shared → Prop} (S : Sur n (wB w b₁ b₂).params A g) (hn : n + 60 ≤ 700) (hW : W.cps.toList ≠ []) (hl : W.cps.toList.length ≤ 65536)
    (D : Own g s.heap (bLed2 (wB w b₁ b₂).params W t z k (some (.str lawSafe ct))))
    (h : ∀ (s' : Shared) (a e' : Nat) (led : Led) (L' : List Value), (L'.isEmpty = W.cps.toList.all safe) → Own g s'.heap ((a, lstE L' e') :: led) → s'.gens = s.gens → s'.drawn = s.drawn → s'.os = s.os → Q (.ref a) s') :
    wpOwn (model pw (wB w b₁ b₂)) A (bFc z) (eval bLc (bEnv z)) Q E s := by
  refine ev_good D ?_
  have go : ∀ (ty id : String) (hs : List Nat) (cnd : Bool), StrIt ty id → cnd = true →
      (∀ q tk, SegOk (PT (wB w b₁ b₂).params) 30 (bX3Cf (wB w b₁ b₂).params W t z k ct q tk) hs prB [cnd] [true] (some (bc0 (wB w b₁ b₂).params W t z k ct q tk, none), true, bLed (wB w b₁ b₂).params W t z k ct q bDict0 (lstE [] 0) (siO ty W t 0))) →
      (∀ (q tk ee et dk sz2 tk2 : Nat) (u : Value) (acc it : Obj), SegOk (PT (wB w b₁ b₂).params) 30 (after (runC (PT (wB w b₁ b₂).params) 30 (bX3Cf (wB w b₁ b₂).params W t z k ct q tk) { hs := hs }) (.ok .next) (fun _ => [(q + 2, bDict (wB w b₁ b₂).params dk u), (q + 1, acc)] ++ [(ee, stopO et), (et, nilO), (q, it)] ++ [(z + 1, bCell (some (.str lawSafe ct))), (z, bFr (wB w b₁ b₂).params W t k)]) sz2 tk2) hx4 (fun cf => (cf.t, cf.κ, cf.led.drop 1)) [] []
        (.pure (.done (.ret (.ref (q + 1)))), .base, [(q + 1, acc), (ee, stopO et), (et, nilO), (q, it), (z + 1, bCell (some (.str lawSafe ct))), (z, bFr (wB w b₁ b₂).params W t k)])) →
      Good (vOf pw (wB w b₁ b₂) g A (fun r s' => match r with | .ok (.ret v) => Q v s' | .ok _ => False | .error e => E e s') s.drawn s.os) s.gens (bX3Cf (wB w b₁ b₂).params W t z k ct s.heap.objs.size s.toks) := by
    intro ty id hs cnd hty hc sg3 sg4
    obtain ⟨cf', ac', er, hp, G⟩ := seg2 (gens := s.gens) (S.par (by omega) (d := s.drawn) (os := s.os)) (sg3 _ _) (by rw [hc])
    simp only [prB, Prod.mk.injEq] at hp
    obtain ⟨p1, p2, p3⟩ := hp
    refine G (call_segG (ac' := ac') [] (bLed (wB w b₁ b₂).params W t z k ct s.heap.objs.size bDict0 (lstE [] 0) (siO ty W t 0)) []
      (fun r sm => r = .ok .next ∧ ∃ ee et dk e' i' v L', L'.isEmpty = W.cps.toList.all safe ∧ sm = [(s.heap.objs.size + 2, bDict (wB w b₁ b₂).params dk v), (s.heap.objs.size + 1, lstE L' e')] ++ [(ee, stopO et), (et, nilO), (s.heap.objs.size, siE ty i')] ++ [(z + 1, bCell (some (.str lawSafe ct))), (z, bFr (wB w b₁ b₂).params W t k)]) S (by omega) p1 p2 (by rw [p3]; simp) ?_ ?_)
    · intro A' g' s' R' S' hk hr D' h'
      exact bare_comp hty S' (by omega) hW hl D' fun s'' ee et dk e' i' v L' hL D'' e1 e2 e3 => h' s'' _ _ D'' ⟨rfl, ee, et, dk, e', i', v, L', hL, rfl⟩ e1 e2 e3
    · rintro r sm' sz2 tk2 ⟨rfl, ee, et, dk, e', i', v, L', hL, rfl⟩
      rw [← er]
      obtain ⟨cf2, _, _, hp, G⟩ := seg2 (gens := s.gens) (S.par (by omega) (d := s.drawn) (os := s.os)) (sg4 _ _ ee et dk sz2 tk2 v (lstE L' e') (siE ty i')) rfl
      simp only [Prod.mk.injEq] at hp
      obtain ⟨q1, q2, q3⟩ := hp
      refine G (good_ret q1 q2 fun H D3 _ => ?_)
      exact h ⟨H, s.gens, s.drawn, cf2.tk, s.os⟩ _ e' _ L' hL (D3.drop q3) rfl rfl rfl
  cases ha : W.cps.all (· < 128) with
  | true => exact go "str_ascii_iterator" "str_ascii_iterator.__next__" hx3 _ (.inl ⟨rfl, rfl⟩) ha (fun q tk => bX3A w b₁ b₂ W t z k ct q tk) (fun q tk ee et dk sz2 tk2 u acc it => bX4A w b₁ b₂ W t z k ct q tk ee et dk sz2 tk2 u acc it)
  | false => exact go "str_iterator" "str_iterator.__next__" hx3w _ (.inr ⟨rfl, rfl⟩) (by rw [ha]; rfl) (fun q tk => bX3W w b₁ b₂ W t z k ct q tk) (fun q tk ee et dk sz2 tk2 u acc it => bX4W w b₁ b₂ W t z k ct q tk ee et dk sz2 tk2 u acc it)
theorem bare_code {W : Str} {t : Nat} {s : Shared} (S : Sur n (wB w b₁ b₂).params A g) (hn : n + 60 ≤ 700) (hl : W.cps.toList.length ≤ 65536) (D : Own g s.heap [])
    (h : ∀ (s' : Shared), Own g s'.heap [] → s'.gens = s.gens → s'.drawn = s.drawn → s'.os = s.os → R (.ok (.ret (.bool (bareS W)))) s') :
    codeAny (model pw (wB w b₁ b₂)) A (bCode W t) R s := by
  refine code_good D ?_
  obtain ⟨cf0, _, _, hp, G⟩ := seg2 (gens := s.gens) (S.par (by omega) (R₀ := R) (d := s.drawn) (os := s.os)) (bE0 w b₁ b₂ W t s.heap.objs.size s.toks) rfl
  simp only [prA, Prod.mk.injEq] at hp
  obtain ⟨q1, q2, q3⟩ := hp
  refine G (good_again q1 q2 rfl fun H0 D0 => func_own ?_)
  rw [q3] at D0
  generalize hz : s.heap.objs.size = z at *
  generalize hk : s.toks = k at *
  rw [b_body]
  refine own_exec1 (ex_good D0 ?_)
  rw [← b_body]
  obtain ⟨cf1, _, _, hp, G⟩ := seg2 (gens := s.gens) (S.par (by omega) (d := s.drawn) (os := s.os)) (bX1 w b₁ b₂ W t z k _ _) rfl
  simp only [prA, Prod.mk.injEq] at hp
  obtain ⟨q1, q2, q3⟩ := hp
  refine G (good_done q1 q2 fun H1 D1 _ => ?_)
  rw [q3] at D1
  dsimp only
  refine own_return (own_and (ev_good D1 ?_))
  have fin : ∀ (s' : Shared) (b : Bool) (led : Led), b = bareS W → Own g s'.heap led → s'.gens = s.gens → s'.drawn = s.drawn → s'.os = s.os → R (.ok (.ret (.bool b))) s' := by
    intro s' b led hb D' e1 e2 e3
    subst hb
    exact h s' (D'.sub (fun p hp => by cases hp) .nil) e1 e2 e3
  cases hne : (!eqS W "") with
  | false =>
    obtain ⟨cf2, _, _, hp, G⟩ := seg2 (gens := s.gens) (S.par (by omega) (d := s.drawn) (os := s.os)) (bX2z w b₁ b₂ W t z k _ _ _) (by rw [hne])
    simp only [prA, Prod.mk.injEq] at hp
    obtain ⟨q1, q2, q3⟩ := hp
    refine G (good_ret q1 q2 fun H2 D2 _ => ?_)
    refine ⟨false, rfl, ?_⟩
    exact fin ⟨H2, s.gens, s.drawn, cf2.tk, s.os⟩ false _ (by unfold bareS; rw [hne]; rfl) D2 rfl rfl rfl
  | true =>
    obtain ⟨cf2, _, _, hp, G⟩ := seg2 (gens := s.gens) (S.par (by omega) (d := s.drawn) (os := s.os)) (bX2 w b₁ b₂ W t z k _ _ _) (by rw [hne])
    simp only [prA, Prod.mk.injEq] at hp
    obtain ⟨q1, q2, q3⟩ := hp
    refine G (good_ret q1 q2 fun H2 D2 _ => ?_)
    rw [q3] at D2
    refine ⟨true, rfl, ?_⟩
    dsimp only
    have hW : W.cps.toList ≠ [] := by
      intro q
      unfold eqS at hne
      rw [q, em_list] at hne
      simp at hne
    refine own_compare1 (bare_lc S hn hW hl D2 fun s3 a e' led L' hL D3 e1 e2 e3 => ?_) (by kernel_rfl)
    refine ev_good D3 ?_
    obtain ⟨cf4, _, _, hp, G⟩ := seg2 (gens := s3.gens) (S.par (by omega) (d := s3.drawn) (os := s3.os)) (bX5 w b₁ b₂ W z s3.heap.objs.size s3.toks ((a, lstE L' e') :: led)) rfl
    simp only [prA, Prod.mk.injEq] at hp
    obtain ⟨q1, q2, q3⟩ := hp
    refine G (good_ret q1 q2 fun H4 D4 _ => wpOwn_of_wpAny ?_)
    rw [q3] at D4
    have ha : H4.get? a = some (lstE L' e') := D4.has (a, lstE L' e') (by simp)
    have hb : H4.get? s3.heap.objs.size = some (lstE [] 0) := D4.has (s3.heap.objs.size, lstE [] 0) (by simp)
    have hu : (A.under (bFc z)).units < cLine := by
      have l1 := S.unit
      have l2 : (bFc z).cUnits = 3 := rfl
      have l3 : cLine = 9900 := rfl
      show A.units + (bFc z).cUnits < cLine
      omega
    have e1' : s3.gens = s.gens := e1
    cases L' with
    | nil =>
      refine SeqAt.eq_listAt (items := #[]) (items2 := #[]) (e := fun _ => true) ⟨_, ha, rfl, _, rfl⟩ ⟨_, hb, rfl, _, rfl⟩ rfl hu (fun j h1 _ => by simp at h1) ?_
      exact fin ⟨H4, s3.gens, s3.drawn, cf4.tk, s3.os⟩ true _ (by unfold bareS; rw [hne, ← hL]; rfl) D4 e1 e2 e3
    | cons v L2 =>
      refine SeqAt.eq_list_lengthsAt (items := ⟨v :: L2⟩) (items2 := #[]) ⟨_, ha, rfl, _, rfl⟩ ⟨_, hb, rfl, _, rfl⟩ (by simp) hu ?_
      exact fin ⟨H4, s3.gens, s3.drawn, cf4.tk, s3.os⟩ false _ (by unfold bareS; rw [hne, ← hL]; rfl) D4 e1 e2 e3
end
end Mine
end
section
open PySem PySem.W PyProof.Rows PySem.Builtin PySem.Builtin.Str
set_option Elab.async false
set_option maxRecDepth 1000000
set_option maxHeartbeats 0
set_option linter.unusedVariables false
namespace Mine
open PySem.W.X (Kont Means aroundOf endOf okMark XV)
noncomputable abbrev oCode (X : Str) (tx : Nat) (Y : Str) (ty : Nat) : Code := .call (.ref 799) ⟨[.str X tx, .str Y ty], []⟩
noncomputable abbrev oCf (p : Params) (X Y : Str) (tx ty z tk : Nat) : Cf := ⟨oCode X tx Y ty, .base, (PT p).den (oCode X tx Y ty), [], z, tk⟩
noncomputable def oFr (p : Params) (X Y : Str) (tx ty k : Nat) : Obj := { cls := .type "frame", data := .dict [dE p "one" k (.str X tx), dE p "two" (k + 1) (.str Y ty)].toArray 2 }
noncomputable abbrev oLed (p : Params) (X Y : Str) (tx ty z k : Nat) : Led := [(z, oFr p X Y tx ty k)]
noncomputable def ho0 : List Nat := [0, 0, 1, 1, 1, 1, 0, 0, 0, 1, 0, 1]
noncomputable def ho1 : List Nat := [0, 1, 0, 1]
noncomputable def ho2 : List Nat := [0, 0, 0, 0, 1, 0, 1]
noncomputable abbrev o1Cf (p : Params) (X Y : Str) (tx ty z tk : Nat) (b : Bool) (sz2 tk2 : Nat) : Cf := after (runC (PT p) 60 (oCf p X Y tx ty z tk) { hs := ho0 }) (.ok (.ret (.bool b))) (fun _ => oLed p X Y tx ty z tk) sz2 tk2
noncomputable abbrev o2Cf (p : Params) (X Y : Str) (tx ty z tk : Nat) (b : Bool) (sz2 tk2 : Nat) (c : Bool) (sz3 tk3 : Nat) : Cf := after (runC (PT p) 60 (o1Cf p X Y tx ty z tk b sz2 tk2) { hs := ho1 }) (.ok (.ret (.bool c))) (fun _ => oLed p X Y tx ty z tk) sz3 tk3
noncomputable abbrev o3Cf (p : Params) (X Y : Str) (tx ty z tk : Nat) (b : Bool) (sz2 tk2 : Nat) (c : Bool) (sz3 tk3 sz4 tk4 : Nat) : Cf := after (runC (PT p) 60 (o2Cf p X Y tx ty z tk b sz2 tk2 c sz3 tk3) { hs := ho2 }) (.ok (.ret (.bool b))) (fun _ => oLed p X Y tx ty z tk) sz4 tk4
noncomputable abbrev lenC (x : Str) : Bool := Nat.ble x.length sizeLine
noncomputable abbrev itemC (x : Str) (i : Int) : Bool := decide (0 ≤ i) && Nat.blt i.toNat x.length && Nat.ble x.length sizeLine
noncomputable abbrev itemS (x : Str) (i : Int) : Str := ⟨#[x.cps.toList.getD i.toNat 0]⟩
theorem oA (w : World) (b₁ b₂ : Bool) (X Y : Str) (tx ty z tk : Nat) : SegOk (PT (wB w b₁ b₂).params) 60 (oCf (wB w b₁ b₂).params X Y tx ty z tk) ho0 prB [] []
    (some (bCode X tx, none), true, oLed (wB w b₁ b₂).params X Y tx ty z tk) := by
  kernel_rfl
theorem oB (w : World) (b₁ b₂ : Bool) (X Y : Str) (tx ty z tk sz2 tk2 : Nat) (b : Bool) : SegOk (PT (wB w b₁ b₂).params) 60 (o1Cf (wB w b₁ b₂).params X Y tx ty z tk b sz2 tk2) ho1 prB [] []
    (some (bCode Y ty, none), true, oLed (wB w b₁ b₂).params X Y tx ty z tk) := by
  kernel_rfl
theorem oC (w : World) (b₁ b₂ : Bool) (X Y : Str) (tx ty z tk sz2 tk2 sz3 tk3 : Nat) (b c : Bool) : SegOk (PT (wB w b₁ b₂).params) 60 (o2Cf (wB w b₁ b₂).params X Y tx ty z tk b sz2 tk2 c sz3 tk3) ho2 prB [] []
    (some (bCode X tx, none), true, oLed (wB w b₁ b₂).params X Y tx ty z tk) := by
  cases b₁ <;> cases b <;> cases c <;> kernel_rfl
noncomputable def hotfy : List Nat := [1, 1, 1, 1, 0, 1, 0, 1, 1, 0, 1, 0, 1, 1, 2, 1, 1, 1, 0, 1, 0, 1, 1, 2, 1, 1, 1, 0, 1, 0, 1, 1, 2, 1, 1, 1, 5, 5, 5, 5, 5, 15, 0, 0, 2, 5, 0, 0]
theorem otfy_ (w : World) (b₁ b₂ : Bool) (X Y : Str) (tx ty z tk sz2 tk2 sz3 tk3 sz4 tk4 : Nat) : SegOk (PT (wB w b₁ b₂).params) 150 (o3Cf (wB w b₁ b₂).params X Y tx ty z tk true sz2 tk2 false sz3 tk3 sz4 tk4) hotfy prI [eqS (itemS X 0) "%", itemC X 0] [true, true]
    (some (-1), .base) := by
  cases b₁ <;> kernel_rfl
noncomputable def hotfn : List Nat := [1, 1, 1, 1, 0, 1, 0, 1, 1, 0, 1, 0, 1, 1, 2, 1, 1, 1, 0, 1, 0, 1, 1, 2, 1, 1, 1, 0, 1, 0, 1, 1, 2, 1, 1, 1, 5, 5, 5, 5, 5, 15, 0, 0, 1, 5]
theorem otfn_ (w : World) (b₁ b₂ : Bool) (X Y : Str) (tx ty z tk sz2 tk2 sz3 tk3 sz4 tk4 : Nat) : SegOk (PT (wB w b₁ b₂).params) 150 (o3Cf (wB w b₁ b₂).params X Y tx ty z tk true sz2 tk2 false sz3 tk3 sz4 tk4) hotfn prI [eqS (itemS X 0) "%", itemC X 0] [false, true]
    (some (1), .base) := by
  cases b₁ <;> kernel_rfl
noncomputable def hofty : List Nat := [1, 0, 0, 1, 1, 1, 0, 1, 0, 1, 1, 0, 1, 0, 1, 1, 2, 1, 1, 1, 0, 1, 0, 1, 1, 2, 1, 1, 1, 0, 1, 0, 1, 1, 2, 1, 1, 1, 5, 5, 5, 5, 5, 15, 0, 0, 2, 5, 0, 0]
theorem ofty_ (w : World) (b₁ b₂ : Bool) (X Y : Str) (tx ty z tk sz2 tk2 sz3 tk3 sz4 tk4 : Nat) : SegOk (PT (wB w b₁ b₂).params) 150 (o3Cf (wB w b₁ b₂).params X Y tx ty z tk false sz2 tk2 true sz3 tk3 sz4 tk4) hofty prI [eqS (itemS Y 0) "%", itemC Y 0] [true, true]
    (some (1), .base) := by
  cases b₁ <;> kernel_rfl
noncomputable def hoftn : List Nat := [1, 0, 0, 1, 1, 1, 0, 1, 0, 1, 1, 0, 1, 0, 1, 1, 2, 1, 1, 1, 0, 1, 0, 1, 1, 2, 1, 1, 1, 0, 1, 0, 1, 1, 2, 1, 1, 1, 5, 5, 5, 5, 5, 15, 0, 0, 1, 5]
theorem oftn_ (w : World) (b₁ b₂ : Bool) (X Y : Str) (tx ty z tk sz2 tk2 sz3 tk3 sz4 tk4 : Nat) : SegOk (PT (wB w b₁ b₂).params) 150 (o3Cf (wB w b₁ b₂).params X Y tx ty z tk false sz2 tk2 true sz3 tk3 sz4 tk4) hoftn prI [eqS (itemS Y 0) "%", itemC Y 0] [false, true]
    (some (-1), .base) := by
  cases b₁ <;> kernel_rfl
noncomputable def hottl : List Nat := [1, 1, 0, 0, 2, 0, 0]
theorem ottl_ (w : World) (b₁ b₂ : Bool) (X Y : Str) (tx ty z tk sz2 tk2 sz3 tk3 sz4 tk4 : Nat) : SegOk (PT (wB w b₁ b₂).params) 150 (o3Cf (wB w b₁ b₂).params X Y tx ty z tk true sz2 tk2 true sz3 tk3 sz4 tk4) hottl prI [ltS X Y] [true]
    (some (-1), .base) := by
  cases b₁ <;> kernel_rfl
noncomputable def hottg : List Nat := [1, 1, 0, 0, 1]
theorem ottg_ (w : World) (b₁ b₂ : Bool) (X Y : Str) (tx ty z tk sz2 tk2 sz3 tk3 sz4 tk4 : Nat) : SegOk (PT (wB w b₁ b₂).params) 150 (o3Cf (wB w b₁ b₂).params X Y tx ty z tk true sz2 tk2 true sz3 tk3 sz4 tk4) hottg prI [ltS X Y] [false]
    (some (1), .base) := by
  cases b₁ <;> kernel_rfl
noncomputable def hoff1y : List Nat := [1, 0, 0, 1, 5, 33, 2, 0, 0, 2, 2, 0, 0, 2, 5, 15, 0, 0, 2]
theorem off1y_ (w : World) (b₁ b₂ : Bool) (X Y : Str) (tx ty z tk sz2 tk2 sz3 tk3 sz4 tk4 : Nat) : SegOk (PT (wB w b₁ b₂).params) 150 (o3Cf (wB w b₁ b₂).params X Y tx ty z tk false sz2 tk2 false sz3 tk3 sz4 tk4) hoff1y prI [ltS (itemS Y (X.length : Int)) "'", itemC Y (X.length : Int), lenC X, eqS (Txt.slice Y none (some (X.length : Int))) X, lenC Y, lenC X] [true, true, true, true, true, true]
    (some (1), .base) := by
  cases b₁ <;> kernel_rfl
noncomputable def hoff1n : List Nat := [1, 0, 0, 1, 5, 33, 2, 0, 0, 2, 2, 0, 0, 2, 5, 15, 0, 0, 1, 0, 0]
theorem off1n_ (w : World) (b₁ b₂ : Bool) (X Y : Str) (tx ty z tk sz2 tk2 sz3 tk3 sz4 tk4 : Nat) : SegOk (PT (wB w b₁ b₂).params) 150 (o3Cf (wB w b₁ b₂).params X Y tx ty z tk false sz2 tk2 false sz3 tk3 sz4 tk4) hoff1n prI [ltS (itemS Y (X.length : Int)) "'", itemC Y (X.length : Int), lenC X, eqS (Txt.slice Y none (some (X.length : Int))) X, lenC Y, lenC X] [false, true, true, true, true, true]
    (some (-1), .base) := by
  cases b₁ <;> kernel_rfl
noncomputable def hoff2y : List Nat := [1, 0, 0, 1, 5, 33, 2, 0, 0, 1, 2, 0, 0, 2, 5, 33, 3, 0, 0, 2, 3, 0, 0, 3, 5, 15, 0, 0, 2, 0, 0]
theorem off2y_ (w : World) (b₁ b₂ : Bool) (X Y : Str) (tx ty z tk sz2 tk2 sz3 tk3 sz4 tk4 : Nat) : SegOk (PT (wB w b₁ b₂).params) 150 (o3Cf (wB w b₁ b₂).params X Y tx ty z tk false sz2 tk2 false sz3 tk3 sz4 tk4) hoff2y prI [ltS (itemS X (Y.length : Int)) "'", itemC X (Y.length : Int), lenC Y, eqS (Txt.slice X none (some (Y.length : Int))) Y, lenC X, lenC Y, eqS (Txt.slice Y none (some (X.length : Int))) X, lenC Y, lenC X] [true, true, true, true, true, true, false, true, true]
    (some (-1), .base) := by
  cases b₁ <;> kernel_rfl
noncomputable def hoff2n : List Nat := [1, 0, 0, 1, 5, 33, 2, 0, 0, 1, 2, 0, 0, 2, 5, 33, 3, 0, 0, 2, 3, 0, 0, 3, 5, 15, 0, 0, 1]
theorem off2n_ (w : World) (b₁ b₂ : Bool) (X Y : Str) (tx ty z tk sz2 tk2 sz3 tk3 sz4 tk4 : Nat) : SegOk (PT (wB w b₁ b₂).params) 150 (o3Cf (wB w b₁ b₂).params X Y tx ty z tk false sz2 tk2 false sz3 tk3 sz4 tk4) hoff2n prI [ltS (itemS X (Y.length : Int)) "'", itemC X (Y.length : Int), lenC Y, eqS (Txt.slice X none (some (Y.length : Int))) Y, lenC X, lenC Y, eqS (Txt.slice Y none (some (X.length : Int))) X, lenC Y, lenC X] [false, true, true, true, true, true, false, true, true]
    (some (1), .base) := by
  cases b₁ <;> kernel_rfl
noncomputable def hoff3l : List Nat := [1, 0, 0, 1, 5, 33, 2, 0, 0, 1, 2, 0, 0, 2, 5, 33, 3, 0, 0, 1, 3, 3, 0, 0, 2, 0, 0]
theorem off3l_ (w : World) (b₁ b₂ : Bool) (X Y : Str) (tx ty z tk sz2 tk2 sz3 tk3 sz4 tk4 : Nat) : SegOk (PT (wB w b₁ b₂).params) 150 (o3Cf (wB w b₁ b₂).params X Y tx ty z tk false sz2 tk2 false sz3 tk3 sz4 tk4) hoff3l prI [ltS X Y, eqS (Txt.slice X none (some (Y.length : Int))) Y, lenC X, lenC Y, eqS (Txt.slice Y none (some (X.length : Int))) X, lenC Y, lenC X] [true, false, true, true, false, true, true]
    (some (-1), .base) := by
  cases b₁ <;> kernel_rfl
noncomputable def hoff3g : List Nat := [1, 0, 0, 1, 5, 33, 2, 0, 0, 1, 2, 0, 0, 2, 5, 33, 3, 0, 0, 1, 3, 3, 0, 0, 1]
theorem off3g_ (w : World) (b₁ b₂ : Bool) (X Y : Str) (tx ty z tk sz2 tk2 sz3 tk3 sz4 tk4 : Nat) : SegOk (PT (wB w b₁ b₂).params) 150 (o3Cf (wB w b₁ b₂).params X Y tx ty z tk false sz2 tk2 false sz3 tk3 sz4 tk4) hoff3g prI [ltS X Y, eqS (Txt.slice X none (some (Y.length : Int))) Y, lenC X, lenC Y, eqS (Txt.slice Y none (some (X.length : Int))) X, lenC Y, lenC X] [false, false, true, true, false, true, true]
    (some (1), .base) := by
  cases b₁ <;> kernel_rfl
end Mine
end
section
open PySem PySem.W PySem.Builtin PySem.Builtin.Str
set_option Elab.async false
namespace Mine
theorem slice_take (x : Str) (n : Nat) : (Txt.slice x none (some (n : Int))).cps.toList = x.cps.toList.take n := by
  have hi : strSliceIndices none (some (n : Int)) 1 x.length = List.range (min n x.length) := by
    have h4 : ¬ ((n : Int) < 0) := by omega
    simp only [strSliceIndices, show (1 : Int) > 0 by decide, if_true, h4, if_false, sliceRange]
    have hm : max (0 : Int) (min (n : Int) (x.length : Int)) = ((min n x.length : Nat) : Int) := by omega
    rw [hm]
    have hc : (if (0 : Int) < ((min n x.length : Nat) : Int) then (((min n x.length : Nat) : Int) - 0 + 1 - 1) / 1 else 0).toNat = min n x.length := by
      split
      · have : (((min n x.length : Nat) : Int) - 0 + 1 - 1) / 1 = ((min n x.length : Nat) : Int) := by omega
        rw [this]; exact Int.toNat_natCast _
      · omega
    rw [hc]
    have : (fun (k : Nat) => ((0 : Int) + 1 * (k : Int)).toNat) = _root_.id := by
      funext k; simp
    rw [this, List.map_id]
  have hl : x.length = x.cps.toList.length := rfl
  unfold Txt.slice
  rw [hi]
  split
  · rename_i hq
    simp only [List.length_range, Bool.and_eq_true, beq_iff_eq] at hq
    rw [List.take_of_length_le]
    rw [← hl]; omega
  · show (List.filterMap (fun x_1 => x.cps[x_1]?) (List.range (min n x.length))) = _
    have key : ∀ (l : List Nat) (m : Nat), (List.range (min m l.length)).filterMap (fun i => l[i]?) = l.take m := by
      intro l
      induction l with
      | nil => intro m; simp
      | cons a l ih =>
        intro m
        cases m with
        | zero => simp
        | succ m =>
          rw [List.length_cons, Nat.succ_min_succ, List.range_succ_eq_map, List.filterMap_cons, List.filterMap_map]
          have : (fun i => (a :: l)[i]?) ∘ Nat.succ = fun i => l[i]? := by funext i; simp
          rw [this, ih m]
          simp
    have := key x.cps.toList n
    rw [← hl] at this
    simpa using this
/-- a word that another one begins with -/
theorem ltE_prefix {x y : List Nat} (h : y.take x.length = x) (hne : x ≠ y) : ∃ c, y[x.length]? = some c ∧ ltE x y = decide (39 ≤ c) ∧ ltE y x = decide (c < 39) := by
  induction x generalizing y with
  | nil =>
    cases y with
    | nil => exact absurd rfl hne
    | cons c y => exact ⟨c, rfl, rfl, rfl⟩
  | cons a x ih =>
    cases y with
    | nil => simp at h
    | cons b y =>
      simp only [List.length_cons, List.take_succ_cons, List.cons.injEq] at h
      obtain ⟨rfl, h⟩ := h
      obtain ⟨c, e1, e2, e3⟩ := ih h (fun q => hne (by rw [q]))
      refine ⟨c, by simpa using e1, ?_, ?_⟩
      · simp only [ltE, if_true]; exact e2
      · simp only [ltE, if_true]; exact e3
theorem ltE_other {x y : List Nat} (h1 : y.take x.length ≠ x) (h2 : x.take y.length ≠ y) : ltE x y = decide (x < y) := by
  induction x generalizing y with
  | nil => simp at h1
  | cons a x ih =>
    cases y with
    | nil => simp at h2
    | cons b y =>
      simp only [List.length_cons, List.take_succ_cons, ne_eq, List.cons.injEq, not_and] at h1 h2
      by_cases hab : a = b
      · subst hab
        simp only [ltE, if_true]
        rw [ih (h1 rfl) (h2 rfl)]
        simp [lt_cons]
      · simp only [ltE, hab, if_false]
        simp [lt_cons, hab]
noncomputable def ordL (x y : List Nat) : Int := if lawLt x y = true then -1 else 1
theorem bareS_L (W : Str) : bareS W = bareL W.cps.toList := by
  unfold bareS bareL eqS
  rw [em_list]
  cases W.cps.toList <;> simp
end Mine
end
section
open PySem PySem.W PyProof.Rows PySem.Builtin PySem.Builtin.Str
set_option Elab.async false
set_option maxRecDepth 100000
set_option maxHeartbeats 1000000
set_option linter.unusedVariables false
namespace Mine
open PySem.W.X (Kont Means aroundOf endOf okMark XV)
theorem intOf_some' {t : Sem Fin} {i : Int} (h : intOf t = some i) : ∃ tok, t = .pure (.done (.ret (.int i tok))) := by
  unfold intOf at h
  split at h
  · cases h; exact ⟨_, rfl⟩
  · cases h
section
variable {w : World} {b₁ b₂ : Bool} {A : Around} {g : Heap} {n : Nat} {R : Result → Shared → Prop}
/-- a stop at a call of _law_bare -/
theorem bare_seg {cf' : Cf} {ac' : Ac} {W : Str} {t : Nat} {d : Drawn} {os : OsState} {gens : Array GenState} (S : Sur n (wB w b₁ b₂).params A g) (hn : n + 80 ≤ 700) (hl : W.cps.toList.length ≤ 65536) (p1 : callOf cf'.t = some (bCode W t, none)) (p2 : lowC cf' = true)
    (h : ∀ sz2 tk2, Good (vOf pw (wB w b₁ b₂) g A R d os) gens (after (some (cf', ac')) (.ok (.ret (.bool (bareS W)))) (fun _ => cf'.led) sz2 tk2)) : Good (vOf pw (wB w b₁ b₂) g A R d os) gens cf' := by
  refine call_segG (ac' := ac') cf'.led [] [] (fun r sm => r = .ok (.ret (.bool (bareS W))) ∧ sm = []) S (by omega) p1 p2 (by simp) ?_ ?_
  · intro A' g' s' R' S' hk hr D' h'
    exact bare_code S' (by omega) hl D' fun s'' D'' e1 e2 e3 => h' s'' _ [] D'' ⟨rfl, rfl⟩ e1 e2 e3
  · rintro r sm' sz2 tk2 ⟨rfl, rfl⟩
    rw [List.append_nil, List.append_nil]
    exact h sz2 tk2
theorem ord_code {X Y : Str} {tx ty : Nat} {s : Shared} (S : Sur n (wB w b₁ b₂).params A g) (hn : n + 80 ≤ 700) (hX : X.cps.toList.length ≤ 65536) (hY : Y.cps.toList.length ≤ 65536) (hne : X.cps.toList ≠ Y.cps.toList) (D : Own g s.heap [])
    (h : ∀ (s' : Shared) (tok : Nat), Own g s'.heap [] → s'.gens = s.gens → s'.drawn = s.drawn → s'.os = s.os → R (.ok (.ret (.int (ordL X.cps.toList Y.cps.toList) tok))) s') :
    codeAny (model pw (wB w b₁ b₂)) A (oCode X tx Y ty) R s := by
  have hlX : X.length = X.cps.toList.length := rfl
  have hlY : Y.length = Y.cps.toList.length := rfl
  have hsz : sizeLine = 16777216 := rfl
  refine code_good D ?_
  obtain ⟨cf0, ac0, er0, hp, G⟩ := seg2 (gens := s.gens) (S.par (by omega) (R₀ := R) (d := s.drawn) (os := s.os)) (oA w b₁ b₂ X Y tx ty s.heap.objs.size s.toks) rfl
  simp only [prB, Prod.mk.injEq] at hp
  obtain ⟨p1, p2, p3⟩ := hp
  refine G (bare_seg (ac' := ac0) S hn hX p1 p2 fun sz2 tk2 => ?_)
  rw [p3, ← er0]
  obtain ⟨cf1, ac1, er1, hp, G⟩ := seg2 (gens := s.gens) (S.par (by omega) (R₀ := R) (d := s.drawn) (os := s.os)) (oB w b₁ b₂ X Y tx ty s.heap.objs.size s.toks sz2 tk2 (bareS X)) rfl
  simp only [prB, Prod.mk.injEq] at hp
  obtain ⟨p1, p2, p3⟩ := hp
  refine G (bare_seg (ac' := ac1) S hn hY p1 p2 fun sz3 tk3 => ?_)
  rw [p3, ← er1]
  obtain ⟨cf2, ac2, er2, hp, G⟩ := seg2 (gens := s.gens) (S.par (by omega) (R₀ := R) (d := s.drawn) (os := s.os)) (oC w b₁ b₂ X Y tx ty s.heap.objs.size s.toks sz2 tk2 sz3 tk3 (bareS X) (bareS Y)) rfl
  simp only [prB, Prod.mk.injEq] at hp
  obtain ⟨p1, p2, p3⟩ := hp
  refine G (bare_seg (ac' := ac2) S hn hX p1 p2 fun sz4 tk4 => ?_)
  rw [p3, ← er2]
  have fin : ∀ (bx by_ : Bool) (hs : List Nat) (s1 s2 : List Bool) (v : Int), s1 = s2 → v = ordL X.cps.toList Y.cps.toList →
      SegOk (PT (wB w b₁ b₂).params) 150 (o3Cf (wB w b₁ b₂).params X Y tx ty s.heap.objs.size s.toks bx sz2 tk2 by_ sz3 tk3 sz4 tk4) hs prI s1 s2 (some v, .base) →
      Good (vOf pw (wB w b₁ b₂) g A R s.drawn s.os) s.gens (o3Cf (wB w b₁ b₂).params X Y tx ty s.heap.objs.size s.toks bx sz2 tk2 by_ sz3 tk3 sz4 tk4) := by
    intro bx by_ hs s1 s2 v es hv sg
    obtain ⟨cf3, ac3, er3, hp, G⟩ := seg2 (gens := s.gens) (S.par (by omega) (R₀ := R) (d := s.drawn) (os := s.os)) sg es
    simp only [prI, Prod.mk.injEq] at hp
    obtain ⟨q1, q2⟩ := hp
    obtain ⟨tok, ht⟩ := intOf_some' q1
    subst hv
    exact G (good_ret ht q2 fun H D' _ => h ⟨H, s.gens, s.drawn, cf3.tk, s.os⟩ tok (D'.sub (fun p hp => by cases hp) .nil) rfl rfl rfl)
  have cX : lenC X = true := Nat.ble_eq_true_of_le (by omega)
  have cY : lenC Y = true := Nat.ble_eq_true_of_le (by omega)
  have apos : (Str.ofString "'").cps.toList = [39] := by decide +kernel
  have perc : (Str.ofString "%").cps.toList = [37] := by decide +kernel
  have ltA : ∀ c : Nat, ltS ⟨#[c]⟩ "'" = decide (c < 39) := by
    intro c
    unfold ltS
    rw [apos]
    simp [lt_cons]
  have eqP : ∀ c : Nat, eqS ⟨#[c]⟩ "%" = decide (c = 37) := fun c => eqS_one c _ 37 perc
  have lt := bareS_L X
  have lt2 := bareS_L Y
  have ordE : ordL X.cps.toList Y.cps.toList = if lawLt X.cps.toList Y.cps.toList = true then -1 else 1 := rfl
  have it0 : ∀ W : Str, W.cps.toList.length ≤ 65536 → bareS W = true → itemC W 0 = true ∧ ∃ c r, W.cps.toList = c :: r := by
    intro W hW hb
    rw [bareS_L] at hb
    obtain ⟨c, r, e, _⟩ := bare_head hb
    have hl : W.length = W.cps.toList.length := rfl
    refine ⟨?_, c, r, e⟩
    have h1 : Nat.blt 0 W.length = true := by
      rw [hl, e]; rfl
    have h2 : Nat.ble W.length sizeLine = true := Nat.ble_eq_true_of_le (by omega)
    show (decide ((0 : Int) ≤ 0) && Nat.blt 0 W.length && Nat.ble W.length sizeLine) = true
    rw [h1, h2]; rfl
  cases hbX : bareS X with
  | true =>
    cases hbY : bareS Y with
    | true =>
      have e : lawLt X.cps.toList Y.cps.toList = ltS X Y := by
        unfold lawLt ltS
        rw [← lt, ← lt2, hbX, hbY]
        simp
      cases hlt : ltS X Y with
      | true => exact fin true true _ _ _ (-1) (by rw [hlt]) (by rw [ordE, e, hlt]; rfl) (ottl_ w b₁ b₂ X Y tx ty _ _ sz2 tk2 sz3 tk3 sz4 tk4)
      | false => exact fin true true _ _ _ 1 (by rw [hlt]) (by rw [ordE, e, hlt]; rfl) (ottg_ w b₁ b₂ X Y tx ty _ _ sz2 tk2 sz3 tk3 sz4 tk4)
    | false =>
      obtain ⟨i0, c, r, ec⟩ := it0 X hX hbX
      have e : lawLt X.cps.toList Y.cps.toList = decide (c = 37) := by
        unfold lawLt
        rw [← lt, ← lt2, hbX, hbY, ec]
        simp
      have hi : itemS X 0 = ⟨#[c]⟩ := by
        show (⟨#[X.cps.toList.getD 0 0]⟩ : Str) = _
        rw [ec]; rfl
      have e37 : eqS (itemS X 0) "%" = decide (c = 37) := by rw [hi, eqP]
      cases hc : decide (c = 37) with
      | true => exact fin true false _ _ _ (-1) (by rw [e37, hc, i0]) (by rw [ordE, e, hc]; rfl) (otfy_ w b₁ b₂ X Y tx ty _ _ sz2 tk2 sz3 tk3 sz4 tk4)
      | false => exact fin true false _ _ _ 1 (by rw [e37, hc, i0]) (by rw [ordE, e, hc]; rfl) (otfn_ w b₁ b₂ X Y tx ty _ _ sz2 tk2 sz3 tk3 sz4 tk4)
  | false =>
    cases hbY : bareS Y with
    | true =>
      obtain ⟨i0, c, r, ec⟩ := it0 Y hY hbY
      have e : lawLt X.cps.toList Y.cps.toList = decide (c ≠ 37) := by
        unfold lawLt
        rw [← lt, ← lt2, hbX, hbY, ec]
        simp
      have hi : itemS Y 0 = ⟨#[c]⟩ := by
        show (⟨#[Y.cps.toList.getD 0 0]⟩ : Str) = _
        rw [ec]; rfl
      have e37 : eqS (itemS Y 0) "%" = decide (c = 37) := by rw [hi, eqP]
      by_cases hc : c = 37
      · exact fin false true _ _ _ 1 (by rw [e37, i0]; simp [hc]) (by rw [ordE, e]; simp [hc]) (ofty_ w b₁ b₂ X Y tx ty _ _ sz2 tk2 sz3 tk3 sz4 tk4)
      · exact fin false true _ _ _ (-1) (by rw [e37, i0]; simp [hc]) (by rw [ordE, e]; simp [hc]) (oftn_ w b₁ b₂ X Y tx ty _ _ sz2 tk2 sz3 tk3 sz4 tk4)
    | false =>
      have e : lawLt X.cps.toList Y.cps.toList = ltE X.cps.toList Y.cps.toList := by
        unfold lawLt
        rw [← lt, ← lt2, hbX, hbY]
        simp
      have eq1 : eqS (Txt.slice Y none (some (X.length : Int))) X = decide (Y.cps.toList.take X.cps.toList.length = X.cps.toList) := by
        unfold eqS
        rw [slice_take, ← hlX]
        by_cases q : Y.cps.toList.take X.length = X.cps.toList <;> simp [q]
      have eq2 : eqS (Txt.slice X none (some (Y.length : Int))) Y = decide (X.cps.toList.take Y.cps.toList.length = Y.cps.toList) := by
        unfold eqS
        rw [slice_take, ← hlY]
        by_cases q : X.cps.toList.take Y.length = Y.cps.toList <;> simp [q]
      have itm : ∀ (W V : Str) (c : Nat), W.cps.toList.length ≤ 65536 → W.cps.toList[V.cps.toList.length]? = some c → itemC W (V.length : Int) = true ∧ itemS W (V.length : Int) = ⟨#[c]⟩ := by
        intro W V c hW hc
        have hk : V.cps.toList.length < W.cps.toList.length := (List.getElem?_eq_some_iff.mp hc).1
        have hl : W.length = W.cps.toList.length := rfl
        have hl2 : V.length = V.cps.toList.length := rfl
        constructor
        · have h1 : Nat.blt V.length W.length = true := Nat.ble_eq_true_of_le (by omega)
          have h2 : Nat.ble W.length sizeLine = true := Nat.ble_eq_true_of_le (by omega)
          show (decide ((0 : Int) ≤ (V.length : Int)) && Nat.blt V.length W.length && Nat.ble W.length sizeLine) = true
          rw [h1, h2]; simp
        · show (⟨#[W.cps.toList.getD V.length 0]⟩ : Str) = _
          rw [List.getD_eq_getElem?_getD, hl2, hc]; rfl
      by_cases q1 : Y.cps.toList.take X.cps.toList.length = X.cps.toList
      · obtain ⟨c, hc, hE, _⟩ := ltE_prefix q1 hne
        obtain ⟨i1, i2⟩ := itm Y X c hY hc
        rw [hE] at e
        have e1 := eq1.trans (decide_eq_true q1)
        by_cases hc9 : c < 39
        · exact fin false false _ _ _ 1 (by rw [i2, ltA, i1, e1, cX, cY, decide_eq_true hc9]) (by rw [ordE, e]; simp; omega) (off1y_ w b₁ b₂ X Y tx ty _ _ sz2 tk2 sz3 tk3 sz4 tk4)
        · exact fin false false _ _ _ (-1) (by rw [i2, ltA, i1, e1, cX, cY, decide_eq_false hc9]) (by rw [ordE, e]; simp; omega) (off1n_ w b₁ b₂ X Y tx ty _ _ sz2 tk2 sz3 tk3 sz4 tk4)
      · have e1 := eq1.trans (decide_eq_false q1)
        by_cases q2 : X.cps.toList.take Y.cps.toList.length = Y.cps.toList
        · obtain ⟨c, hc, _, hE⟩ := ltE_prefix q2 (fun q => hne q.symm)
          obtain ⟨i1, i2⟩ := itm X Y c hX hc
          rw [hE] at e
          have e2 := eq2.trans (decide_eq_true q2)
          by_cases hc9 : c < 39
          · exact fin false false _ _ _ (-1) (by rw [i2, ltA, i1, e1, e2, cX, cY, decide_eq_true hc9]) (by rw [ordE, e]; simp [hc9]) (off2y_ w b₁ b₂ X Y tx ty _ _ sz2 tk2 sz3 tk3 sz4 tk4)
          · exact fin false false _ _ _ 1 (by rw [i2, ltA, i1, e1, e2, cX, cY, decide_eq_false hc9]) (by rw [ordE, e]; simp [hc9]) (off2n_ w b₁ b₂ X Y tx ty _ _ sz2 tk2 sz3 tk3 sz4 tk4)
        · have e2 := eq2.trans (decide_eq_false q2)
          have e3 : lawLt X.cps.toList Y.cps.toList = ltS X Y := by rw [e, ltE_other q1 q2]; rfl
          cases hlt : ltS X Y with
          | true => exact fin false false _ _ _ (-1) (by rw [e1, e2, cX, cY, hlt]) (by rw [ordE, e3, hlt]; rfl) (off3l_ w b₁ b₂ X Y tx ty _ _ sz2 tk2 sz3 tk3 sz4 tk4)
          | false => exact fin false false _ _ _ 1 (by rw [e1, e2, cX, cY, hlt]) (by rw [ordE, e3, hlt]; rfl) (off3g_ w b₁ b₂ X Y tx ty _ _ sz2 tk2 sz3 tk3 sz4 tk4)
end
end Mine
end
section
open PySem PySem.W PyProof.Rows PySem.Builtin PySem.Builtin.Str
set_option Elab.async false
set_option maxRecDepth 1000000
set_option maxHeartbeats 0
set_option linter.unusedVariables false
namespace Mine
open PySem.W.X (Kont Means aroundOf endOf okMark XV)
noncomputable abbrev duCode (a : CmA) : Code := .call (.ref 806) ⟨[.ref a.l, .ref a.r, .ref a.kl], []⟩
noncomputable abbrev duCf (p : Params) (a : CmA) (sz tk : Nat) : Cf := ⟨duCode a, .base, (PT p).den (duCode a), [], sz, tk⟩
noncomputable abbrev prC2 (cf : Cf) := (callOf cf.t, lowC cf)
noncomputable def hDAx : List Nat := [0, 0, 1, 1, 1, 1, 1, 1, 0, 0, 1, 1004, 1004, 0, 1004, 0, 1, 0, 1, 0, 1, 0, 1, 1, 1004, 1, 1, 1, 1005, 1005, 1005, 0, 1005, 0, 1, 1, 0, 1, 0, 1, 1, 1005, 1, 1, 1, 0, 1, 0, 1, 1, 1005, 1, 1, 1, 0, 1, 0, 1, 1, 1005, 1, 1, 1, 5, 5, 5, 5, 5, 5, 1000, 1000, 1000, 0, 1000, 0, 1000, 5, 5, 1001, 1001, 1001, 0, 1001, 0, 1001, 0, 0, 2, 5, 0, 0, 0, 5, 0, 5, 5, 1000, 1000, 1000, 0, 1000, 0, 1000, 5, 5, 1001, 1001, 1001, 0, 1001, 0, 1001, 0, 1]
theorem duAx (w : World) (b₁ b₂ : Bool) (a : CmA) (u v : RowS) (sz tk : Nat) : SegOk (PTr (wB w b₁ b₂).params (cmRo (wB w b₁ b₂).params a keysA u v)) 600 (duCf (wB w b₁ b₂).params a sz tk) hDAx prC2 [!eqS u.m v.m] [true]
    (some (oCode u.m (a.t 2) v.m (a.t 5), none), true) := by
  cases b₁ <;> kernel_rfl
noncomputable def hDAxp : List Nat := [0, 0]
theorem duAxv (w : World) (b₁ b₂ : Bool) (a : CmA) (u v : RowS) (sz tk tv sz2 tk2 : Nat) (r : Int) : SegOk (PTr (wB w b₁ b₂).params (cmRo (wB w b₁ b₂).params a keysA u v)) 60 (after (runC (PTr (wB w b₁ b₂).params (cmRo (wB w b₁ b₂).params a keysA u v)) 600 (duCf (wB w b₁ b₂).params a sz tk) { hs := hDAx }) (.ok (.ret (.int r tv))) (fun l => l) sz2 tk2) hDAxp prI [] []
    (some (1 * r), .base) := by
  cases b₁ <;> kernel_rfl
noncomputable def hDAex : List Nat := [0, 0, 1, 1, 1, 1, 1, 1, 0, 0, 1, 1004, 1004, 0, 1004, 0, 1, 0, 1, 0, 1, 0, 1, 1, 1004, 1, 1, 1, 1005, 1005, 1005, 0, 1005, 0, 1, 1, 0, 1, 0, 1, 1, 1005, 1, 1, 1, 0, 1, 0, 1, 1, 1005, 1, 1, 1, 0, 1, 0, 1, 1, 1005, 1, 1, 1, 5, 5, 5, 5, 5, 5, 1000, 1000, 1000, 0, 1000, 0, 1000, 5, 5, 1001, 1001, 1001, 0, 1001, 0, 1001, 0, 0, 1, 0, 4, 0, 4, 0, 4, 4, 1004, 4, 4, 4, 1006, 1006, 1006, 0, 1006, 0, 1, 1, 0, 1, 0, 1, 1, 1006, 1, 1, 1, 0, 1, 0, 1, 1, 1006, 1, 1, 1, 0, 1, 0, 1, 1, 1006, 1, 1, 1, 8, 8, 8, 8, 8, 8, 1000, 1000, 1000, 0, 1000, 0, 1000, 8, 8, 1001, 1001, 1001, 0, 1001, 0, 1001, 0, 0, 2, 8, 0, 0, 0, 8, 0, 8, 8, 1000, 1000, 1000, 0, 1000, 0, 1000, 8, 8, 1001, 1001, 1001, 0, 1001, 0, 1001, 0, 1]
theorem duAex (w : World) (b₁ b₂ : Bool) (a : CmA) (u v : RowS) (sz tk : Nat) : SegOk (PTr (wB w b₁ b₂).params (cmRo (wB w b₁ b₂).params a keysA u v)) 600 (duCf (wB w b₁ b₂).params a sz tk) hDAex prC2 [!eqS u.f v.f, !eqS u.m v.m] [true, false]
    (some (oCode u.f (a.t 0) v.f (a.t 3), none), true) := by
  cases b₁ <;> kernel_rfl
noncomputable def hDAexp : List Nat := [0, 0]
theorem duAexv (w : World) (b₁ b₂ : Bool) (a : CmA) (u v : RowS) (sz tk tv sz2 tk2 : Nat) (r : Int) : SegOk (PTr (wB w b₁ b₂).params (cmRo (wB w b₁ b₂).params a keysA u v)) 60 (after (runC (PTr (wB w b₁ b₂).params (cmRo (wB w b₁ b₂).params a keysA u v)) 600 (duCf (wB w b₁ b₂).params a sz tk) { hs := hDAex }) (.ok (.ret (.int r tv))) (fun l => l) sz2 tk2) hDAexp prI [] []
    (some (1 * r), .base) := by
  cases b₁ <;> kernel_rfl
noncomputable def hDAeel : List Nat := [0, 0, 1, 1, 1, 1, 1, 1, 0, 0, 1, 1004, 1004, 0, 1004, 0, 1, 0, 1, 0, 1, 0, 1, 1, 1004, 1, 1, 1, 1005, 1005, 1005, 0, 1005, 0, 1, 1, 0, 1, 0, 1, 1, 1005, 1, 1, 1, 0, 1, 0, 1, 1, 1005, 1, 1, 1, 0, 1, 0, 1, 1, 1005, 1, 1, 1, 5, 5, 5, 5, 5, 5, 1000, 1000, 1000, 0, 1000, 0, 1000, 5, 5, 1001, 1001, 1001, 0, 1001, 0, 1001, 0, 0, 1, 0, 4, 0, 4, 0, 4, 4, 1004, 4, 4, 4, 1006, 1006, 1006, 0, 1006, 0, 1, 1, 0, 1, 0, 1, 1, 1006, 1, 1, 1, 0, 1, 0, 1, 1, 1006, 1, 1, 1, 0, 1, 0, 1, 1, 1006, 1, 1, 1, 8, 8, 8, 8, 8, 8, 1000, 1000, 1000, 0, 1000, 0, 1000, 8, 8, 1001, 1001, 1001, 0, 1001, 0, 1001, 0, 0, 1, 0, 7, 0, 7, 0, 7, 7, 1004, 7, 7, 7, 1007, 1007, 1007, 0, 1007, 0, 1, 1, 0, 1, 0, 1, 1, 1007, 1, 1, 1, 0, 1, 0, 1, 1, 1007, 1, 1, 1, 0, 1, 0, 1, 1, 1007, 1, 1, 1, 11, 11, 11, 11, 11, 11, 1000, 1000, 1000, 0, 1000, 0, 1000, 11, 11, 1001, 1001, 1001, 0, 1001, 0, 1001, 0, 0, 2, 11, 0, 0, 0, 11, 1000, 1000, 1000, 0, 1000, 0, 1000, 11, 1001, 1001, 1001, 0, 1001, 0, 1001, 0, 0, 1, 11, 0, 0]
theorem duAeel (w : World) (b₁ b₂ : Bool) (a : CmA) (u v : RowS) (sz tk : Nat) : SegOk (PTr (wB w b₁ b₂).params (cmRo (wB w b₁ b₂).params a keysA u v)) 600 (duCf (wB w b₁ b₂).params a sz tk) hDAeel prI [decide (u.n > v.n), bne u.n v.n, !eqS u.f v.f, !eqS u.m v.m] [false, true, false, false]
    (some (-1), .base) := by
  cases b₁ <;> kernel_rfl
noncomputable def hDAeeg : List Nat := [0, 0, 1, 1, 1, 1, 1, 1, 0, 0, 1, 1004, 1004, 0, 1004, 0, 1, 0, 1, 0, 1, 0, 1, 1, 1004, 1, 1, 1, 1005, 1005, 1005, 0, 1005, 0, 1, 1, 0, 1, 0, 1, 1, 1005, 1, 1, 1, 0, 1, 0, 1, 1, 1005, 1, 1, 1, 0, 1, 0, 1, 1, 1005, 1, 1, 1, 5, 5, 5, 5, 5, 5, 1000, 1000, 1000, 0, 1000, 0, 1000, 5, 5, 1001, 1001, 1001, 0, 1001, 0, 1001, 0, 0, 1, 0, 4, 0, 4, 0, 4, 4, 1004, 4, 4, 4, 1006, 1006, 1006, 0, 1006, 0, 1, 1, 0, 1, 0, 1, 1, 1006, 1, 1, 1, 0, 1, 0, 1, 1, 1006, 1, 1, 1, 0, 1, 0, 1, 1, 1006, 1, 1, 1, 8, 8, 8, 8, 8, 8, 1000, 1000, 1000, 0, 1000, 0, 1000, 8, 8, 1001, 1001, 1001, 0, 1001, 0, 1001, 0, 0, 1, 0, 7, 0, 7, 0, 7, 7, 1004, 7, 7, 7, 1007, 1007, 1007, 0, 1007, 0, 1, 1, 0, 1, 0, 1, 1, 1007, 1, 1, 1, 0, 1, 0, 1, 1, 1007, 1, 1, 1, 0, 1, 0, 1, 1, 1007, 1, 1, 1, 11, 11, 11, 11, 11, 11, 1000, 1000, 1000, 0, 1000, 0, 1000, 11, 11, 1001, 1001, 1001, 0, 1001, 0, 1001, 0, 0, 2, 11, 0, 0, 0, 11, 1000, 1000, 1000, 0, 1000, 0, 1000, 11, 1001, 1001, 1001, 0, 1001, 0, 1001, 0, 0, 2, 11]
theorem duAeeg (w : World) (b₁ b₂ : Bool) (a : CmA) (u v : RowS) (sz tk : Nat) : SegOk (PTr (wB w b₁ b₂).params (cmRo (wB w b₁ b₂).params a keysA u v)) 600 (duCf (wB w b₁ b₂).params a sz tk) hDAeeg prI [decide (u.n > v.n), bne u.n v.n, !eqS u.f v.f, !eqS u.m v.m] [true, true, false, false]
    (some (1), .base) := by
  cases b₁ <;> kernel_rfl
noncomputable def hDAeee : List Nat := [0, 0, 1, 1, 1, 1, 1, 1, 0, 0, 1, 1004, 1004, 0, 1004, 0, 1, 0, 1, 0, 1, 0, 1, 1, 1004, 1, 1, 1, 1005, 1005, 1005, 0, 1005, 0, 1, 1, 0, 1, 0, 1, 1, 1005, 1, 1, 1, 0, 1, 0, 1, 1, 1005, 1, 1, 1, 0, 1, 0, 1, 1, 1005, 1, 1, 1, 5, 5, 5, 5, 5, 5, 1000, 1000, 1000, 0, 1000, 0, 1000, 5, 5, 1001, 1001, 1001, 0, 1001, 0, 1001, 0, 0, 1, 0, 4, 0, 4, 0, 4, 4, 1004, 4, 4, 4, 1006, 1006, 1006, 0, 1006, 0, 1, 1, 0, 1, 0, 1, 1, 1006, 1, 1, 1, 0, 1, 0, 1, 1, 1006, 1, 1, 1, 0, 1, 0, 1, 1, 1006, 1, 1, 1, 8, 8, 8, 8, 8, 8, 1000, 1000, 1000, 0, 1000, 0, 1000, 8, 8, 1001, 1001, 1001, 0, 1001, 0, 1001, 0, 0, 1, 0, 7, 0, 7, 0, 7, 7, 1004, 7, 7, 7, 1007, 1007, 1007, 0, 1007, 0, 1, 1, 0, 1, 0, 1, 1, 1007, 1, 1, 1, 0, 1, 0, 1, 1, 1007, 1, 1, 1, 0, 1, 0, 1, 1, 1007, 1, 1, 1, 11, 11, 11, 11, 11, 11, 1000, 1000, 1000, 0, 1000, 0, 1000, 11, 11, 1001, 1001, 1001, 0, 1001, 0, 1001, 0, 0, 1, 0, 10, 0, 10, 0, 10, 10, 1004, 10, 10, 1, 0]
theorem duAeee (w : World) (b₁ b₂ : Bool) (a : CmA) (u v : RowS) (sz tk : Nat) : SegOk (PTr (wB w b₁ b₂).params (cmRo (wB w b₁ b₂).params a keysA u v)) 600 (duCf (wB w b₁ b₂).params a sz tk) hDAeee prI [bne u.n v.n, !eqS u.f v.f, !eqS u.m v.m] [false, false, false]
    (some 0, .base) := by
  cases b₁ <;> kernel_rfl
noncomputable def hDBx : List Nat := [0, 0, 1, 1, 1, 1, 1, 1, 0, 0, 1, 1004, 1004, 0, 1004, 0, 1, 0, 1, 0, 1, 0, 1, 1, 1004, 1, 1, 1, 1005, 1005, 1005, 0, 1005, 0, 1, 1, 0, 1, 0, 1, 1, 1005, 1, 1, 1, 0, 1, 0, 1, 1, 1005, 1, 1, 1, 0, 1, 0, 1, 1, 1005, 1, 1, 1, 5, 5, 5, 5, 5, 5, 1000, 1000, 1000, 0, 1000, 0, 1000, 5, 5, 1001, 1001, 1001, 0, 1001, 0, 1001, 0, 0, 2, 5, 0, 0, 0, 5, 0, 5, 5, 1000, 1000, 1000, 0, 1000, 0, 1000, 5, 5, 1001, 1001, 1001, 0, 1001, 0, 1001, 0, 1]
theorem duBx (w : World) (b₁ b₂ : Bool) (a : CmA) (u v : RowS) (sz tk : Nat) : SegOk (PTr (wB w b₁ b₂).params (cmRo (wB w b₁ b₂).params a keysB u v)) 600 (duCf (wB w b₁ b₂).params a sz tk) hDBx prC2 [!eqS u.f v.f] [true]
    (some (oCode u.f (a.t 0) v.f (a.t 3), none), true) := by
  cases b₁ <;> kernel_rfl
noncomputable def hDBxp : List Nat := [0, 0]
theorem duBxv (w : World) (b₁ b₂ : Bool) (a : CmA) (u v : RowS) (sz tk tv sz2 tk2 : Nat) (r : Int) : SegOk (PTr (wB w b₁ b₂).params (cmRo (wB w b₁ b₂).params a keysB u v)) 60 (after (runC (PTr (wB w b₁ b₂).params (cmRo (wB w b₁ b₂).params a keysB u v)) 600 (duCf (wB w b₁ b₂).params a sz tk) { hs := hDBx }) (.ok (.ret (.int r tv))) (fun l => l) sz2 tk2) hDBxp prI [] []
    (some (-1 * r), .base) := by
  cases b₁ <;> kernel_rfl
noncomputable def hDBex : List Nat := [0, 0, 1, 1, 1, 1, 1, 1, 0, 0, 1, 1004, 1004, 0, 1004, 0, 1, 0, 1, 0, 1, 0, 1, 1, 1004, 1, 1, 1, 1005, 1005, 1005, 0, 1005, 0, 1, 1, 0, 1, 0, 1, 1, 1005, 1, 1, 1, 0, 1, 0, 1, 1, 1005, 1, 1, 1, 0, 1, 0, 1, 1, 1005, 1, 1, 1, 5, 5, 5, 5, 5, 5, 1000, 1000, 1000, 0, 1000, 0, 1000, 5, 5, 1001, 1001, 1001, 0, 1001, 0, 1001, 0, 0, 1, 0, 4, 0, 4, 0, 4, 4, 1004, 4, 4, 4, 1006, 1006, 1006, 0, 1006, 0, 1, 1, 0, 1, 0, 1, 1, 1006, 1, 1, 1, 0, 1, 0, 1, 1, 1006, 1, 1, 1, 0, 1, 0, 1, 1, 1006, 1, 1, 1, 8, 8, 8, 8, 8, 8, 1000, 1000, 1000, 0, 1000, 0, 1000, 8, 8, 1001, 1001, 1001, 0, 1001, 0, 1001, 0, 0, 2, 8, 0, 0, 0, 8, 0, 8, 8, 1000, 1000, 1000, 0, 1000, 0, 1000, 8, 8, 1001, 1001, 1001, 0, 1001, 0, 1001, 0, 1]
theorem duBex (w : World) (b₁ b₂ : Bool) (a : CmA) (u v : RowS) (sz tk : Nat) : SegOk (PTr (wB w b₁ b₂).params (cmRo (wB w b₁ b₂).params a keysB u v)) 600 (duCf (wB w b₁ b₂).params a sz tk) hDBex prC2 [!eqS u.m v.m, !eqS u.f v.f] [true, false]
    (some (oCode u.m (a.t 2) v.m (a.t 5), none), true) := by
  cases b₁ <;> kernel_rfl
noncomputable def hDBexp : List Nat := [0, 0]
theorem duBexv (w : World) (b₁ b₂ : Bool) (a : CmA) (u v : RowS) (sz tk tv sz2 tk2 : Nat) (r : Int) : SegOk (PTr (wB w b₁ b₂).params (cmRo (wB w b₁ b₂).params a keysB u v)) 60 (after (runC (PTr (wB w b₁ b₂).params (cmRo (wB w b₁ b₂).params a keysB u v)) 600 (duCf (wB w b₁ b₂).params a sz tk) { hs := hDBex }) (.ok (.ret (.int r tv))) (fun l => l) sz2 tk2) hDBexp prI [] []
    (some (1 * r), .base) := by
  cases b₁ <;> kernel_rfl
noncomputable def hDBee : List Nat := [0, 0, 1, 1, 1, 1, 1, 1, 0, 0, 1, 1004, 1004, 0, 1004, 0, 1, 0, 1, 0, 1, 0, 1, 1, 1004, 1, 1, 1, 1005, 1005, 1005, 0, 1005, 0, 1, 1, 0, 1, 0, 1, 1, 1005, 1, 1, 1, 0, 1, 0, 1, 1, 1005, 1, 1, 1, 0, 1, 0, 1, 1, 1005, 1, 1, 1, 5, 5, 5, 5, 5, 5, 1000, 1000, 1000, 0, 1000, 0, 1000, 5, 5, 1001, 1001, 1001, 0, 1001, 0, 1001, 0, 0, 1, 0, 4, 0, 4, 0, 4, 4, 1004, 4, 4, 4, 1006, 1006, 1006, 0, 1006, 0, 1, 1, 0, 1, 0, 1, 1, 1006, 1, 1, 1, 0, 1, 0, 1, 1, 1006, 1, 1, 1, 0, 1, 0, 1, 1, 1006, 1, 1, 1, 8, 8, 8, 8, 8, 8, 1000, 1000, 1000, 0, 1000, 0, 1000, 8, 8, 1001, 1001, 1001, 0, 1001, 0, 1001, 0, 0, 1, 0, 7, 0, 7, 0, 7, 7, 1004, 7, 7, 1, 0]
theorem duBee (w : World) (b₁ b₂ : Bool) (a : CmA) (u v : RowS) (sz tk : Nat) : SegOk (PTr (wB w b₁ b₂).params (cmRo (wB w b₁ b₂).params a keysB u v)) 600 (duCf (wB w b₁ b₂).params a sz tk) hDBee prI [!eqS u.m v.m, !eqS u.f v.f] [false, false]
    (some 0, .base) := by
  cases b₁ <;> kernel_rfl
noncomputable def hDCl : List Nat := [0, 0, 1, 1, 1, 1, 1, 1, 0, 0, 1, 1004, 1004, 0, 1004, 0, 1, 0, 1, 0, 1, 0, 1, 1, 1004, 1, 1, 1, 1005, 1005, 1005, 0, 1005, 0, 1, 1, 0, 1, 0, 1, 1, 1005, 1, 1, 1, 0, 1, 0, 1, 1, 1005, 1, 1, 1, 0, 1, 0, 1, 1, 1005, 1, 1, 1, 5, 5, 5, 5, 5, 5, 1000, 1000, 1000, 0, 1000, 0, 1000, 5, 5, 1001, 1001, 1001, 0, 1001, 0, 1001, 0, 0, 2, 5, 0, 0, 0, 5, 1000, 1000, 1000, 0, 1000, 0, 1000, 5, 1001, 1001, 1001, 0, 1001, 0, 1001, 0, 0, 1, 5, 0, 0]
theorem duCl (w : World) (b₁ b₂ : Bool) (a : CmA) (u v : RowS) (sz tk : Nat) : SegOk (PTr (wB w b₁ b₂).params (cmRo (wB w b₁ b₂).params a keysC u v)) 600 (duCf (wB w b₁ b₂).params a sz tk) hDCl prI [decide (u.n > v.n), bne u.n v.n] [false, true]
    (some (1), .base) := by
  cases b₁ <;> kernel_rfl
noncomputable def hDCg : List Nat := [0, 0, 1, 1, 1, 1, 1, 1, 0, 0, 1, 1004, 1004, 0, 1004, 0, 1, 0, 1, 0, 1, 0, 1, 1, 1004, 1, 1, 1, 1005, 1005, 1005, 0, 1005, 0, 1, 1, 0, 1, 0, 1, 1, 1005, 1, 1, 1, 0, 1, 0, 1, 1, 1005, 1, 1, 1, 0, 1, 0, 1, 1, 1005, 1, 1, 1, 5, 5, 5, 5, 5, 5, 1000, 1000, 1000, 0, 1000, 0, 1000, 5, 5, 1001, 1001, 1001, 0, 1001, 0, 1001, 0, 0, 2, 5, 0, 0, 0, 5, 1000, 1000, 1000, 0, 1000, 0, 1000, 5, 1001, 1001, 1001, 0, 1001, 0, 1001, 0, 0, 2, 5]
theorem duCg (w : World) (b₁ b₂ : Bool) (a : CmA) (u v : RowS) (sz tk : Nat) : SegOk (PTr (wB w b₁ b₂).params (cmRo (wB w b₁ b₂).params a keysC u v)) 600 (duCf (wB w b₁ b₂).params a sz tk) hDCg prI [decide (u.n > v.n), bne u.n v.n] [true, true]
    (some (-1), .base) := by
  cases b₁ <;> kernel_rfl
noncomputable def hDCex : List Nat := [0, 0, 1, 1, 1, 1, 1, 1, 0, 0, 1, 1004, 1004, 0, 1004, 0, 1, 0, 1, 0, 1, 0, 1, 1, 1004, 1, 1, 1, 1005, 1005, 1005, 0, 1005, 0, 1, 1, 0, 1, 0, 1, 1, 1005, 1, 1, 1, 0, 1, 0, 1, 1, 1005, 1, 1, 1, 0, 1, 0, 1, 1, 1005, 1, 1, 1, 5, 5, 5, 5, 5, 5, 1000, 1000, 1000, 0, 1000, 0, 1000, 5, 5, 1001, 1001, 1001, 0, 1001, 0, 1001, 0, 0, 1, 0, 4, 0, 4, 0, 4, 4, 1004, 4, 4, 4, 1006, 1006, 1006, 0, 1006, 0, 1, 1, 0, 1, 0, 1, 1, 1006, 1, 1, 1, 0, 1, 0, 1, 1, 1006, 1, 1, 1, 0, 1, 0, 1, 1, 1006, 1, 1, 1, 8, 8, 8, 8, 8, 8, 1000, 1000, 1000, 0, 1000, 0, 1000, 8, 8, 1001, 1001, 1001, 0, 1001, 0, 1001, 0, 0, 2, 8, 0, 0, 0, 8, 0, 8, 8, 1000, 1000, 1000, 0, 1000, 0, 1000, 8, 8, 1001, 1001, 1001, 0, 1001, 0, 1001, 0, 1]
theorem duCex (w : World) (b₁ b₂ : Bool) (a : CmA) (u v : RowS) (sz tk : Nat) : SegOk (PTr (wB w b₁ b₂).params (cmRo (wB w b₁ b₂).params a keysC u v)) 600 (duCf (wB w b₁ b₂).params a sz tk) hDCex prC2 [!eqS u.m v.m, bne u.n v.n] [true, false]
    (some (oCode u.m (a.t 2) v.m (a.t 5), none), true) := by
  cases b₁ <;> kernel_rfl
noncomputable def hDCexp : List Nat := [0, 0]
theorem duCexv (w : World) (b₁ b₂ : Bool) (a : CmA) (u v : RowS) (sz tk tv sz2 tk2 : Nat) (r : Int) : SegOk (PTr (wB w b₁ b₂).params (cmRo (wB w b₁ b₂).params a keysC u v)) 60 (after (runC (PTr (wB w b₁ b₂).params (cmRo (wB w b₁ b₂).params a keysC u v)) 600 (duCf (wB w b₁ b₂).params a sz tk) { hs := hDCex }) (.ok (.ret (.int r tv))) (fun l => l) sz2 tk2) hDCexp prI [] []
    (some (-1 * r), .base) := by
  cases b₁ <;> kernel_rfl
noncomputable def hDCeex : List Nat := [0, 0, 1, 1, 1, 1, 1, 1, 0, 0, 1, 1004, 1004, 0, 1004, 0, 1, 0, 1, 0, 1, 0, 1, 1, 1004, 1, 1, 1, 1005, 1005, 1005, 0, 1005, 0, 1, 1, 0, 1, 0, 1, 1, 1005, 1, 1, 1, 0, 1, 0, 1, 1, 1005, 1, 1, 1, 0, 1, 0, 1, 1, 1005, 1, 1, 1, 5, 5, 5, 5, 5, 5, 1000, 1000, 1000, 0, 1000, 0, 1000, 5, 5, 1001, 1001, 1001, 0, 1001, 0, 1001, 0, 0, 1, 0, 4, 0, 4, 0, 4, 4, 1004, 4, 4, 4, 1006, 1006, 1006, 0, 1006, 0, 1, 1, 0, 1, 0, 1, 1, 1006, 1, 1, 1, 0, 1, 0, 1, 1, 1006, 1, 1, 1, 0, 1, 0, 1, 1, 1006, 1, 1, 1, 8, 8, 8, 8, 8, 8, 1000, 1000, 1000, 0, 1000, 0, 1000, 8, 8, 1001, 1001, 1001, 0, 1001, 0, 1001, 0, 0, 1, 0, 7, 0, 7, 0, 7, 7, 1004, 7, 7, 7, 1007, 1007, 1007, 0, 1007, 0, 1, 1, 0, 1, 0, 1, 1, 1007, 1, 1, 1, 0, 1, 0, 1, 1, 1007, 1, 1, 1, 0, 1, 0, 1, 1, 1007, 1, 1, 1, 11, 11, 11, 11, 11, 11, 1000, 1000, 1000, 0, 1000, 0, 1000, 11, 11, 1001, 1001, 1001, 0, 1001, 0, 1001, 0, 0, 2, 11, 0, 0, 0, 11, 0, 11, 11, 1000, 1000, 1000, 0, 1000, 0, 1000, 11, 11, 1001, 1001, 1001, 0, 1001, 0, 1001, 0, 1]
theorem duCeex (w : World) (b₁ b₂ : Bool) (a : CmA) (u v : RowS) (sz tk : Nat) : SegOk (PTr (wB w b₁ b₂).params (cmRo (wB w b₁ b₂).params a keysC u v)) 600 (duCf (wB w b₁ b₂).params a sz tk) hDCeex prC2 [!eqS u.f v.f, !eqS u.m v.m, bne u.n v.n] [true, false, false]
    (some (oCode u.f (a.t 0) v.f (a.t 3), none), true) := by
  cases b₁ <;> kernel_rfl
noncomputable def hDCeexp : List Nat := [0, 0]
theorem duCeexv (w : World) (b₁ b₂ : Bool) (a : CmA) (u v : RowS) (sz tk tv sz2 tk2 : Nat) (r : Int) : SegOk (PTr (wB w b₁ b₂).params (cmRo (wB w b₁ b₂).params a keysC u v)) 60 (after (runC (PTr (wB w b₁ b₂).params (cmRo (wB w b₁ b₂).params a keysC u v)) 600 (duCf (wB w b₁ b₂).params a sz tk) { hs := hDCeex }) (.ok (.ret (.int r tv))) (fun l => l) sz2 tk2) hDCeexp prI [] []
    (some (1 * r), .base) := by
  cases b₁ <;> kernel_rfl
noncomputable def hDCeee : List Nat := [0, 0, 1, 1, 1, 1, 1, 1, 0, 0, 1, 1004, 1004, 0, 1004, 0, 1, 0, 1, 0, 1, 0, 1, 1, 1004, 1, 1, 1, 1005, 1005, 1005, 0, 1005, 0, 1, 1, 0, 1, 0, 1, 1, 1005, 1, 1, 1, 0, 1, 0, 1, 1, 1005, 1, 1, 1, 0, 1, 0, 1, 1, 1005, 1, 1, 1, 5, 5, 5, 5, 5, 5, 1000, 1000, 1000, 0, 1000, 0, 1000, 5, 5, 1001, 1001, 1001, 0, 1001, 0, 1001, 0, 0, 1, 0, 4, 0, 4, 0, 4, 4, 1004, 4, 4, 4, 1006, 1006, 1006, 0, 1006, 0, 1, 1, 0, 1, 0, 1, 1, 1006, 1, 1, 1, 0, 1, 0, 1, 1, 1006, 1, 1, 1, 0, 1, 0, 1, 1, 1006, 1, 1, 1, 8, 8, 8, 8, 8, 8, 1000, 1000, 1000, 0, 1000, 0, 1000, 8, 8, 1001, 1001, 1001, 0, 1001, 0, 1001, 0, 0, 1, 0, 7, 0, 7, 0, 7, 7, 1004, 7, 7, 7, 1007, 1007, 1007, 0, 1007, 0, 1, 1, 0, 1, 0, 1, 1, 1007, 1, 1, 1, 0, 1, 0, 1, 1, 1007, 1, 1, 1, 0, 1, 0, 1, 1, 1007, 1, 1, 1, 11, 11, 11, 11, 11, 11, 1000, 1000, 1000, 0, 1000, 0, 1000, 11, 11, 1001, 1001, 1001, 0, 1001, 0, 1001, 0, 0, 1, 0, 10, 0, 10, 0, 10, 10, 1004, 10, 10, 1, 0]
theorem duCeee (w : World) (b₁ b₂ : Bool) (a : CmA) (u v : RowS) (sz tk : Nat) : SegOk (PTr (wB w b₁ b₂).params (cmRo (wB w b₁ b₂).params a keysC u v)) 600 (duCf (wB w b₁ b₂).params a sz tk) hDCeee prI [!eqS u.f v.f, !eqS u.m v.m, bne u.n v.n] [false, false, false]
    (some 0, .base) := by
  cases b₁ <;> kernel_rfl
noncomputable def hDDx : List Nat := [0, 0, 1, 1, 1, 1, 1, 1, 0, 0, 1, 1004, 1004, 0, 1004, 0, 1, 0, 1, 0, 1, 0, 1, 1, 1004, 1, 1, 1, 1005, 1005, 1005, 0, 1005, 0, 1, 1, 0, 1, 0, 1, 1, 1005, 1, 1, 1, 0, 1, 0, 1, 1, 1005, 1, 1, 1, 0, 1, 0, 1, 1, 1005, 1, 1, 1, 5, 5, 5, 5, 5, 5, 1000, 1000, 1000, 0, 1000, 0, 1000, 5, 5, 1001, 1001, 1001, 0, 1001, 0, 1001, 0, 0, 2, 5, 0, 0, 0, 5, 0, 5, 5, 1000, 1000, 1000, 0, 1000, 0, 1000, 5, 5, 1001, 1001, 1001, 0, 1001, 0, 1001, 0, 1]
theorem duDx (w : World) (b₁ b₂ : Bool) (a : CmA) (u v : RowS) (sz tk : Nat) : SegOk (PTr (wB w b₁ b₂).params (cmRo (wB w b₁ b₂).params a keysD u v)) 600 (duCf (wB w b₁ b₂).params a sz tk) hDDx prC2 [!eqS u.m v.m] [true]
    (some (oCode u.m (a.t 2) v.m (a.t 5), none), true) := by
  cases b₁ <;> kernel_rfl
noncomputable def hDDxp : List Nat := [0, 0]
theorem duDxv (w : World) (b₁ b₂ : Bool) (a : CmA) (u v : RowS) (sz tk tv sz2 tk2 : Nat) (r : Int) : SegOk (PTr (wB w b₁ b₂).params (cmRo (wB w b₁ b₂).params a keysD u v)) 60 (after (runC (PTr (wB w b₁ b₂).params (cmRo (wB w b₁ b₂).params a keysD u v)) 600 (duCf (wB w b₁ b₂).params a sz tk) { hs := hDDx }) (.ok (.ret (.int r tv))) (fun l => l) sz2 tk2) hDDxp prI [] []
    (some (-1 * r), .base) := by
  cases b₁ <;> kernel_rfl
noncomputable def hDDe : List Nat := [0, 0, 1, 1, 1, 1, 1, 1, 0, 0, 1, 1004, 1004, 0, 1004, 0, 1, 0, 1, 0, 1, 0, 1, 1, 1004, 1, 1, 1, 1005, 1005, 1005, 0, 1005, 0, 1, 1, 0, 1, 0, 1, 1, 1005, 1, 1, 1, 0, 1, 0, 1, 1, 1005, 1, 1, 1, 0, 1, 0, 1, 1, 1005, 1, 1, 1, 5, 5, 5, 5, 5, 5, 1000, 1000, 1000, 0, 1000, 0, 1000, 5, 5, 1001, 1001, 1001, 0, 1001, 0, 1001, 0, 0, 1, 0, 4, 0, 4, 0, 4, 4, 1004, 4, 4, 1, 0]
theorem duDe (w : World) (b₁ b₂ : Bool) (a : CmA) (u v : RowS) (sz tk : Nat) : SegOk (PTr (wB w b₁ b₂).params (cmRo (wB w b₁ b₂).params a keysD u v)) 600 (duCf (wB w b₁ b₂).params a sz tk) hDDe prI [!eqS u.m v.m] [false]
    (some 0, .base) := by
  cases b₁ <;> kernel_rfl
end Mine
end
section
open PySem PySem.W PyProof.Rows PySem.Builtin PySem.Builtin.Str
set_option Elab.async false
set_option maxRecDepth 100000
set_option maxHeartbeats 1000000
set_option linter.unusedVariables false
set_option linter.unusedSimpArgs false
namespace Mine
open PySem.W.X (Kont Means aroundOf endOf okMark XV)
/-- what _law_due tells of two rows -/
noncomputable def dueS : List (Int × Int) → RowS → RowS → Int
  | [], _, _ => 0
  | (i, d) :: ks, u, v => if i = 1 then (if u.n = v.n then dueS ks u v else if v.n < u.n then d else -d)
      else if i = 0 then (if u.f.cps.toList = v.f.cps.toList then dueS ks u v else d * ordL u.f.cps.toList v.f.cps.toList)
      else (if u.m.cps.toList = v.m.cps.toList then dueS ks u v else d * ordL u.m.cps.toList v.m.cps.toList)
theorem eqS_dec (x y : Str) : eqS x y = decide (x.cps.toList = y.cps.toList) := by
  unfold eqS
  cases h : (x.cps.toList == y.cps.toList) with
  | true => exact (decide_eq_true (eq_of_beq h)).symm
  | false => exact (decide_eq_false (fun q => by rw [q] at h; simp at h)).symm
structure RowS.Ok (u : RowS) : Prop where
  f : u.f.cps.toList.length ≤ 65536
  m : u.m.cps.toList.length ≤ 65536
section
variable {w : World} {b₁ b₂ : Bool} {A : Around} {g : Heap} {n : Nat} {R : Result → Shared → Prop}
/-- a stop at a call of _law_order -/
theorem ord_seg {cf' : Cf} {ac' : Ac} {X Y : Str} {tx ty : Nat} {d : Drawn} {os : OsState} {gens : Array GenState} (S : Sur n (wB w b₁ b₂).params A g) (hn : n + 100 ≤ 700) (hX : X.cps.toList.length ≤ 65536) (hY : Y.cps.toList.length ≤ 65536) (hne : X.cps.toList ≠ Y.cps.toList) (p1 : callOf cf'.t = some (oCode X tx Y ty, none)) (p2 : lowC cf' = true)
    (h : ∀ tok sz2 tk2, Good (vOf pw (wB w b₁ b₂) g A R d os) gens (after (some (cf', ac')) (.ok (.ret (.int (ordL X.cps.toList Y.cps.toList) tok))) (fun l => l) sz2 tk2)) : Good (vOf pw (wB w b₁ b₂) g A R d os) gens cf' := by
  refine call_segG (ac' := ac') cf'.led [] [] (fun r sm => ∃ tok, r = .ok (.ret (.int (ordL X.cps.toList Y.cps.toList) tok)) ∧ sm = []) S (by omega) p1 p2 (by simp) ?_ ?_
  · intro A' g' s' R' S' hk hr D' h'
    exact ord_code S' (by omega) hX hY hne D' fun s'' tok D'' e1 e2 e3 => h' s'' _ [] D'' ⟨tok, rfl, rfl⟩ e1 e2 e3
  · rintro r sm' sz2 tk2 ⟨tok, rfl, rfl⟩
    rw [List.append_nil, List.append_nil]
    exact h tok sz2 tk2
theorem du_fin {s : Shared} {i : Int} {ro : Led} {hs : List Nat} {s1 s2 : List Bool} {N : Nat} {cf : Cf} (S : Sur n (wB w b₁ b₂).params A g) (hn : n ≤ 700) (hro : ∀ p ∈ ro, g.get? p.1 = some p.2)
    (e : SegOk (PTr (wB w b₁ b₂).params ro) N cf hs prI s1 s2 (some i, .base)) (es : s1 = s2)
    (h : ∀ (s' : Shared) (tok : Nat), Own g s'.heap [] → s'.gens = s.gens → s'.drawn = s.drawn → s'.os = s.os → R (.ok (.ret (.int i tok))) s') :
    Good (vOf pw (wB w b₁ b₂) g A R s.drawn s.os) s.gens cf := by
  obtain ⟨cf', _, _, hp, G⟩ := seg2 (gens := s.gens) (S.parR hn hro (R₀ := R) (d := s.drawn) (os := s.os)) e es
  simp only [prI, Prod.mk.injEq] at hp
  obtain ⟨p1, p2⟩ := hp
  obtain ⟨tok, ht⟩ := intOf_some' p1
  exact G (good_ret ht p2 fun H D' _ => h ⟨H, s.gens, s.drawn, cf'.tk, s.os⟩ tok (D'.sub (fun p hp => by cases hp) .nil) rfl rfl rfl)
theorem du_call {s : Shared} {d : Int} {ro : Led} {hs hs2 : List Nat} {s1 s2 : List Bool} {N : Nat} {cf : Cf} {X Y : Str} {tx ty : Nat} (S : Sur n (wB w b₁ b₂).params A g) (hn : n + 100 ≤ 700) (hro : ∀ p ∈ ro, g.get? p.1 = some p.2)
    (hX : X.cps.toList.length ≤ 65536) (hY : Y.cps.toList.length ≤ 65536) (hne : X.cps.toList ≠ Y.cps.toList)
    (e : SegOk (PTr (wB w b₁ b₂).params ro) N cf hs prC2 s1 s2 (some (oCode X tx Y ty, none), true)) (es : s1 = s2)
    (e2 : ∀ tv sz2 tk2, SegOk (PTr (wB w b₁ b₂).params ro) 60 (after (runC (PTr (wB w b₁ b₂).params ro) N cf { hs := hs }) (.ok (.ret (.int (ordL X.cps.toList Y.cps.toList) tv))) (fun l => l) sz2 tk2) hs2 prI [] [] (some (d * ordL X.cps.toList Y.cps.toList), .base))
    (h : ∀ (s' : Shared) (tok : Nat), Own g s'.heap [] → s'.gens = s.gens → s'.drawn = s.drawn → s'.os = s.os → R (.ok (.ret (.int (d * ordL X.cps.toList Y.cps.toList) tok))) s') :
    Good (vOf pw (wB w b₁ b₂) g A R s.drawn s.os) s.gens cf := by
  obtain ⟨cf', ac', er, hp, G⟩ := seg2 (gens := s.gens) (S.parR (by omega) hro (R₀ := R) (d := s.drawn) (os := s.os)) e es
  simp only [prC2, Prod.mk.injEq] at hp
  obtain ⟨p1, p2⟩ := hp
  refine G (ord_seg (ac' := ac') S hn hX hY hne p1 p2 fun tok sz2 tk2 => ?_)
  rw [← er]
  exact du_fin S (by omega) hro (e2 tok sz2 tk2) rfl h
theorem du_A {a : CmA} {s : Shared} {u v : RowS} (S : Sur n (wB w b₁ b₂).params A g) (hn : n + 100 ≤ 700) (hro : ∀ p ∈ cmRo (wB w b₁ b₂).params a keysA u v, g.get? p.1 = some p.2) (hu : u.Ok) (hv : v.Ok) (D : Own g s.heap [])
    (h : ∀ (s' : Shared) (tok : Nat), Own g s'.heap [] → s'.gens = s.gens → s'.drawn = s.drawn → s'.os = s.os → R (.ok (.ret (.int (dueS keysA u v) tok))) s') :
    codeAny (model pw (wB w b₁ b₂)) A (duCode a) R s := by
  refine code_good D ?_
  have cf : (!eqS u.f v.f) = !decide (u.f.cps.toList = v.f.cps.toList) := by rw [eqS_dec]
  have cm : (!eqS u.m v.m) = !decide (u.m.cps.toList = v.m.cps.toList) := by rw [eqS_dec]
  have cn : (bne u.n v.n) = !decide (u.n = v.n) := by
    by_cases q : u.n = v.n <;> simp [q]
  by_cases h0 : u.m.cps.toList = v.m.cps.toList
  case neg =>
    · exact du_call S hn hro hu.m hv.m h0 (duAx w b₁ b₂ a u v _ _) (by simp only [cm]; simp [h0]) (fun tv sz2 tk2 => duAxv w b₁ b₂ a u v _ _ tv sz2 tk2 _) (by simpa only [dueS, keysA, show ((2 : Int) = 1) = False by decide, show ((0 : Int) = 1) = False by decide, show ((2 : Int) = 0) = False by decide, show ((1 : Int) = 1) = True by decide, show ((0 : Int) = 0) = True by decide, if_true, if_false, Int.neg_neg, h0] using h)
  case pos =>
    by_cases h1 : u.f.cps.toList = v.f.cps.toList
    case neg =>
      · exact du_call S hn hro hu.f hv.f h1 (duAex w b₁ b₂ a u v _ _) (by simp only [cm, cf]; simp [h0, h1]) (fun tv sz2 tk2 => duAexv w b₁ b₂ a u v _ _ tv sz2 tk2 _) (by simpa only [dueS, keysA, show ((2 : Int) = 1) = False by decide, show ((0 : Int) = 1) = False by decide, show ((2 : Int) = 0) = False by decide, show ((1 : Int) = 1) = True by decide, show ((0 : Int) = 0) = True by decide, if_true, if_false, Int.neg_neg, h0, h1] using h)
    case pos =>
      by_cases h2 : u.n = v.n
      case neg =>
        · by_cases g2 : v.n < u.n
          · exact du_fin S (by omega) hro (duAeeg w b₁ b₂ a u v _ _) (by simp only [cm, cf, cn, GT.gt]; simp [h0, h1, h2, g2]) (by simpa only [dueS, keysA, show ((2 : Int) = 1) = False by decide, show ((0 : Int) = 1) = False by decide, show ((2 : Int) = 0) = False by decide, show ((1 : Int) = 1) = True by decide, show ((0 : Int) = 0) = True by decide, if_true, if_false, Int.neg_neg, h0, h1, h2, g2] using h)
          · exact du_fin S (by omega) hro (duAeel w b₁ b₂ a u v _ _) (by simp only [cm, cf, cn, GT.gt]; simp [h0, h1, h2, g2]) (by simpa only [dueS, keysA, show ((2 : Int) = 1) = False by decide, show ((0 : Int) = 1) = False by decide, show ((2 : Int) = 0) = False by decide, show ((1 : Int) = 1) = True by decide, show ((0 : Int) = 0) = True by decide, if_true, if_false, Int.neg_neg, h0, h1, h2, g2] using h)
      case pos =>
        exact du_fin S (by omega) hro (duAeee w b₁ b₂ a u v _ _) (by simp only [cm, cf, cn]; simp [h0, h1, h2]) (by simpa only [dueS, keysA, show ((2 : Int) = 1) = False by decide, show ((0 : Int) = 1) = False by decide, show ((2 : Int) = 0) = False by decide, show ((1 : Int) = 1) = True by decide, show ((0 : Int) = 0) = True by decide, if_true, if_false, Int.neg_neg, h0, h1, h2] using h)
theorem du_B {a : CmA} {s : Shared} {u v : RowS} (S : Sur n (wB w b₁ b₂).params A g) (hn : n + 100 ≤ 700) (hro : ∀ p ∈ cmRo (wB w b₁ b₂).params a keysB u v, g.get? p.1 = some p.2) (hu : u.Ok) (hv : v.Ok) (D : Own g s.heap [])
    (h : ∀ (s' : Shared) (tok : Nat), Own g s'.heap [] → s'.gens = s.gens → s'.drawn = s.drawn → s'.os = s.os → R (.ok (.ret (.int (dueS keysB u v) tok))) s') :
    codeAny (model pw (wB w b₁ b₂)) A (duCode a) R s := by
  refine code_good D ?_
  have cf : (!eqS u.f v.f) = !decide (u.f.cps.toList = v.f.cps.toList) := by rw [eqS_dec]
  have cm : (!eqS u.m v.m) = !decide (u.m.cps.toList = v.m.cps.toList) := by rw [eqS_dec]
  have cn : (bne u.n v.n) = !decide (u.n = v.n) := by
    by_cases q : u.n = v.n <;> simp [q]
  by_cases h0 : u.f.cps.toList = v.f.cps.toList
  case neg =>
    · exact du_call S hn hro hu.f hv.f h0 (duBx w b₁ b₂ a u v _ _) (by simp only [cf]; simp [h0]) (fun tv sz2 tk2 => duBxv w b₁ b₂ a u v _ _ tv sz2 tk2 _) (by simpa only [dueS, keysB, show ((2 : Int) = 1) = False by decide, show ((0 : Int) = 1) = False by decide, show ((2 : Int) = 0) = False by decide, show ((1 : Int) = 1) = True by decide, show ((0 : Int) = 0) = True by decide, if_true, if_false, Int.neg_neg, h0] using h)
  case pos =>
    by_cases h1 : u.m.cps.toList = v.m.cps.toList
    case neg =>
      · exact du_call S hn hro hu.m hv.m h1 (duBex w b₁ b₂ a u v _ _) (by simp only [cf, cm]; simp [h0, h1]) (fun tv sz2 tk2 => duBexv w b₁ b₂ a u v _ _ tv sz2 tk2 _) (by simpa only [dueS, keysB, show ((2 : Int) = 1) = False by decide, show ((0 : Int) = 1) = False by decide, show ((2 : Int) = 0) = False by decide, show ((1 : Int) = 1) = True by decide, show ((0 : Int) = 0) = True by decide, if_true, if_false, Int.neg_neg, h0, h1] using h)
    case pos =>
      exact du_fin S (by omega) hro (duBee w b₁ b₂ a u v _ _) (by simp only [cf, cm]; simp [h0, h1]) (by simpa only [dueS, keysB, show ((2 : Int) = 1) = False by decide, show ((0 : Int) = 1) = False by decide, show ((2 : Int) = 0) = False by decide, show ((1 : Int) = 1) = True by decide, show ((0 : Int) = 0) = True by decide, if_true, if_false, Int.neg_neg, h0, h1] using h)
theorem du_C {a : CmA} {s : Shared} {u v : RowS} (S : Sur n (wB w b₁ b₂).params A g) (hn : n + 100 ≤ 700) (hro : ∀ p ∈ cmRo (wB w b₁ b₂).params a keysC u v, g.get? p.1 = some p.2) (hu : u.Ok) (hv : v.Ok) (D : Own g s.heap [])
    (h : ∀ (s' : Shared) (tok : Nat), Own g s'.heap [] → s'.gens = s.gens → s'.drawn = s.drawn → s'.os = s.os → R (.ok (.ret (.int (dueS keysC u v) tok))) s') :
    codeAny (model pw (wB w b₁ b₂)) A (duCode a) R s := by
  refine code_good D ?_
  have cf : (!eqS u.f v.f) = !decide (u.f.cps.toList = v.f.cps.toList) := by rw [eqS_dec]
  have cm : (!eqS u.m v.m) = !decide (u.m.cps.toList = v.m.cps.toList) := by rw [eqS_dec]
  have cn : (bne u.n v.n) = !decide (u.n = v.n) := by
    by_cases q : u.n = v.n <;> simp [q]
  by_cases h0 : u.n = v.n
  case neg =>
    · by_cases g0 : v.n < u.n
      · exact du_fin S (by omega) hro (duCg w b₁ b₂ a u v _ _) (by simp only [cn, GT.gt]; simp [h0, g0]) (by simpa only [dueS, keysC, show ((2 : Int) = 1) = False by decide, show ((0 : Int) = 1) = False by decide, show ((2 : Int) = 0) = False by decide, show ((1 : Int) = 1) = True by decide, show ((0 : Int) = 0) = True by decide, if_true, if_false, Int.neg_neg, h0, g0] using h)
      · exact du_fin S (by omega) hro (duCl w b₁ b₂ a u v _ _) (by simp only [cn, GT.gt]; simp [h0, g0]) (by simpa only [dueS, keysC, show ((2 : Int) = 1) = False by decide, show ((0 : Int) = 1) = False by decide, show ((2 : Int) = 0) = False by decide, show ((1 : Int) = 1) = True by decide, show ((0 : Int) = 0) = True by decide, if_true, if_false, Int.neg_neg, h0, g0] using h)
  case pos =>
    by_cases h1 : u.m.cps.toList = v.m.cps.toList
    case neg =>
      · exact du_call S hn hro hu.m hv.m h1 (duCex w b₁ b₂ a u v _ _) (by simp only [cn, cm]; simp [h0, h1]) (fun tv sz2 tk2 => duCexv w b₁ b₂ a u v _ _ tv sz2 tk2 _) (by simpa only [dueS, keysC, show ((2 : Int) = 1) = False by decide, show ((0 : Int) = 1) = False by decide, show ((2 : Int) = 0) = False by decide, show ((1 : Int) = 1) = True by decide, show ((0 : Int) = 0) = True by decide, if_true, if_false, Int.neg_neg, h0, h1] using h)
    case pos =>
      by_cases h2 : u.f.cps.toList = v.f.cps.toList
      case neg =>
        · exact du_call S hn hro hu.f hv.f h2 (duCeex w b₁ b₂ a u v _ _) (by simp only [cn, cm, cf]; simp [h0, h1, h2]) (fun tv sz2 tk2 => duCeexv w b₁ b₂ a u v _ _ tv sz2 tk2 _) (by simpa only [dueS, keysC, show ((2 : Int) = 1) = False by decide, show ((0 : Int) = 1) = False by decide, show ((2 : Int) = 0) = False by decide, show ((1 : Int) = 1) = True by decide, show ((0 : Int) = 0) = True by decide, if_true, if_false, Int.neg_neg, h0, h1, h2] using h)
      case pos =>
        exact du_fin S (by omega) hro (duCeee w b₁ b₂ a u v _ _) (by simp only [cn, cm, cf]; simp [h0, h1, h2]) (by simpa only [dueS, keysC, show ((2 : Int) = 1) = False by decide, show ((0 : Int) = 1) = False by decide, show ((2 : Int) = 0) = False by decide, show ((1 : Int) = 1) = True by decide, show ((0 : Int) = 0) = True by decide, if_true, if_false, Int.neg_neg, h0, h1, h2] using h)
theorem du_D {a : CmA} {s : Shared} {u v : RowS} (S : Sur n (wB w b₁ b₂).params A g) (hn : n + 100 ≤ 700) (hro : ∀ p ∈ cmRo (wB w b₁ b₂).params a keysD u v, g.get? p.1 = some p.2) (hu : u.Ok) (hv : v.Ok) (D : Own g s.heap [])
    (h : ∀ (s' : Shared) (tok : Nat), Own g s'.heap [] → s'.gens = s.gens → s'.drawn = s.drawn → s'.os = s.os → R (.ok (.ret (.int (dueS keysD u v) tok))) s') :
    codeAny (model pw (wB w b₁ b₂)) A (duCode a) R s := by
  refine code_good D ?_
  have cf : (!eqS u.f v.f) = !decide (u.f.cps.toList = v.f.cps.toList) := by rw [eqS_dec]
  have cm : (!eqS u.m v.m) = !decide (u.m.cps.toList = v.m.cps.toList) := by rw [eqS_dec]
  have cn : (bne u.n v.n) = !decide (u.n = v.n) := by
    by_cases q : u.n = v.n <;> simp [q]
  by_cases h0 : u.m.cps.toList = v.m.cps.toList
  case neg =>
    · exact du_call S hn hro hu.m hv.m h0 (duDx w b₁ b₂ a u v _ _) (by simp only [cm]; simp [h0]) (fun tv sz2 tk2 => duDxv w b₁ b₂ a u v _ _ tv sz2 tk2 _) (by simpa only [dueS, keysD, show ((2 : Int) = 1) = False by decide, show ((0 : Int) = 1) = False by decide, show ((2 : Int) = 0) = False by decide, show ((1 : Int) = 1) = True by decide, show ((0 : Int) = 0) = True by decide, if_true, if_false, Int.neg_neg, h0] using h)
  case pos =>
    exact du_fin S (by omega) hro (duDe w b₁ b₂ a u v _ _) (by simp only [cm]; simp [h0]) (by simpa only [dueS, keysD, show ((2 : Int) = 1) = False by decide, show ((0 : Int) = 1) = False by decide, show ((2 : Int) = 0) = False by decide, show ((1 : Int) = 1) = True by decide, show ((0 : Int) = 0) = True by decide, if_true, if_false, Int.neg_neg, h0] using h)
theorem du_code {a : CmA} {s : Shared} {u v : RowS} {ks : List (Int × Int)} (hks : ks = keysA ∨ ks = keysB ∨ ks = keysC ∨ ks = keysD) (S : Sur n (wB w b₁ b₂).params A g) (hn : n + 100 ≤ 700) (hro : ∀ p ∈ cmRo (wB w b₁ b₂).params a ks u v, g.get? p.1 = some p.2) (hu : u.Ok) (hv : v.Ok) (D : Own g s.heap [])
    (h : ∀ (s' : Shared) (tok : Nat), Own g s'.heap [] → s'.gens = s.gens → s'.drawn = s.drawn → s'.os = s.os → R (.ok (.ret (.int (dueS ks u v) tok))) s') :
    codeAny (model pw (wB w b₁ b₂)) A (duCode a) R s := by
  rcases hks with rfl | rfl | rfl | rfl
  · exact du_A S hn hro hu hv D h
  · exact du_B S hn hro hu hv D h
  · exact du_C S hn hro hu hv D h
  · exact du_D S hn hro hu hv D h
theorem cm_code {a : CmA} {s : Shared} {u v : RowS} {ks : List (Int × Int)} (hks : ks = keysA ∨ ks = keysB ∨ ks = keysC ∨ ks = keysD) (S : Sur n (wB w b₁ b₂).params A g) (hn : n ≤ 700) (hro : ∀ p ∈ cmRo (wB w b₁ b₂).params a ks u v, g.get? p.1 = some p.2) (D : Own g s.heap [])
    (h : ∀ (s' : Shared) (tok : Nat), Own g s'.heap [] → s'.gens = s.gens → s'.drawn = s.drawn → s'.os = s.os → R (.ok (.ret (.int (cmpS ks u v) tok))) s') :
    codeAny (model pw (wB w b₁ b₂)) A (cmCode a) R s := by
  rcases hks with rfl | rfl | rfl | rfl
  · exact cm_A S hn hro D h
  · exact cm_B S hn hro D h
  · exact cm_C S hn hro D h
  · exact cm_D S hn hro D h
end
end Mine
end
section
open PySem
set_option Elab.async false
namespace Mine
theorem quoteL_inj {x y : List Nat} (h : quoteL x = quoteL y) : x = y := by
  obtain ⟨q, e, _⟩ := autoW_eof x
  obtain ⟨q', e', _⟩ := autoW_eof y
  rw [h, e'] at e
  simp only [Option.some.injEq, Prod.mk.injEq] at e
  exact e.1.symm
/-- a row as it is listed -/
structure Quoted (u u' : RowS) : Prop where
  f : u'.f.cps.toList = quoteL u.f.cps.toList
  n : u'.n = u.n
  m : u'.m.cps.toList = quoteL u.m.cps.toList
theorem ltS_quote {x y x' y' : Str} (hx : x'.cps.toList = quoteL x.cps.toList) (hy : y'.cps.toList = quoteL y.cps.toList) : ltS x' y' = lawLt x.cps.toList y.cps.toList := by
  unfold ltS
  rw [hx, hy]
  cases h : lawLt x.cps.toList y.cps.toList with
  | true => exact decide_eq_true ((quote_lt _ _).mpr h)
  | false => exact decide_eq_false fun q => by rw [(quote_lt _ _).mp q] at h; cases h
theorem lawLt_irrefl (x : List Nat) : lawLt x x = false := by
  cases h : lawLt x x with
  | false => rfl
  | true => exact absurd ((quote_lt x x).mpr h) (List.lt_irrefl _)
theorem lawLt_total {x y : List Nat} (hne : x ≠ y) (h : lawLt x y = false) : lawLt y x = true := by
  refine (quote_lt y x).mp ?_
  have h1 : ¬ quoteL x < quoteL y := fun q => by rw [(quote_lt _ _).mp q] at h; cases h
  have h2 : quoteL x ≠ quoteL y := fun q => hne (quoteL_inj q)
  rcases Std.lt_trichotomy (quoteL x) (quoteL y) with q | q | q
  · exact absurd q h1
  · exact absurd q h2
  · exact q
theorem word_key {x y x' y' : Str} {d r : Int} (hx : x'.cps.toList = quoteL x.cps.toList) (hy : y'.cps.toList = quoteL y.cps.toList) :
    (if ltS x' y' = true then -d else if ltS y' x' = true then d else r) = if x.cps.toList = y.cps.toList then r else d * ordL x.cps.toList y.cps.toList := by
  rw [ltS_quote hx hy, ltS_quote hy hx]
  by_cases h : x.cps.toList = y.cps.toList
  · rw [if_pos h, h, lawLt_irrefl]; rfl
  · rw [if_neg h]
    unfold ordL
    cases hl : lawLt x.cps.toList y.cps.toList with
    | true => simp
    | false => rw [lawLt_total h hl]; simp
theorem cmp_due {u v u' v' : RowS} (hu : Quoted u u') (hv : Quoted v v') : ∀ ks : List (Int × Int), cmpS ks u' v' = dueS ks u v
  | [] => rfl
  | (i, d) :: ks => by
    have ih := cmp_due hu hv ks
    unfold cmpS dueS lessK
    by_cases h1 : i = 1
    · subst h1
      simp only [if_true, hu.n, hv.n, decide_eq_true_eq, ih]
      by_cases q : u.n = v.n
      · simp [q]
      · simp only [q, if_false]
        by_cases q2 : v.n < u.n
        · have : ¬ u.n < v.n := by omega
          simp [q2, this]
        · have : u.n < v.n := by omega
          simp [q2, this]
    · by_cases h0 : i = 0
      · subst h0
        simp only [h1, if_false, if_true, ih]
        exact word_key hu.f hv.f
      · simp only [h1, h0, if_false, ih]
        exact word_key hu.m hv.m
theorem cmp_val (ks : List (Int × Int)) (h : ∀ k ∈ ks, k.2 = 1 ∨ k.2 = -1) (u v : RowS) : cmpS ks u v = -1 ∨ cmpS ks u v = 0 ∨ cmpS ks u v = 1 := by
  induction ks with
  | nil => exact .inr (.inl rfl)
  | cons k ks ih =>
    obtain ⟨i, d⟩ := k
    have hd := h (i, d) List.mem_cons_self
    have ih := ih fun k hk => h k (List.mem_cons_of_mem _ hk)
    unfold cmpS
    dsimp only at hd
    by_cases h1 : lessK i u v = true
    · rw [if_pos h1]; rcases hd with rfl | rfl <;> simp
    · rw [if_neg h1]
      by_cases h2 : lessK i v u = true
      · rw [if_pos h2]; rcases hd with rfl | rfl <;> simp
      · rw [if_neg h2]; exact ih
end Mine
end
section
open PySem PySem.W PyProof.Rows PySem.Builtin
set_option Elab.async false
set_option maxRecDepth 100000
namespace Mine
open PySem.Sre
noncomputable def reC : Array Nat := #[14, 17, 4, 1, 1, 21, 9, 0, 604043296, 1, 0, 0, 0, 0, 0, 8, 4, 0, 13, 14, 21, 9, 0, 604043296, 1, 0, 0, 0, 0, 0, 8, 4, 0, 1]
noncomputable def csC (c : Nat) : Bool := decide (c < 256) && (reC.getD (7 + c / 32) 0).testBit (c % 32)
theorem cs_safe (c : Nat) : (csC c || isWord c) = safe c := by
  by_cases h : c < 256
  · have key : ∀ c : Fin 256, (csC c.val || isWord c.val) = safe c.val := by decide +kernel
    exact key ⟨c, h⟩
  · have h1 : csC c = false := by unfold csC; simp [h]
    have h2 : isWord c = false := by
      unfold isWord isDigit
      simp
      omega
    have h3 : safe c = false := by
      cases hs : safe c with
      | false => rfl
      | true =>
        have h' : c ∈ safeL := by simpa [safe] using hs
        have key : ∀ c ∈ safeL, c < 256 := by decide
        exact absurd (key c h') h
    rw [h1, h2, h3]; rfl
theorem inSet5 (c : Nat) (seen : Sre.Seen) : ∃ seen', inSet reC c 34 5 true seen = .ok (!safe c, seen') := by
  have e1 : inSet reC c 34 5 true seen = inSet reC c 33 6 false (seen.add 21) := rfl
  have e2 : ∀ s, inSet reC c 33 6 false s = if (decide (c < 256) && (reC.getD (6 + (1 + c / 32)) 0).testBit (c % 32)) = true then .ok (false, s.add 9) else inSet reC c 32 15 false (s.add 9) := fun s => rfl
  have e3 : ∀ s, inSet reC c 32 15 false s = if isWord c = true then .ok (false, (s.add 8).add 59) else .ok (true, ((s.add 8).add 59).add 0) := by
    intro s
    show (do if ← category 4 c then pure (false, (s.add 8).add (55 + 4)) else inSet reC c 31 17 false ((s.add 8).add (55 + 4)) : Except String (Bool × Sre.Seen)) = _
    have hc : category 4 c = .ok (isWord c) := by
      show Except.map (· != false) (Except.ok (isWord c)) = _
      simp [Except.map]
    rw [hc]
    cases isWord c <;> rfl
  have hcs : (decide (c < 256) && (reC.getD (6 + (1 + c / 32)) 0).testBit (c % 32)) = csC c := by
    unfold csC
    rw [show 6 + (1 + c / 32) = 7 + c / 32 by omega]
  rw [e1, e2, hcs, e3]
  rw [← cs_safe]
  cases h1 : csC c with
  | true => exact ⟨_, by rw [if_pos rfl]; rfl⟩
  | false =>
    cases h2 : isWord c with
    | true => exact ⟨_, rfl⟩
    | false => exact ⟨_, rfl⟩
theorem acc18 (c : Nat) (seen : Sre.Seen) : ∃ seen', accepts reC 18 c seen = .ok (!safe c, seen') := by
  have e0 : accepts reC 18 c seen = inSet reC c 34 20 true seen := rfl
  have e1 : inSet reC c 34 20 true seen = inSet reC c 33 21 false (seen.add 21) := rfl
  have e2 : ∀ s, inSet reC c 33 21 false s = if (decide (c < 256) && (reC.getD (21 + (1 + c / 32)) 0).testBit (c % 32)) = true then .ok (false, s.add 9) else inSet reC c 32 30 false (s.add 9) := fun s => rfl
  have e3 : ∀ s, inSet reC c 32 30 false s = if isWord c = true then .ok (false, (s.add 8).add 59) else .ok (true, ((s.add 8).add 59).add 0) := by
    intro s
    show (do if ← category 4 c then pure (false, (s.add 8).add (55 + 4)) else inSet reC c 31 32 false ((s.add 8).add (55 + 4)) : Except String (Bool × Sre.Seen)) = _
    have hc : category 4 c = .ok (isWord c) := by
      show Except.map (· != false) (Except.ok (isWord c)) = _
      simp [Except.map]
    rw [hc]
    cases isWord c <;> rfl
  have hcs : (decide (c < 256) && (reC.getD (21 + (1 + c / 32)) 0).testBit (c % 32)) = csC c := by
    unfold csC
    by_cases h : c < 256
    · have key : ∀ c : Fin 256, reC.getD (21 + (1 + c.val / 32)) 0 = reC.getD (7 + c.val / 32) 0 := by decide +kernel
      rw [key ⟨c, h⟩]
    · simp [h]
  rw [e0, e1, e2, hcs, e3]
  rw [← cs_safe]
  cases h1 : csC c with
  | true => exact ⟨_, by rw [if_pos rfl]; rfl⟩
  | false =>
    cases h2 : isWord c with
    | true => exact ⟨_, rfl⟩
    | false => exact ⟨_, rfl⟩
/-- the first place where a sign is not safe -/
theorem adm (m : M) (hc : m.code = reC) : ∀ (fuel s : Nat) (seen : Sre.Seen), m.lim + 1 - s ≤ fuel →
    ∃ seen', (M.admitted m fuel s seen = .ok (none, seen') ∧ (∀ i, s ≤ i → i < m.lim → safe (m.text.getD i 0) = true)) ∨
      ∃ i, s ≤ i ∧ i < m.lim ∧ safe (m.text.getD i 0) = false ∧ M.admitted m fuel s seen = .ok (some i, seen')
  | 0, s, seen, h => ⟨seen, .inl ⟨rfl, fun i h1 h2 => by omega⟩⟩
  | fuel + 1, s, seen, h => by
    unfold M.admitted
    by_cases hs : s ≥ m.lim
    · rw [if_pos hs]
      exact ⟨seen, .inl ⟨rfl, fun i h1 h2 => by omega⟩⟩
    · rw [if_neg hs, hc]
      obtain ⟨seen1, e⟩ := inSet5 (m.text.getD s 0) seen
      rw [show reC.size = 34 from rfl, e]
      cases hsf : safe (m.text.getD s 0) with
      | false => exact ⟨seen1, .inr ⟨s, Nat.le_refl _, by omega, hsf, rfl⟩⟩
      | true =>
        show ∃ seen', (M.admitted m fuel (s + 1) seen1 = _ ∧ _) ∨ ∃ i, _ ∧ _ ∧ _ ∧ M.admitted m fuel (s + 1) seen1 = _
        obtain ⟨seen2, h' | ⟨i, h1, h2, h3, h4⟩⟩ := adm m hc fuel (s + 1) seen1 (by omega)
        · refine ⟨seen2, .inl ⟨h'.1, fun i h1 h2 => ?_⟩⟩
          by_cases q : i = s
          · subst q; exact hsf
          · exact h'.2 i (by omega) h2
        · exact ⟨seen2, .inr ⟨i, by omega, h2, h3, h4⟩⟩
noncomputable def m0 (text : Array Nat) : M := { code := reC, text := text, lim := text.size, start := 0, lastStart := text.size, pc := 18, pos := 0, handed := 0, marks := #[], seen := ({} : Sre.Seen).add 14 }
theorem fs_eq (text : Array Nat) (h0 : 0 < text.size) : forSearch reC text 0 0 text.size false = (m0 text).attemptFrom 0 true := by
  have h1 : (decide (0 > text.size) || decide (text.size - 0 < 1)) = false := by
    rw [decide_eq_false (by omega), decide_eq_false (by omega)]; rfl
  have e : forSearch reC text 0 0 text.size false = if (decide (0 > text.size) || decide (text.size - 0 < 1)) = true then M.say { m0 text with lastStart := 0 } false else (m0 text).attemptFrom 0 true := by
    unfold forSearch
    rfl
  rw [e, h1]
  rfl
/-- the machine where the search begins in earnest -/
noncomputable def m1 (text : Array Nat) (seen : Sre.Seen) (i : Nat) : M := { m0 text with seen := seen, start := i, pos := i, handed := i, frames := [{ wait := .nextStart, pc := 18, pos := i, outermost := true }], weight := 1 }
theorem m1_step (text : Array Nat) (seen seen' : Sre.Seen) (i : Nat) (hi : i < text.size) (ha : accepts reC 18 (text.getD i 0) (seen.add 13) = .ok (true, seen')) : (m1 text seen i).step = { m1 text seen' i with pc := 33, pos := i + 1 } := by
  have e : (m1 text seen i).step = if i ≥ text.size then M.say { m1 text seen i with seen := seen.add 13 } false else match accepts reC 18 (text.getD i 0) (seen.add 13) with
    | .error why => M.stick { m1 text seen i with seen := seen.add 13 } why
    | .ok (false, s) => M.say { m1 text s i with pc := 18 } false
    | .ok (true, s) => { m1 text s i with pc := 33, pos := i + 1 } := rfl
  rw [e, if_neg (by omega), ha]
theorem search_run (text : Array Nat) (h0 : 0 < text.size) :
    ((∀ i, i < text.size → safe (text.getD i 0) = true) ∧ ((forSearch reC text 0 0 text.size false).runFor 4).outcome = some .failed) ∨
    ((∃ i, i < text.size ∧ safe (text.getD i 0) = false) ∧ ((forSearch reC text 0 0 text.size false).runFor 4).outcome = some .matched) := by
  rw [fs_eq text h0]
  have e : (m0 text).attemptFrom 0 true = match M.admitted (m0 text) (text.size + 1) 0 (m0 text).seen with
    | .ok (some s, seen) => m1 text seen s
    | .ok (none, seen) => M.say { m0 text with seen := seen } false
    | .error why => (m0 text).stick why := rfl
  rw [e]
  obtain ⟨seen', ⟨h1, h2⟩ | ⟨i, _, h2, h3, h4⟩⟩ := adm (m0 text) rfl (text.size + 1) 0 (m0 text).seen (by show text.size + 1 - 0 ≤ _; omega)
  · refine .inl ⟨fun i hi => h2 i (Nat.zero_le _) hi, ?_⟩
    rw [h1]
    rfl
  · refine .inr ⟨⟨i, h2, h3⟩, ?_⟩
    rw [h4]
    obtain ⟨s2, ha⟩ := acc18 (text.getD i 0) (seen'.add 13)
    rw [show safe (text.getD i 0) = false from h3] at ha
    have e4 : (m1 text seen' i).runFor 4 = (m1 text seen' i).step.runFor 3 := rfl
    show ((m1 text seen' i).runFor 4).outcome = _
    rw [e4, m1_step text seen' s2 i h2 ha]
    rfl
end Mine
end
section
open PySem PySem.W PyProof.Rows PySem.Builtin PySem.Builtin.Re
set_option Elab.async false
set_option maxRecDepth 100000
namespace Mine
section
variable {prog : Program} {w : World} {A : Around} {E : Value → Shared → Prop} {s : Shared}
theorem wpAny_drive {m : Sre.M} {Q : Sre.M → Shared → Prop} (h : (m.runFor 4).outcome.isSome = true) (hq : Q (m.runFor 4) s) : wpAny (model prog w) A (reDrive (2 ^ 64) m) Q E s := by
  obtain ⟨n, e⟩ : ∃ n, (2 ^ 64 : Nat) = n + 1 := ⟨18446744073709551615, by decide⟩
  rw [e]
  have e2 : reDrive (n + 1) m = if (m.runFor 4).outcome.isSome then pure (m.runFor 4) else (rule "sre.turn" >>= fun _ => reDrive n (m.runFor 4)) := rfl
  rw [e2, h]
  exact wpAny_pure hq
theorem wpAny_toEnd {m : Sre.M} {Q : Option Sre.M → Shared → Prop} (h : (m.runFor 4).outcome = some .failed ∧ Q none s ∨ (m.runFor 4).outcome = some .matched ∧ Q (some (m.runFor 4)) s) : wpAny (model prog w) A (reRunToEnd m) Q E s := by
  unfold reRunToEnd
  refine wpAny_bind (wpAny_drive (by rcases h with h | h <;> rw [h.1] <;> rfl) ?_)
  refine wpAny_bind ?_
  have key : ∀ l : List Nat, wpAny (model prog w) A (forIn l PUnit.unit fun i _ => do
      if (m.runFor 4).seen.has i = true then do
        rule (Sre.names.getD i "")
        pure (ForInStep.yield PUnit.unit)
      else pure (ForInStep.yield PUnit.unit)) (fun _ s' => s' = s) E s := by
    intro l
    induction l with
    | nil => exact wpAny_pure rfl
    | cons i l ih =>
      rw [List.forIn_cons]
      refine wpAny_bind ?_
      split
      · exact wpAny_bind (wpAny_rule (wpAny_pure ih))
      · exact wpAny_pure ih
  refine wpAny_mono (key _) (fun _ s' hs => ?_) fun _ _ q => q
  subst hs
  rcases h with ⟨h1, h2⟩ | ⟨h1, h2⟩
  · rw [h1]; exact wpAny_pure h2
  · rw [h1]; exact wpAny_pure h2
end
end Mine
namespace Mine
theorem entry_search : entryFor table "re.Pattern.search" = some Builtin.«re.Pattern.search» := entryFor_of_tree (by kernel_rfl)
section
variable {w : World} {A : Around} {R : Result → Shared → Prop} {s : Shared}
theorem search_builtin {p : Params} {x : Str} {t : Nat} (h49 : s.heap.get? 49 = some (k49 p)) (h48 : s.heap.get? 48 = some (k48 p)) (hx : 0 < x.cps.size) (hl : x.cps.size ≤ 65536)
    (h1 : (∀ i, i < x.cps.size → safe (x.cps.getD i 0) = true) → R (.ok (.ret .none)) s)
    (h2 : (∃ i, i < x.cps.size ∧ safe (x.cps.getD i 0) = false) → ∀ o1 o2 : Obj, o1.isFreed = false → o2.isFreed = false → R (.ok (.ret (.ref (s.heap.objs.size + 1)))) { s with heap := (s.heap.push o1).push o2 }) :
    codeAny (model pw w) A (.builtin "re.Pattern.search" ⟨[.ref 49, .str x t], []⟩) R s := by
  refine codeAny_builtin entry_search ?_
  unfold Builtin.«re.Pattern.search»
  refine wpAny_bind ?_
  unfold reTarget
  dsimp only
  refine wpAny_bind (m := reNamed _ _ _ _ _ _) (wpAny_of_eq (a := [some (.str x t), none, none]) (by kernel_rfl) ?_)
  dsimp only
  refine wpAny_bind (wpAny_pure ?_)
  refine wpAny_bind (wpAny_pure ?_)
  obtain ⟨vs, ev, f2, f5, f6⟩ : ∃ vs, (k49 p).data = .fields vs ∧ vs.getD 2 .none = .int 0 0 ∧ vs.getD 5 .none = .ref 48 ∧ vs.getD 6 .none = .int 0 0 := ⟨_, rfl, rfl, rfl, rfl⟩
  obtain ⟨items, n, ei, ec⟩ : ∃ items n, (k48 p).data = .seq items n ∧ (items.map reRawOf).map (·.toNat) = reC := ⟨_, _, rfl, by decide +kernel⟩
  refine wpAny_bind (wpAny_fieldsOf h49 ev ?_)
  refine wpAny_bind (m := reTextOf _) (wpAny_of_eq (a := (x.cps, 0)) (by rfl) ?_)
  rw [f2, f5, f6]
  dsimp only
  show wpAny _ _ (reRawItems (.ref 48) >>= _) _ _ _
  unfold reRawItems
  refine wpAny_bind (wpAny_bind (wpAny_seqItems h48 ei (wpAny_pure ?_)))
  refine wpAny_pure ?_
  have hmin : min ((2 ^ 63 - 1 : Int).toNat) x.cps.size = x.cps.size := by omega
  have hz : min (0 : Int).toNat x.cps.size = 0 := Nat.zero_min _
  have hg : reRawNat (.int 0 0) = 0 := rfl
  simp only [Option.getD_some, ec, hmin, hz, hg]
  unfold reAnswer
  refine wpAny_bind (wpAny_toEnd ?_)
  rcases search_run x.cps hx with ⟨q1, q2⟩ | ⟨q1, q2⟩
  · exact .inl ⟨q2, wpAny_pure (h1 q1)⟩
  · refine .inr ⟨q2, ?_⟩
    dsimp only
    refine wpAny_bind ?_
    unfold reNewMatch
    dsimp only
    generalize Sre.M.runFor 4 (Sre.forSearch reC x.cps 0 0 x.cps.size false) = m
    rw [if_neg (by intro q; cases q)]
    refine wpAny_bind ?_
    unfold newTuple
    refine wpAny_newObj_type ?_ (show 2 ≤ sizeLine from by decide)
    refine wpAny_newObj_type ?_ (by size_fits)
    refine wpAny_pure ?_
    have e : (s.heap.objs.size + 1) = (s.heap.push { cls := Value.type "tuple", data := Data.seq (List.toArray (rawInt m.start :: rawInt m.handed :: [])) }).objs.size := by rw [Heap.size_push]
    have z := h2 q1 { cls := Value.type "tuple", data := Data.seq (List.toArray (rawInt m.start :: rawInt m.handed :: [])) } { cls := Value.type "re.Match", data := Data.fields (List.toArray [Value.str x t, Value.ref 49, rawInt 0, rawInt x.cps.size, rawInt m.lastindex, .ref s.heap.objs.size]) } rfl rfl
    rw [e] at z
    exact z
end
end Mine
end
section
open PySem PySem.W PyProof.Rows PySem.Builtin PySem.Builtin.Str
set_option Elab.async false
set_option maxRecDepth 1000000
set_option maxHeartbeats 0
set_option linter.unusedVariables false
namespace Mine
open PySem.W.X (Kont Means aroundOf endOf okMark XV)
noncomputable abbrev sW (l : List Nat) : Str := ⟨⟨l⟩⟩
noncomputable abbrev qCode (l : List Nat) (t : Nat) : Code := .call (.ref 752) ⟨[.str (sW l) t], []⟩
noncomputable abbrev qCf (p : Params) (l : List Nat) (t z tk : Nat) : Cf := ⟨qCode l t, .base, (PT p).den (qCode l t), [], z, tk⟩
noncomputable abbrev srCode (l : List Nat) (t : Nat) : Code := .call (.ref 745) ⟨[.str (sW l) t], []⟩
noncomputable abbrev rpCode (l : List Nat) (t u v : Nat) : Code := .call (.builtin "str.replace") ⟨[.str (sW l) t, .str "'" u, .str "'\"'\"'" v], []⟩
noncomputable abbrev prC2' (cf : Cf) := (callOf cf.t, lowC cf)
noncomputable abbrev prR (cf : Cf) := (cf.t, cf.κ)
noncomputable def hq0 : List Nat := [0, 0, 1, 1, 0, 0, 1, 0, 0, 0, 0, 1, 0, 1]
noncomputable def hq1 : List Nat := [1]
noncomputable def hq2 : List Nat := [1, 1]
noncomputable def hq3 : List Nat := [3, 3]
noncomputable def hqz : List Nat := [0, 0, 1, 1, 0, 0, 1, 0, 0, 0]
noncomputable def hsr : List Nat := [0, 0, 0, 0, 9]
theorem qZ (w : World) (b₁ b₂ : Bool) (t z tk : Nat) : SegOk (PT (wB w b₁ b₂).params) 60 (qCf (wB w b₁ b₂).params [] t z tk) hqz prR [] [] (.pure (.done (.ret (.str "''" (tk + 3)))), .base) := by
  kernel_rfl
theorem q0S (w : World) (b₁ b₂ : Bool) (l : List Nat) (h : l.length ≤ 6) (hne : l ≠ []) (t z tk : Nat) : SegOk (PT (wB w b₁ b₂).params) 60 (qCf (wB w b₁ b₂).params l t z tk) hq0 prC2' [] [] (some (srCode l t, none), true) := by
  match l, h, hne with
  | [_], _, _ => kernel_rfl
  | [_, _], _, _ => kernel_rfl
  | [_, _, _], _, _ => kernel_rfl
  | [_, _, _, _], _, _ => kernel_rfl
  | [_, _, _, _, _], _, _ => kernel_rfl
  | [_, _, _, _, _, _], _, _ => kernel_rfl
noncomputable abbrev q1Cf (p : Params) (l : List Nat) (t z tk : Nat) (v : Value) (sz2 tk2 : Nat) : Cf := after (runC (PT p) 60 (qCf p l t z tk) { hs := hq0 }) (.ok (.ret v)) (fun l => l) sz2 tk2
theorem q1S (w : World) (b₁ b₂ : Bool) (l : List Nat) (h : l.length ≤ 6) (hne : l ≠ []) (t z tk sz2 tk2 : Nat) : SegOk (PT (wB w b₁ b₂).params) 60 (q1Cf (wB w b₁ b₂).params l t z tk .none sz2 tk2) hq1 prR [] [] (.pure (.done (.ret (.str (sW l) t))), .base) := by
  match l, h, hne with
  | [_], _, _ => kernel_rfl
  | [_, _], _, _ => kernel_rfl
  | [_, _, _], _, _ => kernel_rfl
  | [_, _, _, _], _, _ => kernel_rfl
  | [_, _, _, _, _], _, _ => kernel_rfl
  | [_, _, _, _, _, _], _, _ => kernel_rfl
theorem q2S (w : World) (b₁ b₂ : Bool) (l : List Nat) (h : l.length ≤ 6) (hne : l ≠ []) (t z tk a sz2 tk2 : Nat) : SegOk (PT (wB w b₁ b₂).params) 60 (q1Cf (wB w b₁ b₂).params l t z tk (.ref a) sz2 tk2) hq2 prC2' [] [] (some (rpCode l t (tk2 + 1) (tk2 + 2), none), true) := by
  match l, h, hne with
  | [_], _, _ => kernel_rfl
  | [_, _], _, _ => kernel_rfl
  | [_, _, _], _, _ => kernel_rfl
  | [_, _, _, _], _, _ => kernel_rfl
  | [_, _, _, _, _], _, _ => kernel_rfl
  | [_, _, _, _, _, _], _, _ => kernel_rfl
noncomputable abbrev q3Cf (p : Params) (l : List Nat) (t z tk a sz2 tk2 : Nat) (r : Str) (tr sz3 tk3 : Nat) : Cf := after (runC (PT p) 60 (q1Cf p l t z tk (.ref a) sz2 tk2) { hs := hq2 }) (.ok (.ret (.str r tr))) (fun l => l) sz3 tk3
noncomputable abbrev strOfT : Sem Fin → Option Str
  | .pure (.done (.ret (.str s _))) => some s
  | _ => none
noncomputable abbrev prS (cf : Cf) := (strOfT cf.t, cf.κ)
theorem q3S (w : World) (b₁ b₂ : Bool) (l : List Nat) (h : l.length ≤ 6) (hne : l ≠ []) (t z tk a sz2 tk2 tr sz3 tk3 : Nat) (r : Str) : SegOk (PT (wB w b₁ b₂).params) 60 (q3Cf (wB w b₁ b₂).params l t z tk a sz2 tk2 r tr sz3 tk3) hq3 prS [Nat.ble ((("'" : Str) ++ r) ++ ("'" : Str)).length sizeLine, Nat.ble (("'" : Str) ++ r).length sizeLine] [true, true] (some ((("'" : Str) ++ r) ++ ("'" : Str)), .base) := by
  match l, h, hne with
  | [_], _, _ => kernel_rfl
  | [_, _], _, _ => kernel_rfl
  | [_, _, _], _, _ => kernel_rfl
  | [_, _, _, _], _, _ => kernel_rfl
  | [_, _, _, _, _], _, _ => kernel_rfl
  | [_, _, _, _, _, _], _, _ => kernel_rfl
theorem srS (w : World) (b₁ b₂ : Bool) (l : List Nat) (t z tk : Nat) : SegOk (PT (wB w b₁ b₂).params) 20 ⟨srCode l t, .base, (PT (wB w b₁ b₂).params).den (srCode l t), [], z, tk⟩ hsr prA [] [] (.pure (.again (.builtin "re.Pattern.search" ⟨[.ref 49, .str (sW l) t], []⟩)), .base, []) := by
  kernel_rfl
end Mine
end
section
open PySem PySem.W PyProof.Rows PySem.Builtin PySem.Builtin.Str
set_option Elab.async false
set_option maxRecDepth 100000
set_option maxHeartbeats 1000000
set_option linter.unusedVariables false
namespace Mine
open PySem.W.X (Kont Means aroundOf endOf okMark XV)
theorem esc_app (a b : List Nat) : escL (a ++ b) = escL a ++ escL b := by simp [escL]
theorem esc_free : ∀ l : List Nat, 39 ∉ l → escL l = l
  | [], _ => rfl
  | k :: r, h => by
    have h1 : ¬ k = 39 := fun e => h (e ▸ List.mem_cons_self ..)
    have h2 : 39 ∉ r := fun m => h (List.mem_cons_of_mem _ m)
    have := esc_free r h2
    simp only [escL, List.flatMap_cons, h1, if_false] at this ⊢
    rw [this]; rfl
theorem esc_len (l : List Nat) : (escL l).length ≤ 5 * l.length := by
  induction l with
  | nil => simp [escL]
  | cons c l ih =>
    have e : escL (c :: l) = (if c = 39 then [39, 34, 39, 34, 39] else [c]) ++ escL l := rfl
    rw [e, List.length_append, List.length_cons]
    by_cases h : c = 39
    · rw [if_pos h]; show 5 + _ ≤ _; omega
    · rw [if_neg h]; show 1 + _ ≤ _; omega
theorem sW_app (a b : List Nat) : sW a ++ sW b = sW (a ++ b) := by
  show Str.mk (⟨a⟩ ++ ⟨b⟩) = _
  simp
noncomputable abbrev escZ : Str := ⟨#[39, 34, 39, 34, 39]⟩
theorem esc_join : ∀ parts : List Str, (∀ p ∈ parts, 39 ∉ p.cps.toList) → escL (Str.join ⟨#[39]⟩ parts).cps.toList = (Str.join escZ parts).cps.toList
  | [], _ => rfl
  | [p], h => esc_free _ (h p (List.mem_singleton.mpr rfl))
  | p :: q :: r, h => by
    have ih := esc_join (q :: r) fun a ha => h a (List.mem_cons_of_mem _ ha)
    show escL (p ++ ⟨#[39]⟩ ++ Str.join ⟨#[39]⟩ (q :: r)).cps.toList = (p ++ escZ ++ Str.join escZ (q :: r)).cps.toList
    simp only [Str.cps_append, Array.toList_append]
    rw [esc_app, esc_app, ih, esc_free _ (h p (List.mem_cons_self ..))]
    rfl
theorem replace_esc (x : Str) : (Txt.replace x ⟨#[39]⟩ escZ).cps.toList = escL x.cps.toList := by
  rw [StrLaws.replace_one, ← esc_join _ (StrLaws.split_free x 39), StrLaws.join_split]
theorem lit_q : (Str.ofString "'") = ⟨#[39]⟩ := by decide +kernel
theorem lit_z : (Str.ofString "'\"'\"'") = escZ := by decide +kernel
theorem lit_qq : (Str.ofString "''") = ⟨#[39, 39]⟩ := by decide +kernel
section
variable {prog : Program} {w : World} {A : Around} {s : Shared} {R : Result → Shared → Prop}
theorem codeAny_gives {T : String} {name : Str} {id : String} {B : Builtin} {self : Value} {rest : List Value} {m : Made} (slot : Slot T name id) (hT : s.TypeIs self T)
    (entry : entryFor table id = some B) (args : argsOk id ⟨self :: rest, []⟩) (g : Gives (B ⟨self :: rest, []⟩) m) (h : m.post (fun v s' => R (.ok (.ret v)) s') s) :
    codeAny (model prog w) A (.call (.builtin id) ⟨self :: rest, []⟩) R s :=
  codeAny_call_builtin slot.plain entry (slot.check _ _ _ _ _ _ _ _ hT args (g prog w A R s h))
theorem replace_code {x y z : Str} {t u v : Nat} (hu : u ≠ 0) (hv : v ≠ 0) (huv : u ≠ v) (hyz : (y == z) = false) (hb : x.length + (x.length + 1) * z.length ≤ 16777216)
    (hq : ∀ t' k, R (.ok (.ret (.str (Txt.replace x y z) t'))) { s with toks := k }) : codeAny (model prog w) A (.call (.builtin "str.replace") ⟨[.str x t, .str y u, .str z v], []⟩) R s := by
  have hl : tooLong (x.length + (occurrences x y 0 x.length (x.length + 1)).length * z.length) = false := by
    have h1 := StrLaws.occ_length_le x y 0 x.length (x.length + 1)
    have h2 : (occurrences x y 0 x.length (x.length + 1)).length * z.length ≤ (x.length + 1) * z.length := Nat.mul_le_mul_right _ h1
    unfold tooLong sizeLine
    exact decide_eq_false (by omega)
  refine codeAny_gives F.slot_str_replace (typeIs_str _ _ _) F.entry_str_replace (F.args_str_replace_3 _ _ _)
    (gives_str_replace x y z t u v fun _ => ⟨by simp [hu, hv], by simp [huv], hyz, hl⟩) ?_
  have hq' := hq
  unfold Txt.replace at hq'
  cases hc : ((occurrences x y 0 x.length (x.length + 1)).isEmpty || (y.length == 0 && z.length == 0))
  · rw [hc] at hq'
    simp only [Bool.false_eq_true, if_false] at hq' ⊢
    exact ⟨fits_replaced y hb, hq' _ _⟩
  · rw [hc] at hq'
    simp only [if_true] at hq' ⊢
    exact hq' t s.toks
end
section
variable {w : World} {b₁ b₂ : Bool} {A : Around} {g : Heap} {n : Nat} {R : Result → Shared → Prop}
theorem own_nil {h h' : Heap} {led : Led} (D : Own g h' led) : Own g h' [] := D.sub (fun p hp => by cases hp) .nil
theorem search_code {l : List Nat} {t : Nat} {s : Shared} (S : Sur n (wB w b₁ b₂).params A g) (hn : n ≤ 700) (hl : l.length ≤ 6) (hne : l ≠ []) (D : Own g s.heap [])
    (h1 : l.all safe = true → ∀ s', Own g s'.heap [] → s'.gens = s.gens → s'.drawn = s.drawn → s'.os = s.os → R (.ok (.ret .none)) s')
    (h2 : l.all safe = false → ∀ s' a, Own g s'.heap [] → s'.gens = s.gens → s'.drawn = s.drawn → s'.os = s.os → R (.ok (.ret (.ref a))) s') :
    codeAny (model pw (wB w b₁ b₂)) A (srCode l t) R s := by
  refine code_good D ?_
  obtain ⟨cf0, _, _, hp, G⟩ := seg2 (gens := s.gens) (S.par hn (R₀ := R) (d := s.drawn) (os := s.os)) (srS w b₁ b₂ l t s.heap.objs.size s.toks) rfl
  simp only [prA, Prod.mk.injEq] at hp
  obtain ⟨q1, q2, q3⟩ := hp
  refine G (good_again q1 q2 (by kernel_rfl) fun H D0 => ?_)
  have hsz : (sW l).cps.size = l.length := rfl
  have hpos : 0 < l.length := by cases l with | nil => exact absurd rfl hne | cons _ _ => simp
  rw [q3] at D0
  refine search_builtin (p := (wB w b₁ b₂).params) (D0.keep _ _ (S.k 49 _ (by kernel_rfl))) (D0.keep _ _ (S.k 48 _ (by kernel_rfl))) (by rw [hsz]; exact hpos) (by rw [hsz]; omega) (fun q => ?_) (fun q o1 o2 f1 f2 => ?_)
  · refine h1 ?_ _ D0 rfl rfl rfl
    rw [List.all_eq_true]
    intro c hc
    obtain ⟨i, hi, rfl⟩ := List.mem_iff_getElem.mp hc
    have := q i (by rw [hsz]; exact hi)
    simpa [hi] using this
  · refine h2 ?_ _ _ (own_nil (h := H) ((D0.alloc f1).alloc f2)) rfl rfl rfl
    obtain ⟨i, hi, hs⟩ := q
    rw [hsz] at hi
    rw [List.all_eq_false]
    refine ⟨l[i], List.getElem_mem hi, ?_⟩
    have : (sW l).cps.getD i 0 = l[i] := by simp [hi]
    rw [this] at hs
    simp [hs]
theorem strOfT_some {t : Sem Fin} {x : Str} (h : strOfT t = some x) : ∃ tok, t = .pure (.done (.ret (.str x tok))) := by
  unfold strOfT at h
  split at h
  · cases h; exact ⟨_, rfl⟩
  · cases h
theorem quote_code {l : List Nat} {t : Nat} {s : Shared} (S : Sur n (wB w b₁ b₂).params A g) (hn : n + 40 ≤ 700) (hl : l.length ≤ 6) (D : Own g s.heap [])
    (h : ∀ s' tok, Own g s'.heap [] → s'.gens = s.gens → s'.drawn = s.drawn → s'.os = s.os → R (.ok (.ret (.str (sW (quoteL l)) tok))) s') :
    codeAny (model pw (wB w b₁ b₂)) A (qCode l t) R s := by
  refine code_good D ?_
  by_cases hne : l = []
  · subst hne
    obtain ⟨cf0, _, _, hp, G⟩ := seg2 (gens := s.gens) (S.par (by omega) (R₀ := R) (d := s.drawn) (os := s.os)) (qZ w b₁ b₂ t s.heap.objs.size s.toks) rfl
    simp only [prR, Prod.mk.injEq] at hp
    obtain ⟨q1, q2⟩ := hp
    refine G (good_ret q1 q2 fun H D' _ => ?_)
    rw [lit_qq]
    exact h ⟨H, s.gens, s.drawn, cf0.tk, s.os⟩ _ (own_nil (h := H) D') rfl rfl rfl
  · obtain ⟨cf0, ac0, er0, hp, G⟩ := seg2 (gens := s.gens) (S.par (by omega) (R₀ := R) (d := s.drawn) (os := s.os)) (q0S w b₁ b₂ l hl hne t s.heap.objs.size s.toks) rfl
    simp only [prC2', Prod.mk.injEq] at hp
    obtain ⟨p1, p2⟩ := hp
    refine G (call_segG (ac' := ac0) cf0.led [] [] (fun r sm => sm = [] ∧ ((l.all safe = true ∧ r = .ok (.ret .none)) ∨ (l.all safe = false ∧ ∃ a, r = .ok (.ret (.ref a))))) S (by omega) p1 p2 (by simp) ?_ ?_)
    · intro A' g' s' R' S' hk hr D' h'
      exact search_code S' (by omega) hl hne D' (fun ha s'' D'' e1 e2 e3 => h' s'' _ [] D'' ⟨rfl, .inl ⟨ha, rfl⟩⟩ e1 e2 e3) (fun ha s'' a D'' e1 e2 e3 => h' s'' _ [] D'' ⟨rfl, .inr ⟨ha, a, rfl⟩⟩ e1 e2 e3)
    · rintro r sm' sz2 tk2 ⟨rfl, ⟨ha, rfl⟩ | ⟨ha, a, rfl⟩⟩
      · rw [List.append_nil, List.append_nil]
        show Good _ _ (after (some (cf0, ac0)) _ (fun l => l) sz2 tk2)
        rw [← er0]
        obtain ⟨cf1, _, _, hp, G⟩ := seg2 (gens := s.gens) (S.par (by omega) (R₀ := R) (d := s.drawn) (os := s.os)) (q1S w b₁ b₂ l hl hne t s.heap.objs.size s.toks sz2 tk2) rfl
        simp only [prR, Prod.mk.injEq] at hp
        obtain ⟨q1, q2⟩ := hp
        refine G (good_ret q1 q2 fun H D' _ => ?_)
        have e : quoteL l = l := by unfold quoteL; rw [if_neg hne, if_pos ha]
        have := h ⟨H, s.gens, s.drawn, cf1.tk, s.os⟩ t (own_nil (h := H) D') rfl rfl rfl
        rw [e] at this
        exact this
      · rw [List.append_nil, List.append_nil]
        show Good _ _ (after (some (cf0, ac0)) _ (fun l => l) sz2 tk2)
        rw [← er0]
        obtain ⟨cf1, ac1, er1, hp, G⟩ := seg2 (gens := s.gens) (S.par (by omega) (R₀ := R) (d := s.drawn) (os := s.os)) (q2S w b₁ b₂ l hl hne t s.heap.objs.size s.toks a sz2 tk2) rfl
        simp only [prC2', Prod.mk.injEq] at hp
        obtain ⟨p1, p2⟩ := hp
        refine G (call_segG (ac' := ac1) cf1.led [] [] (fun r sm => sm = [] ∧ ∃ tr, r = .ok (.ret (.str (sW (escL l)) tr))) S (by omega) p1 p2 (by simp) ?_ ?_)
        · intro A' g' s' R' S' hk hr D' h'
          have hll : (sW l).length = l.length := rfl
          refine replace_code (by omega) (by omega) (by omega) (by rw [lit_q, lit_z]; rfl) (by rw [lit_z]; show (sW l).length + ((sW l).length + 1) * 5 ≤ _; omega) fun t' k => ?_
          have e : Txt.replace (sW l) "'" "'\"'\"'" = sW (escL l) := by
            rw [lit_q, lit_z]
            have := replace_esc (sW l)
            revert this
            generalize Txt.replace (sW l) ⟨#[39]⟩ escZ = y
            obtain ⟨⟨y⟩⟩ := y
            intro this
            have : y = escL l := this
            rw [this]
          rw [e]
          exact h' _ _ [] D' ⟨rfl, t', rfl⟩ rfl rfl rfl
        · rintro r sm' sz3 tk3 ⟨rfl, tr, rfl⟩
          rw [List.append_nil, List.append_nil]
          show Good _ _ (after (some (cf1, ac1)) _ (fun l => l) sz3 tk3)
          rw [← er1]
          have hel : (escL l).length ≤ 30 := by
            have := esc_len l
            omega
          have hq1 : ((Str.ofString "'") ++ sW (escL l)) = sW (39 :: escL l) := by rw [lit_q]; exact sW_app [39] (escL l)
          have hq2 : (sW (39 :: escL l) ++ (Str.ofString "'")) = sW (39 :: escL l ++ [39]) := by rw [lit_q]; exact sW_app (39 :: escL l) [39]
          obtain ⟨cf2, _, _, hp, G⟩ := seg2 (gens := s.gens) (S.par (by omega) (R₀ := R) (d := s.drawn) (os := s.os)) (q3S w b₁ b₂ l hl hne t s.heap.objs.size s.toks a sz2 tk2 tr sz3 tk3 (sW (escL l))) (by
            rw [hq1, hq2]
            have z1 : Nat.ble (sW (39 :: escL l ++ [39])).length sizeLine = true := Nat.ble_eq_true_of_le (by show (39 :: escL l ++ [39]).length ≤ 16777216; simp; omega)
            have z2 : Nat.ble (sW (39 :: escL l)).length sizeLine = true := Nat.ble_eq_true_of_le (by show (39 :: escL l).length ≤ 16777216; simp; omega)
            rw [z1, z2])
          simp only [prS, Prod.mk.injEq] at hp
          obtain ⟨q1, q2⟩ := hp
          rw [hq1, hq2] at q1
          obtain ⟨tok, ht⟩ := strOfT_some q1
          refine G (good_ret ht q2 fun H D' _ => ?_)
          have e : quoteL l = 39 :: escL l ++ [39] := by unfold quoteL; rw [if_neg hne, if_neg (by rw [ha]; simp)]
          have := h ⟨H, s.gens, s.drawn, cf2.tk, s.os⟩ tok (own_nil (h := H) D') rfl rfl rfl
          rw [e] at this
          exact this
end
end Mine
end
section
open PySem PySem.W PyProof.Rows PySem.Builtin PySem.Builtin.Str
set_option Elab.async false
set_option maxRecDepth 1000000
set_option maxHeartbeats 1000000
set_option linter.unusedVariables false
namespace Mine
open PySem.W.X (Kont Means aroundOf endOf okMark XV)
noncomputable abbrev wCode (x : Int) (t : Nat) : Code := .call (.ref 787) ⟨[.int x t], []⟩
noncomputable abbrev wCf (p : Params) (x : Int) (t z tk : Nat) : Cf := ⟨wCode x t, .base, (PT p).den (wCode x t), [], z, tk⟩
noncomputable abbrev wLit : Str := "'\"! #$%&(+,7aZ_~"
noncomputable abbrev wBase (x : Int) : Str := pick4 (x.fmod 4) ("" : Str) ("a" : Str) ("a b" : Str) ("%" : Str)
noncomputable abbrev wArg (x : Int) : Int := (x.fdiv 17).fmod 55296
noncomputable abbrev wSign (x : Int) : Str := itemS (wLit ++ (⟨#[(wArg x).toNat]⟩ : Str)) (x.fmod 17)
noncomputable abbrev wC1 (x : Int) : Bool := decide (0 ≤ wArg x) && decide (wArg x < 1114112)
noncomputable abbrev wC2 (x : Int) : Bool := itemC (wLit ++ (⟨#[(wArg x).toNat]⟩ : Str)) (x.fmod 17)
noncomputable def hw0 : List Nat := [0, 0, 1, 1, 0, 0, 2, 12, 1, 1, 1, 23, 0, 2, 10, 19, 2, 10, 1, 1, 1, 0, 1, 0, 1, 1, 0, 1, 0, 1, 1, 2, 1, 1, 1, 0, 1, 0, 1, 1, 2, 1, 1, 1, 0, 1, 0, 1, 1, 2, 1, 1, 1, 0, 1, 0, 1, 1, 2, 1, 1, 1, 6, 6, 6, 6, 6, 6, 0, 0, 6, 0, 0, 0, 0, 1, 1, 0, 1, 0, 1, 1, 1, 0, 1, 0, 1, 1, 1, 1, 0, 1, 0, 1, 0, 1, 1, 1, 1, 0, 10]
theorem w0S (w : World) (b₁ b₂ : Bool) (x : Int) (t z tk : Nat) : SegOk (PT (wB w b₁ b₂).params) 500 (wCf (wB w b₁ b₂).params x t z tk) hw0 prS [decide ((x.fdiv 4).fmod 4 = 0) && decide ((0 : Int) < 4) && decide ((4 : Int) < 65536), decide (0 ≤ x.fmod 4) && decide (x.fmod 4 < 4)] [true, true]
    (some (wBase x), .base) := by
  cases b₁ <;> kernel_rfl
noncomputable def hw1 : List Nat := [0, 0, 1, 1, 0, 0, 2, 12, 1, 1, 1, 23, 0, 2, 10, 83, 2, 10, 1, 1, 1, 0, 1, 0, 1, 1, 0, 1, 0, 1, 1, 2, 1, 1, 1, 0, 1, 0, 1, 1, 2, 1, 1, 1, 0, 1, 0, 1, 1, 2, 1, 1, 1, 0, 1, 0, 1, 1, 2, 1, 1, 1, 6, 6, 6, 6, 6, 6, 0, 0, 6, 0, 0, 0, 0, 1, 1, 0, 1, 0, 1, 1, 1, 0, 1, 0, 1, 1, 1, 1, 0, 1, 0, 1, 0, 1, 1, 1, 1, 1, 1, 1, 8, 8, 8, 0, 0, 8, 10, 12, 17, 2, 8, 12, 15, 3, 8, 8, 8, 10, 8, 8, 0, 1, 0, 1, 0, 1, 1, 1, 1, 0, 10]
theorem w1S (w : World) (b₁ b₂ : Bool) (x : Int) (t z tk : Nat) : SegOk (PT (wB w b₁ b₂).params) 500 (wCf (wB w b₁ b₂).params x t z tk) hw1 prS [Nat.ble (wBase x ++ wSign (x.fdiv 16)).length sizeLine, wC2 (x.fdiv 16), wC1 (x.fdiv 16), decide ((x.fdiv 4).fmod 4 = 1) && decide ((0 : Int) < 4) && decide ((4 : Int) < 65536), decide (0 ≤ x.fmod 4) && decide (x.fmod 4 < 4)] [true, true, true, true, true]
    (some ((wBase x ++ wSign (x.fdiv 16))), .base) := by
  cases b₁ <;> kernel_rfl
noncomputable def hw2 : List Nat := [0, 0, 1, 1, 0, 0, 2, 12, 1, 1, 1, 23, 0, 2, 10, 147, 2, 10, 1, 1, 1, 0, 1, 0, 1, 1, 0, 1, 0, 1, 1, 2, 1, 1, 1, 0, 1, 0, 1, 1, 2, 1, 1, 1, 0, 1, 0, 1, 1, 2, 1, 1, 1, 0, 1, 0, 1, 1, 2, 1, 1, 1, 6, 6, 6, 6, 6, 6, 0, 0, 6, 0, 0, 0, 0, 1, 1, 0, 1, 0, 1, 1, 1, 0, 1, 0, 1, 1, 1, 1, 0, 1, 0, 1, 0, 1, 1, 1, 1, 1, 1, 1, 8, 8, 8, 0, 0, 8, 10, 12, 17, 2, 8, 12, 15, 3, 8, 8, 8, 10, 8, 8, 0, 1, 0, 1, 0, 1, 1, 1, 1, 1, 1, 1, 8, 8, 8, 0, 0, 8, 10, 12, 17, 2, 8, 12, 15, 3, 8, 8, 8, 10, 8, 8, 0, 1, 0, 1, 0, 1, 1, 1, 1, 0, 10]
theorem w2S (w : World) (b₁ b₂ : Bool) (x : Int) (t z tk : Nat) : SegOk (PT (wB w b₁ b₂).params) 500 (wCf (wB w b₁ b₂).params x t z tk) hw2 prS [Nat.ble ((wBase x ++ wSign (x.fdiv 16)) ++ wSign ((x.fdiv 16).fdiv 17)).length sizeLine, wC2 ((x.fdiv 16).fdiv 17), wC1 ((x.fdiv 16).fdiv 17), Nat.ble (wBase x ++ wSign (x.fdiv 16)).length sizeLine, wC2 (x.fdiv 16), wC1 (x.fdiv 16), decide ((x.fdiv 4).fmod 4 = 2) && decide ((0 : Int) < 4) && decide ((4 : Int) < 65536), decide (0 ≤ x.fmod 4) && decide (x.fmod 4 < 4)] [true, true, true, true, true, true, true, true]
    (some (((wBase x ++ wSign (x.fdiv 16)) ++ wSign ((x.fdiv 16).fdiv 17))), .base) := by
  cases b₁ <;> kernel_rfl
noncomputable def hw3 : List Nat := [0, 0, 1, 1, 0, 0, 2, 12, 1, 1, 1, 23, 0, 2, 10, 211, 2, 10, 1, 1, 1, 0, 1, 0, 1, 1, 0, 1, 0, 1, 1, 2, 1, 1, 1, 0, 1, 0, 1, 1, 2, 1, 1, 1, 0, 1, 0, 1, 1, 2, 1, 1, 1, 0, 1, 0, 1, 1, 2, 1, 1, 1, 6, 6, 6, 6, 6, 6, 0, 0, 6, 0, 0, 0, 0, 1, 1, 0, 1, 0, 1, 1, 1, 0, 1, 0, 1, 1, 1, 1, 0, 1, 0, 1, 0, 1, 1, 1, 1, 1, 1, 1, 8, 8, 8, 0, 0, 8, 10, 12, 17, 2, 8, 12, 15, 3, 8, 8, 8, 10, 8, 8, 0, 1, 0, 1, 0, 1, 1, 1, 1, 1, 1, 1, 8, 8, 8, 0, 0, 8, 10, 12, 17, 2, 8, 12, 15, 3, 8, 8, 8, 10, 8, 8, 0, 1, 0, 1, 0, 1, 1, 1, 1, 1, 1, 1, 8, 8, 8, 0, 0, 8, 10, 12, 17, 2, 8, 12, 15, 3, 8, 8, 8, 10, 8, 8, 0, 1, 0, 1, 0, 1, 1, 1, 1, 0, 10]
theorem w3S (w : World) (b₁ b₂ : Bool) (x : Int) (t z tk : Nat) : SegOk (PT (wB w b₁ b₂).params) 500 (wCf (wB w b₁ b₂).params x t z tk) hw3 prS [Nat.ble (((wBase x ++ wSign (x.fdiv 16)) ++ wSign ((x.fdiv 16).fdiv 17)) ++ wSign (((x.fdiv 16).fdiv 17).fdiv 17)).length sizeLine, wC2 (((x.fdiv 16).fdiv 17).fdiv 17), wC1 (((x.fdiv 16).fdiv 17).fdiv 17), Nat.ble ((wBase x ++ wSign (x.fdiv 16)) ++ wSign ((x.fdiv 16).fdiv 17)).length sizeLine, wC2 ((x.fdiv 16).fdiv 17), wC1 ((x.fdiv 16).fdiv 17), Nat.ble (wBase x ++ wSign (x.fdiv 16)).length sizeLine, wC2 (x.fdiv 16), wC1 (x.fdiv 16), decide ((x.fdiv 4).fmod 4 = 3) && decide ((0 : Int) < 4) && decide ((4 : Int) < 65536), decide (0 ≤ x.fmod 4) && decide (x.fmod 4 < 4)] [true, true, true, true, true, true, true, true, true, true, true]
    (some ((((wBase x ++ wSign (x.fdiv 16)) ++ wSign ((x.fdiv 16).fdiv 17)) ++ wSign (((x.fdiv 16).fdiv 17).fdiv 17))), .base) := by
  cases b₁ <;> kernel_rfl
end Mine
end
section
open PySem PySem.W PyProof.Rows PySem.Builtin PySem.Builtin.Str
set_option Elab.async false
set_option maxRecDepth 100000
set_option maxHeartbeats 1000000
set_option linter.unusedVariables false
namespace Mine
open PySem.W.X (Kont Means aroundOf endOf okMark XV)
theorem lenS_app (a b : Str) : (a ++ b).length = a.length + b.length := by
  obtain ⟨⟨a⟩⟩ := a
  obtain ⟨⟨b⟩⟩ := b
  show (a.toArray ++ b.toArray).size = _
  simp [Str.length]
theorem wBase_len (x : Int) : (wBase x).length ≤ 3 := by
  unfold wBase pick4
  repeat' split
  all_goals decide +kernel
theorem wSign_len (x : Int) : (wSign x).length = 1 := rfl
theorem wArg_ok (x : Int) : wC1 x = true := by
  have h1 : 0 ≤ wArg x := Int.fmod_nonneg_of_pos _ (by decide)
  have h2 : wArg x < 55296 := Int.fmod_lt_of_pos _ (by decide)
  unfold wC1
  simp only [Bool.and_eq_true, decide_eq_true_eq]
  omega
theorem wItem_ok (x : Int) : wC2 x = true := by
  have h1 : 0 ≤ x.fmod 17 := Int.fmod_nonneg_of_pos _ (by decide)
  have h2 : x.fmod 17 < 17 := Int.fmod_lt_of_pos _ (by decide)
  have hl : (wLit ++ (⟨#[(wArg x).toNat]⟩ : Str)).length = 17 := by
    rw [lenS_app]
    have : wLit.length = 16 := by decide +kernel
    rw [this]; rfl
  have h3 : Nat.blt (x.fmod 17).toNat 17 = true := Nat.ble_eq_true_of_le (by omega)
  show (decide (0 ≤ x.fmod 17) && Nat.blt (x.fmod 17).toNat (wLit ++ (⟨#[(wArg x).toNat]⟩ : Str)).length && Nat.ble (wLit ++ (⟨#[(wArg x).toNat]⟩ : Str)).length sizeLine) = true
  rw [hl, h3, decide_eq_true h1]
  decide +kernel
theorem ble_small {n : Nat} (h : n ≤ 6) : Nat.ble n sizeLine = true := Nat.ble_eq_true_of_le (by have : sizeLine = 16777216 := rfl; omega)
section
variable {w : World} {b₁ b₂ : Bool} {A : Around} {g : Heap} {n : Nat} {R : Result → Shared → Prop}
theorem word_code {x : Int} {t : Nat} {s : Shared} (S : Sur n (wB w b₁ b₂).params A g) (hn : n ≤ 700) (D : Own g s.heap [])
    (h : ∀ s' l tok, l.length ≤ 6 → Own g s'.heap [] → s'.gens = s.gens → s'.drawn = s.drawn → s'.os = s.os → R (.ok (.ret (.str (sW l) tok))) s') :
    codeAny (model pw (wB w b₁ b₂)) A (wCode x t) R s := by
  refine code_good D ?_
  have c1 : (decide (0 ≤ x.fmod 4) && decide (x.fmod 4 < 4)) = true := by
    have h1 : 0 ≤ x.fmod 4 := Int.fmod_nonneg_of_pos _ (by decide)
    have h2 : x.fmod 4 < 4 := Int.fmod_lt_of_pos _ (by decide)
    simp only [Bool.and_eq_true, decide_eq_true_eq]; omega
  have c2 : ∀ k : Int, (x.fdiv 4).fmod 4 = k → (decide ((x.fdiv 4).fmod 4 = k) && decide ((0 : Int) < 4) && decide ((4 : Int) < 65536)) = true := by
    intro k hk; rw [decide_eq_true hk]; rfl
  have fin : ∀ {hs : List Nat} {s1 s2 : List Bool} {W : Str}, SegOk (PT (wB w b₁ b₂).params) 500 (wCf (wB w b₁ b₂).params x t s.heap.objs.size s.toks) hs prS s1 s2 (some W, .base) → s1 = s2 → W.length ≤ 6 → Good (vOf pw (wB w b₁ b₂) g A R s.drawn s.os) s.gens (wCf (wB w b₁ b₂).params x t s.heap.objs.size s.toks) := by
    intro hs s1 s2 W sg es hW
    obtain ⟨cf', _, _, hp, G⟩ := seg2 (gens := s.gens) (S.par hn (R₀ := R) (d := s.drawn) (os := s.os)) sg es
    simp only [prS, Prod.mk.injEq] at hp
    obtain ⟨q1, q2⟩ := hp
    obtain ⟨tok, ht⟩ := strOfT_some q1
    obtain ⟨⟨l⟩⟩ := W
    exact G (good_ret ht q2 fun H D' _ => h ⟨H, s.gens, s.drawn, cf'.tk, s.os⟩ l tok hW (own_nil (h := H) D') rfl rfl rfl)
  have b0 := wBase_len x
  have hk : (x.fdiv 4).fmod 4 = 0 ∨ (x.fdiv 4).fmod 4 = 1 ∨ (x.fdiv 4).fmod 4 = 2 ∨ (x.fdiv 4).fmod 4 = 3 := by
    have h1 : 0 ≤ (x.fdiv 4).fmod 4 := Int.fmod_nonneg_of_pos _ (by decide)
    have h2 : (x.fdiv 4).fmod 4 < 4 := Int.fmod_lt_of_pos _ (by decide)
    omega
  have l1 : ∀ (W : Str) (y : Int), (W ++ wSign y).length = W.length + 1 := fun W y => by rw [lenS_app]; rfl
  rcases hk with hk | hk | hk | hk
  · exact fin (w0S w b₁ b₂ x t _ _) (by rw [c1, c2 0 hk]) (by omega)
  · exact fin (w1S w b₁ b₂ x t _ _) (by rw [c1, c2 1 hk, wArg_ok, wItem_ok, ble_small (by rw [l1]; omega)]) (by rw [l1]; omega)
  · exact fin (w2S w b₁ b₂ x t _ _) (by rw [c1, c2 2 hk, wArg_ok, wItem_ok, wArg_ok, wItem_ok, ble_small (by rw [l1, l1]; omega), ble_small (by rw [l1]; omega)]) (by rw [l1, l1]; omega)
  · exact fin (w3S w b₁ b₂ x t _ _) (by rw [c1, c2 3 hk, wArg_ok, wItem_ok, wArg_ok, wItem_ok, wArg_ok, wItem_ok, ble_small (by rw [l1, l1, l1]; omega), ble_small (by rw [l1, l1]; omega), ble_small (by rw [l1]; omega)]) (by rw [l1, l1, l1]; omega)
end
end Mine
end
section
open PySem PySem.W PyProof.Rows PySem.Builtin PySem.Builtin.Str
set_option Elab.async false
set_option maxRecDepth 100000
set_option linter.unusedVariables false
namespace Mine
open PySem.W.X (Kont Means aroundOf endOf okMark XV)
/-- the frames of a place -/
noncomputable def envsK : Kont → List Env
  | .ret c _ _ κ => c.envs ++ envsK κ
  | _ => []
noncomputable def envsC (cf : Cf) : List Env := cf.c.envs ++ envsK cf.κ
theorem push_some (es l : List Env) : pushEnvs es (some l) = some (es ++ l) := by
  cases es <;> rfl
theorem frames_K {w : World} {A : Around} {g : Heap} {R : Result → Shared → Prop} {d : Drawn} {os : OsState} {l : List Env} (hA : A.frames = some l) : ∀ κ : Kont, (aroundOf (vOf pw w g A R d os) true κ).frames = some (envsK κ ++ l)
  | .base => hA
  | .ret c hd k κ => by
    show pushEnvs c.envs (aroundOf (vOf pw w g A R d os) true κ).frames = _
    rw [frames_K hA κ, push_some]
    simp [envsK]
  | .gen .. => hA
  | .genS .. => hA
theorem frames_child {w : World} {A : Around} {g : Heap} {R : Result → Shared → Prop} {d : Drawn} {os : OsState} {l : List Env} (hA : A.frames = some l) (cf : Cf) : ((aroundOf (vOf pw w g A R d os) true cf.κ).under cf.c).frames = some (envsC cf ++ l) := by
  show pushEnvs cf.c.envs (aroundOf (vOf pw w g A R d os) true cf.κ).frames = _
  rw [frames_K hA, push_some]
  simp [envsC]
/-- frames that are on the stack, as objects -/
noncomputable def FrO : List Env → Led → Prop
  | [], [] => True
  | e :: es, p :: ps => e.scope.kind ≠ .module ∧ e.frame = some p.1 ∧ (∀ vs, p.2.data ≠ .fields vs) ∧ FrO es ps
  | _, _ => False
/-- the same but for their slots -/
noncomputable def SlO : Led → Led → Prop
  | [], [] => True
  | p :: ps, q :: qs => q.1 = p.1 ∧ (∃ sl, q.2 = { p.2 with slots := sl }) ∧ SlO ps qs
  | _, _ => False
theorem FrO.slo : ∀ {es : List Env} {fs fs' : Led}, FrO es fs → SlO fs fs' → FrO es fs'
  | [], [], [], _, _ => trivial
  | e :: es, p :: ps, q :: qs, h, k => by
    obtain ⟨h1, h2, h3, h4⟩ := h
    obtain ⟨k1, ⟨sl, k2⟩, k3⟩ := k
    exact ⟨h1, by rw [k1]; exact h2, by rw [k2]; exact h3, h4.slo k3⟩
  | [], _ :: _, _, h, _ => h.elim
  | _ :: _, [], _, h, _ => h.elim
  | [], [], _ :: _, _, k => k.elim
  | _ :: _, _ :: _, [], _, k => k.elim
theorem SlO.refl : ∀ fs : Led, SlO fs fs
  | [] => trivial
  | p :: ps => ⟨rfl, ⟨p.2.slots, rfl⟩, SlO.refl ps⟩
theorem SlO.trans : ∀ {a b c : Led}, SlO a b → SlO b c → SlO a c
  | [], [], [], _, _ => trivial
  | p :: ps, q :: qs, r :: rs, h, k => by
    obtain ⟨h1, ⟨s1, h2⟩, h3⟩ := h
    obtain ⟨k1, ⟨s2, k2⟩, k3⟩ := k
    exact ⟨k1.trans h1, ⟨s2, by rw [k2, h2]⟩, h3.trans k3⟩
  | [], _ :: _, _, h, _ => h.elim
  | _ :: _, [], _, h, _ => h.elim
  | [], [], _ :: _, _, k => k.elim
  | _ :: _, _ :: _, [], _, k => k.elim
theorem SlO.addrs : ∀ {a b : Led}, SlO a b → b.map (·.1) = a.map (·.1)
  | [], [], _ => rfl
  | p :: ps, q :: qs, h => by
    rw [List.map_cons, List.map_cons, h.1, h.2.2.addrs]
  | [], _ :: _, h => h.elim
  | _ :: _, [], h => h.elim
section
variable {w : World} {A : Around} {g : Heap} {n : Nat} {R : Result → Shared → Prop}
theorem funFrames {h base : Heap} : ∀ {es : List Env} {fs : Led}, FrO es fs → (∀ p ∈ fs, h.get? p.1 = some p.2) → (∀ p ∈ fs, base.get? p.1 = none) → h.FunFrames base es
  | [], [], _, _, _ => trivial
  | e :: es, p :: ps, k, h1, h2 => by
    obtain ⟨k1, k2, k3, k4⟩ := k
    exact ⟨k1, ⟨p.1, p.2, k2, h2 p List.mem_cons_self, h1 p List.mem_cons_self, k3⟩, funFrames k4 (fun q hq => h1 q (List.mem_cons_of_mem _ hq)) (fun q hq => h2 q (List.mem_cons_of_mem _ hq))⟩
  | [], _ :: _, k, _, _ => k.elim
  | _ :: _, [], k, _, _ => k.elim
theorem slots_of {h h' : Heap} : ∀ {es : List Env} {fs : Led}, FrO es fs → (∀ p ∈ fs, h.get? p.1 = some p.2) → (∀ b o, h.get? b = some o → (∀ vs, o.data ≠ .fields vs) → ∃ sl, h'.get? b = some { o with slots := sl }) →
    ∃ fs', SlO fs fs' ∧ ∀ p ∈ fs', h'.get? p.1 = some p.2
  | [], [], _, _, _ => ⟨[], trivial, fun p hp => by cases hp⟩
  | e :: es, p :: ps, k, h1, h2 => by
    obtain ⟨k1, k2, k3, k4⟩ := k
    obtain ⟨sl, hs⟩ := h2 p.1 p.2 (h1 p List.mem_cons_self) k3
    obtain ⟨fs', s1, s2⟩ := slots_of k4 (fun q hq => h1 q (List.mem_cons_of_mem _ hq)) h2
    refine ⟨(p.1, { p.2 with slots := sl }) :: fs', ⟨rfl, ⟨sl, rfl⟩, s1⟩, fun q hq => ?_⟩
    rcases List.mem_cons.mp hq with rfl | hq
    · exact hs
    · exact s2 q hq
  | [], _ :: _, k, _, _ => k.elim
  | _ :: _, [], k, _, _ => k.elim
theorem own_left {h h' : Heap} {env : Env} {es : List Env} {L e : Addr} {oe oL : Obj} {rest fs : Led} (D : Own g h ((e, oe) :: (rest ++ (L, oL) :: fs))) (f4 : FrO es fs)
    (hL : Heap.Left (hide h (e :: L :: fs.map (·.1))) (env :: es) e oe.cls h h') : ∃ oe' vs' fs', oe'.cls = oe.cls ∧ oe'.data = .fields vs' ∧ SlO fs fs' ∧ Own g h' ((e, oe') :: (rest ++ fs')) := by
  have hin : ∀ p ∈ (L, oL) :: fs, p ∈ (e, oe) :: (rest ++ (L, oL) :: fs) := fun p hp => List.mem_cons_of_mem _ (List.mem_append_right _ hp)
  have nd := D.nodup
  simp only [List.map_cons, List.map_append, List.nodup_cons, List.nodup_append, List.mem_append, List.mem_cons, List.mem_map, not_or] at nd
  have hall : ∀ p ∈ (L, oL) :: fs, h.get? p.1 = some p.2 := fun p hp => D.has p (hin p hp)
  obtain ⟨l1, _, ⟨oe', vs', T, oT, ts, he', hc', hd', _⟩, l4⟩ := hL
  have hall2 : ∀ p ∈ fs, h.get? p.1 = some p.2 := fun p hp => hall p (List.mem_cons_of_mem _ hp)
  have hsl : ∃ fs', SlO fs fs' ∧ ∀ p ∈ fs', h'.get? p.1 = some p.2 := slots_of (h := h) (h' := h') (es := es) (fs := fs) f4 hall2 l4
  obtain ⟨fs', s1, s2⟩ := hsl
  refine ⟨oe', vs', fs', hc', hd', s1, ⟨fun b o hbo => ?_, fun p hp => ?_, fun p hp => ?_, ?_⟩⟩
  · refine l1 b o ?_
    rw [get_hide, if_neg]
    · exact D.keep b o hbo
    · intro hm
      have : ∃ p ∈ (e, oe) :: (rest ++ (L, oL) :: fs), p.1 = b := by
        rcases List.mem_cons.mp hm with rfl | hm
        · exact ⟨_, List.mem_cons_self, rfl⟩
        · rcases List.mem_cons.mp hm with rfl | hm
          · exact ⟨_, hin _ List.mem_cons_self, rfl⟩
          · obtain ⟨p, hp, rfl⟩ := List.mem_map.mp hm
            exact ⟨p, hin p (List.mem_cons_of_mem _ hp), rfl⟩
      obtain ⟨p, hp, rfl⟩ := this
      rw [D.away p hp] at hbo
      cases hbo
  · rcases List.mem_cons.mp hp with rfl | hp
    · exact he'
    · rcases List.mem_append.mp hp with hp | hp
      · refine l1 p.1 p.2 ?_
        rw [get_hide, if_neg]
        · exact D.has p (List.mem_cons_of_mem _ (List.mem_append_left _ hp))
        · intro hm
          rcases List.mem_cons.mp hm with q | hm
          · exact nd.1.1 ⟨p, hp, q⟩
          · rcases List.mem_cons.mp hm with q | hm
            · exact nd.2.2.2 p.1 ⟨p, hp, rfl⟩ L (.inl rfl) q
            · obtain ⟨r, hr, q⟩ := List.mem_map.mp hm
              exact nd.2.2.2 p.1 ⟨p, hp, rfl⟩ r.1 (.inr ⟨r, hr, rfl⟩) q.symm
      · exact s2 p hp
  · have ha : ∀ q ∈ fs', ∃ p ∈ fs, p.1 = q.1 := fun q hq => by
      have : q.1 ∈ fs.map (·.1) := by rw [← s1.addrs]; exact List.mem_map_of_mem hq
      obtain ⟨p, hp, e⟩ := List.mem_map.mp this
      exact ⟨p, hp, e⟩
    rcases List.mem_cons.mp hp with rfl | hp
    · exact D.away (e, oe) List.mem_cons_self
    · rcases List.mem_append.mp hp with hp | hp
      · exact D.away p (List.mem_cons_of_mem _ (List.mem_append_left _ hp))
      · obtain ⟨q, hq, e⟩ := ha p hp
        rw [← e]; exact D.away q (hin q (List.mem_cons_of_mem _ hq))
  · have nd0 := D.nodup
    simp only [List.map_cons, List.map_append, s1.addrs] at nd0 ⊢
    refine List.Nodup.sublist ?_ nd0
    exact List.Sublist.cons_cons _ (List.Sublist.append_left (List.sublist_cons_self _ _) _)
/-- an exception that leaves a function -/
theorem leave_own {M : Model} {env : Env} {es : List Env} {L e : Addr} {oe oL : Obj} {vs : Array Value} {rest fs : Led} {s : Shared} {Q : Unit → Shared → Prop} {E : Value → Shared → Prop} (hA : A.frames = some (env :: es)) (hF : FrO (env :: es) ((L, oL) :: fs))
    (hd : oe.data = .fields vs) (h1 : vs[1]? = some .none) (D : Own g s.heap ((e, oe) :: (rest ++ (L, oL) :: fs)))
    (h : ∀ H oe' vs' fs', oe'.cls = oe.cls → oe'.data = .fields vs' → SlO fs fs' → Own g H ((e, oe') :: (rest ++ fs')) → Q () { s with heap := H }) : wpAny M A (leaving env (.ref e)) Q E s := by
  have hin : ∀ p ∈ (L, oL) :: fs, p ∈ (e, oe) :: (rest ++ (L, oL) :: fs) := fun p hp => List.mem_cons_of_mem _ (List.mem_append_right _ hp)
  have nd := D.nodup
  simp only [List.map_cons, List.map_append, List.nodup_cons, List.nodup_append, List.mem_append, List.mem_cons, List.mem_map, not_or] at nd
  have hb : ∀ p ∈ (L, oL) :: fs, (hide s.heap (e :: L :: fs.map (·.1))).get? p.1 = none := fun p hp => by
    rw [get_hide, if_pos]
    rcases List.mem_cons.mp hp with rfl | hp
    · simp
    · exact List.mem_cons_of_mem _ (List.mem_cons_of_mem _ (List.mem_map_of_mem hp))
  have hF0 := hF
  obtain ⟨f1, f2, f3, f4⟩ := hF0
  have he0 : s.heap.get? e = some oe := D.has (e, oe) List.mem_cons_self
  have hall : ∀ p ∈ (L, oL) :: fs, s.heap.get? p.1 = some p.2 := fun p hp => D.has p (hin p hp)
  have hff : s.heap.FunFrames (hide s.heap (e :: L :: fs.map (·.1))) (env :: es) := funFrames (es := env :: es) (fs := (L, oL) :: fs) hF hall hb
  have hen : (hide s.heap (e :: L :: fs.map (·.1))).get? e = none := by rw [get_hide, if_pos List.mem_cons_self]
  have f2' : env.frame = some L := f2
  have hst : (hide s.heap (e :: L :: fs.map (·.1))).StaysIn s.heap := fun b o hbo => by
    rw [get_hide] at hbo
    split at hbo
    · cases hbo
    · exact hbo
  have fin : ∀ h', Heap.Left (hide s.heap (e :: L :: fs.map (·.1))) (env :: es) e oe.cls s.heap h' → Q () { s with heap := h' } := by
    intro h' hL
    obtain ⟨oe', vs', fs', a1, a2, a3, a4⟩ := own_left D f4 hL
    exact h h' oe' vs' fs' a1 a2 a3 a4
  exact wpAny_leaving_first hA hff f2' he0 hst hen hd h1 fin
/-- a stop at a call, the frames told -/
theorem call_segF {cf' : Cf} {ac' : Ac} {c' : Code} {d : Drawn} {os : OsState} {gens : Array GenState} (pre sm post : Led) (P : Result → Led → Prop) {es : List Env} (S : Sur n w.params A g) (hn : n ≤ 700) (hA : A.frames = some es) (p1 : callOf cf'.t = some (c', none)) (p2 : lowC cf' = true) (p3 : cf'.led = pre ++ sm ++ post)
    (hr : ∀ {A' : Around} {g' : Heap} {s' : Shared} {R' : Result → Shared → Prop}, Sur (n + 20) w.params A' g' → A'.frames = some (envsC cf' ++ es) → (∀ b o, g.get? b = some o → g'.get? b = some o) → (∀ q ∈ pre ++ post, g'.get? q.1 = some q.2) → Own g' s'.heap sm →
      (∀ (s'' : Shared) (r : Result) (sm' : Led), Own g' s''.heap sm' → P r sm' → s''.gens = s'.gens → s''.drawn = s'.drawn → s''.os = s'.os → R' r s'') → codeAny (model pw w) A' c' R' s')
    (h : ∀ r sm' sz2 tk2, P r sm' → Good (vOf pw w g A R d os) gens (after (some (cf', ac')) r (fun _ => pre ++ sm' ++ post) sz2 tk2)) : Good (vOf pw w g A R d os) gens cf' := by
  refine good_call p1 fun H D' hsz => ?_
  rw [p3] at D'
  have hm : ∀ p ∈ sm, p ∈ pre ++ sm ++ post := fun p hp => List.mem_append_left _ (List.mem_append_right _ hp)
  refine hr (Sur.child (cf := cf') S hn p2 (D'.ghost hm)) (frames_child hA cf') (D'.ghost hm) D'.rest D'.midG fun s'' r sm' D'' hP e1 e2 e3 => ?_
  obtain ⟨H'', gens'', d'', tk'', os''⟩ := s''
  dsimp only at e1 e2 e3 D''
  subst e1 e2 e3
  exact h r sm' H''.objs.size tk'' hP H'' (own_patchG D' D'') rfl
theorem func_ownE {prog : Program} {body : List Stmt} {env : Env} {s : Shared} (h : wpOwn (model prog w) A (.func body env) (execs body env) (fun f s' => R (.ok (.ret (match f with | .ret v => v | _ => .none))) s')
      (fun e s' => wpAny (model prog w) (A.under (.func body env)) (leaving env e) (fun _ s'' => R (.error e) s'') (fun e' s'' => R (.error e') s'') s') s) :
    codeAny (model prog w) A (.func body env) R s := by
  refine codeAny_of_own ?_
  show wpOwn _ _ _ (point >>= fun _ => (execs body env).onRaise (leaving env) >>= fun f => match f with | .ret v => ret v | _ => ret .none) _ _ s
  refine wpOwn_bind (wpOwn_of_wpAny (wpAny_point ?_))
  refine wpOwn_bind ?_
  intro Γ p hc hΓ
  rw [Sem.wp_onRaise]
  refine Sem.wp_mono _ Γ _ (fun f p' s' h' => ?_) (fun e p' s' h' => ?_) p s (h Γ p hc hΓ)
  · intro Γ p hc hΓ
    cases f <;> exact h'
  · exact Sem.wp_mono _ Γ _ (fun _ _ _ q => q) (fun _ _ _ q => q) _ _ (h' Γ p' (hc ▸ hΓ.in))
theorem good_raise {V : XV} {gens : Array GenState} {cf : Cf} {e : Value} (ht : cf.t = .raise e) (hk : cf.κ = .base)
    (h : ∀ H, Own V.h₀ H cf.led → H.objs.size = cf.sz → V.R₀ (.error e) ⟨H, gens, V.d, cf.tk, V.os⟩) : Good V gens cf := by
  obtain ⟨c, κ, t, led, sz, tk⟩ := cf
  dsimp only at ht hk
  subst ht hk
  intro H D hz
  exact PySem.W.X.y_raise _ _ _ _ _ _ _ _ _ (PySem.W.X.y_err _ _ _ (h H D hz))
end
end Mine
end
section
open PySem PySem.W PyProof.Rows PySem.Builtin PySem.Builtin.Str
set_option Elab.async false
set_option maxRecDepth 1000000
set_option maxHeartbeats 0
set_option linter.unusedVariables false
namespace Mine
open PySem.W.X (Kont Means aroundOf endOf okMark XV)
noncomputable def nxSt : Stmt := inCls (stAt 21) 10
noncomputable def nxEnv (z : Nat) : Env := { scope := fnScope nxSt, locals := z, globals := 3, cells := [], qual := "shlex.__next__.<locals>.", func := some 729, code := .ref 728, frame := some z }
noncomputable abbrev nxFc (z : Nat) : Code := .func (fnBody nxSt) (nxEnv z)
noncomputable def tokFr (p : Params) (x k k2 : Nat) : Obj := { cls := .type "frame", data := .dict [dE p "self" k (.ref x), dE p "token" k2 .none].toArray 2 }
noncomputable def hne0 : List Nat := [0, 0, 1, 1, 0, 9]
noncomputable def hne1 : List Nat := [1, 4, 0, 0, 0, 4, 0, 0, 0, 4, 0, 0, 0, 0, 4, 5, 0, 1]
noncomputable def hne2 : List Nat := [1, 1, 1, 1, 4, 0, 0, 0, 0, 4, 0, 0, 0, 4, 4, 0, 5, 0, 0, 0, 0, 0, 0, 0, 0, 0, 50, 1, 1, 0, 1, 1, 0, 0, 2, 2, 2, 2, 2, 2, 2, 2, 2, 2, 0, 0, 0, 0, 2]
theorem neA (w : World) (b₁ b₂ : Bool) (a : RtA) (u z tk : Nat) (i : Int) (sh : Obj) (fs : Led) : SegOk (PT (wB w b₁ b₂).params) 30 ⟨nxCode a.x, .base, (PT (wB w b₁ b₂).params).den (nxCode a.x), shLed (wB w b₁ b₂).params a u i sh ++ fs, z, tk⟩ hne0 prA [] []
    (.pure (.again (nxFc z)), .base, (z, selfFr (wB w b₁ b₂).params a.x tk) :: (shLed (wB w b₁ b₂).params a u i sh ++ fs)) := by
  kernel_rfl
noncomputable abbrev neCf (p : Params) (a : RtA) (u z k : Nat) (i : Int) (sh : Obj) (fs : Led) (sz tk : Nat) : Cf := ⟨nxFc z, .base, tF (exT (fnBody nxSt) (nxEnv z)), (z, selfFr p a.x k) :: (shLed p a u i sh ++ fs), sz, tk⟩
theorem neB (w : World) (b₁ b₂ : Bool) (a : RtA) (u z k sz tk : Nat) (i : Int) (st tok : Value) (ln : Int) (lt : Nat) (fs : Led) : SegOk (PT (wB w b₁ b₂).params) 60 (neCf (wB w b₁ b₂).params a u z k i (shDict (wB w b₁ b₂).params a st tok ln lt) fs sz tk) hne1 prB [] []
    (some (gtCode a.x, none), true, (z, selfFr (wB w b₁ b₂).params a.x k) :: (shLed (wB w b₁ b₂).params a u i (shDict (wB w b₁ b₂).params a st tok ln lt) ++ fs)) := by
  kernel_rfl
theorem neC (w : World) (b₁ b₂ : Bool) (a : RtA) (u u2 z k sz tk sz2 tk2 lt lt2 : Nat) (i i2 : Int) (st tok st2 tok2 : Value) (ln ln2 : Int) (fs : Led) :
    SegOk (PT (wB w b₁ b₂).params) 120 (after (runC (PT (wB w b₁ b₂).params) 60 (neCf (wB w b₁ b₂).params a u z k i (shDict (wB w b₁ b₂).params a st tok ln lt) fs sz tk) { hs := hne1 }) (.ok (.ret .none)) (fun _ => (z, selfFr (wB w b₁ b₂).params a.x k) :: (shLed (wB w b₁ b₂).params a u2 i2 (shDict (wB w b₁ b₂).params a st2 tok2 ln2 lt2) ++ fs)) sz2 tk2) hne2 prA [] []
    (.raise (.ref (sz2 + 1)), .base, [(sz2 + 2, nilO), (sz2 + 1, stopO (sz2 + 2)), (sz2, nilO), (z, tokFr (wB w b₁ b₂).params a.x k tk2)] ++ shLed (wB w b₁ b₂).params a u2 i2 (shDict (wB w b₁ b₂).params a st2 tok2 ln2 lt2) ++ fs) := by
  cases b₁ <;> kernel_rfl
/-- list.__init__ and its loop -/
noncomputable abbrev liCode (l x : Addr) : Code := .call (.builtin "list.__init__") ⟨[.ref l, .ref x], []⟩
noncomputable abbrev lpCode (l x : Addr) : Code := .builtin "list.extend.loop" ⟨[.ref l, .ref x, .none], []⟩
noncomputable def hlt0 : List Nat := [4, 0, 0, 0, 0, 1]
noncomputable def hlt1 : List Nat := [1, 1, 1, 9]
noncomputable def hlte : List Nat := [2]
noncomputable abbrev piT : Value → Sem Value := PySem.W.Fast.tw8711993805878244202
noncomputable abbrev lhT : Value → Sem Bool := PySem.W.Fast.tw15112759502256325868
noncomputable abbrev liB (l x : Addr) : Code := .builtin "list.__init__" ⟨[.ref l, .ref x], []⟩
noncomputable def hpi : List Nat := [4, 0, 0, 0, 4, 0, 0, 0, 0, 0, 0, 0, 1, 1, 0, 0, 1, 5, 0, 0, 0]
noncomputable def hlh : List Nat := [4, 0, 0, 0, 4, 0, 0, 0, 0]
theorem piS (w : World) (b₁ b₂ : Bool) (a : RtA) (u z tk lt l : Nat) (i : Int) (st tok : Value) (ln : Int) (lo : Obj) (fs : Led) : SegOk (PT (wB w b₁ b₂).params) 80 ⟨liB l a.x, .base, tV (piT (.ref a.x)), (l, lo) :: (shLed (wB w b₁ b₂).params a u i (shDict (wB w b₁ b₂).params a st tok ln lt) ++ fs), z, tk⟩ hpi (fun cf => (cf.t, cf.κ, cf.led.drop 1)) [] []
    (.pure (.done (.ret (.ref a.x))), .base, (l, lo) :: (shLed (wB w b₁ b₂).params a u i (shDict (wB w b₁ b₂).params a st tok ln lt) ++ fs)) := by
  cases b₁ <;> kernel_rfl
theorem lhS (w : World) (b₁ b₂ : Bool) (a : RtA) (u z tk lt l : Nat) (i : Int) (st tok : Value) (ln : Int) (lo : Obj) (fs : Led) : SegOk (PT (wB w b₁ b₂).params) 80 ⟨liB l a.x, .base, PySem.W.R.bindR (lhT (.ref a.x)) (fun b => .pure (.done (.ret (.bool b)))), (l, lo) :: (shLed (wB w b₁ b₂).params a u i (shDict (wB w b₁ b₂).params a st tok ln lt) ++ fs), z, tk⟩ hlh prA [] []
    (.pure (.done (.ret (.bool true))), .base, (l, lo) :: (shLed (wB w b₁ b₂).params a u i (shDict (wB w b₁ b₂).params a st tok ln lt) ++ fs)) := by
  kernel_rfl
noncomputable abbrev ltCf (p : Params) (a : RtA) (u l : Nat) (i : Int) (sh lo : Obj) (fs : Led) (sz tk : Nat) : Cf := ⟨lpCode l a.x, .base, (PT p).den (lpCode l a.x), (l, lo) :: (shLed p a u i sh ++ fs), sz, tk⟩
theorem ltA (w : World) (b₁ b₂ : Bool) (a : RtA) (u sz tk l : Nat) (i : Int) (sh lo : Obj) (fs : Led) : SegOk (PT (wB w b₁ b₂).params) 20 (ltCf (wB w b₁ b₂).params a u l i sh lo fs sz tk) hlt0 (fun cf => (callOf cf.t, lowC cf, envsC cf, cf.led)) [] []
    (some (nxCode a.x, none), true, [], (l, lo) :: (shLed (wB w b₁ b₂).params a u i sh ++ fs)) := by
  kernel_rfl
theorem ltB0 (w : World) (b₁ b₂ : Bool) (a : RtA) (u u2 sz tk sz2 tk2 l e tv : Nat) (i i2 : Int) (sh lo sh2 : Obj) (fs : Led) (T : Str) (L : List Value) (hL : L.length ≤ 11) : SegOk (PT (wB w b₁ b₂).params) 20 (after (runC (PT (wB w b₁ b₂).params) 20 (ltCf (wB w b₁ b₂).params a u l i sh lo fs sz tk) { hs := hlt0 }) (.ok (.ret (.str T tv))) (fun _ => (l, lstE L e) :: (shLed (wB w b₁ b₂).params a u2 i2 sh2 ++ fs)) sz2 tk2) hlt1 prA [] []
    (.pure (.again (lpCode l a.x)), .base, (l, lstE (L ++ [.str T tv]) (e + 1)) :: (shLed (wB w b₁ b₂).params a u2 i2 sh2 ++ fs)) := by
  rcases L with _ | ⟨_, L⟩
  · kernel_rfl
  rcases L with _ | ⟨_, L⟩
  · kernel_rfl
  rcases L with _ | ⟨_, L⟩
  · kernel_rfl
  rcases L with _ | ⟨_, L⟩
  · kernel_rfl
  rcases L with _ | ⟨_, L⟩
  · kernel_rfl
  rcases L with _ | ⟨_, L⟩
  · kernel_rfl
  rcases L with _ | ⟨_, L⟩
  · kernel_rfl
  rcases L with _ | ⟨_, L⟩
  · kernel_rfl
  rcases L with _ | ⟨_, L⟩
  · kernel_rfl
  rcases L with _ | ⟨_, L⟩
  · kernel_rfl
  rcases L with _ | ⟨_, L⟩
  · kernel_rfl
  rcases L with _ | ⟨_, L⟩
  · kernel_rfl
  simp only [List.length_cons] at hL
  omega
theorem ltE_ (w : World) (b₁ b₂ : Bool) (a : RtA) (u sz tk sz2 tk2 l ee : Nat) (i : Int) (sh lo lo2 : Obj) (fs rest : Led) (dd : Option Addr) (vs : Array Value) (sl : Array (Option Value)) : SegOk (PT (wB w b₁ b₂).params) 20 (after (runC (PT (wB w b₁ b₂).params) 20 (ltCf (wB w b₁ b₂).params a u l i sh lo fs sz tk) { hs := hlt0 }) (.error (.ref ee)) (fun _ => (l, lo2) :: (ee, ⟨.type "StopIteration", dd, .fields vs, sl⟩) :: rest) sz2 tk2) hlte prA [] []
    (.pure (.done (.ret .none)), .base, (l, lo2) :: (ee, ⟨.type "StopIteration", dd, .fields vs, sl⟩) :: rest) := by
  kernel_rfl
end Mine
end
section
open PySem PySem.W PyProof.Rows PySem.Builtin PySem.Builtin.Str
set_option Elab.async false
set_option maxRecDepth 100000
set_option maxHeartbeats 1000000
set_option linter.unusedVariables false
namespace Mine
open PySem.W.X (Kont Means aroundOf endOf okMark XV)
theorem nth_getElem : ∀ (l : Led) (k : Nat), nth l k = l[k]?
  | [], _ => by simp [nth]
  | x :: l, 0 => rfl
  | x :: l, k + 1 => by simp [nth, nth_getElem l k]
theorem nth_inj {l : Led} (nd : (l.map (·.1)).Nodup) {i j : Nat} {p q : Addr × Obj} (hi : nth l i = some p) (hj : nth l j = some q) (e : p.1 = q.1) : i = j := by
  rw [nth_getElem] at hi hj
  have h1 : (l.map (·.1))[i]? = some p.1 := by rw [List.getElem?_map, hi]; rfl
  have h2 : (l.map (·.1))[j]? = some q.1 := by rw [List.getElem?_map, hj]; rfl
  rw [← e] at h2
  have hl : i < (l.map (·.1)).length := (List.getElem?_eq_some_iff.mp h1).1
  exact (List.getElem?_inj hl nd).mp (h1.trans h2.symm)
/-- some of a ledger's first objects, in another order, and the rest from a place on -/
theorem Own.pickN {g h : Heap} {led sel fs : Led} {n : Nat} {ks : List Nat} (D : Own g h led) (hd : led.drop n = fs) (hk : ks.map (nth led) = sel.map some) (hn : ∀ k ∈ ks, k < n) (nd : ks.Nodup) : Own g h (sel ++ fs) := by
  have mem : ∀ p ∈ sel, ∃ k ∈ ks, nth led k = some p := fun p hp => by
    have : some p ∈ sel.map some := List.mem_map_of_mem hp
    rw [← hk] at this
    obtain ⟨k, hk, e⟩ := List.mem_map.mp this
    exact ⟨k, hk, e⟩
  have fmem : ∀ p ∈ fs, ∃ j, n ≤ j ∧ nth led j = some p := fun p hp => by
    subst hd
    obtain ⟨i, hi, e⟩ := List.mem_iff_getElem.mp hp
    refine ⟨n + i, by omega, ?_⟩
    rw [nth_getElem, ← List.getElem?_drop, List.getElem?_eq_getElem hi, e]
  refine D.sub (fun p hp => ?_) ?_
  · rcases List.mem_append.mp hp with hp | hp
    · obtain ⟨k, _, e⟩ := mem p hp
      exact nth_mem _ _ e
    · obtain ⟨k, _, e⟩ := fmem p hp
      exact nth_mem _ _ e
  · rw [List.map_append, List.nodup_append]
    refine ⟨?_, ?_, ?_⟩
    · clear mem hn
      induction ks generalizing sel with
      | nil =>
        cases sel with
        | nil => exact .nil
        | cons _ _ => simp at hk
      | cons k ks ih =>
        cases sel with
        | nil => simp at hk
        | cons p sel =>
          simp only [List.map_cons, List.cons.injEq] at hk
          rw [List.nodup_cons] at nd
          rw [List.map_cons, List.nodup_cons]
          refine ⟨fun hm => ?_, ih hk.2 nd.2⟩
          obtain ⟨q, hq, e⟩ := List.mem_map.mp hm
          have : some q ∈ sel.map some := List.mem_map_of_mem hq
          rw [← hk.2] at this
          obtain ⟨j, hj, ej⟩ := List.mem_map.mp this
          have := nth_inj D.nodup ej hk.1 e
          exact nd.1 (this ▸ hj)
    · subst hd
      exact List.Nodup.sublist ((List.drop_sublist _ _).map _) D.nodup
    · intro a ha b hb e
      obtain ⟨p, hp, rfl⟩ := List.mem_map.mp ha
      obtain ⟨q, hq, rfl⟩ := List.mem_map.mp hb
      obtain ⟨k, hk, ek⟩ := mem p hp
      obtain ⟨j, hj, ej⟩ := fmem q hq
      have := nth_inj D.nodup ek ej e
      have := hn k hk
      omega
section
variable {w : World} {b₁ b₂ : Bool} {A : Around} {g : Heap} {n : Nat} {R : Result → Shared → Prop}
theorem nx_kind (z : Nat) : (nxEnv z).scope.kind ≠ .module := by
  intro h
  have e : (nxEnv z).scope.kind = .function := by kernel_rfl
  rw [e] at h
  cases h
theorem nx_end {a : RtA} {s : Shared} {u k lt tt : Nat} {ln : Int} {es : List Env} {fs : Led} (S : Sur n (wB w b₁ b₂).params A g) (hn : n + 80 ≤ 700) (hA : A.frames = some es) (hF : FrO es fs) (hB : a.B.length ≤ sizeLine)
    (D : Own g s.heap (shLed (wB w b₁ b₂).params a u (k : Int) (shDict (wB w b₁ b₂).params a .none (.str ⟨#[]⟩ tt) ln lt) ++ fs)) (hd : a.B.cps.toList.drop k = [])
    (h : ∀ (s' : Shared) (e u' tt' : Nat) (dd : Option Addr) (vs : Array Value) (sl : Array (Option Value)) (fs' : Led), SlO fs fs' →
      Own g s'.heap ((e, ⟨.type "StopIteration", dd, .fields vs, sl⟩) :: (shLed (wB w b₁ b₂).params a u' (k : Int) (shDict (wB w b₁ b₂).params a .none (.str ⟨#[]⟩ tt') ln lt) ++ fs')) →
      s'.gens = s.gens → s'.drawn = s.drawn → s'.os = s.os → R (.error (.ref e)) s') :
    codeAny (model pw (wB w b₁ b₂)) A (nxCode a.x) R s := by
  refine code_good D ?_
  obtain ⟨cf0, _, _, hp, G⟩ := seg2 (gens := s.gens) (S.par (by omega) (R₀ := R) (d := s.drawn) (os := s.os)) (neA w b₁ b₂ a u s.heap.objs.size s.toks k (shDict (wB w b₁ b₂).params a .none (.str ⟨#[]⟩ tt) ln lt) fs) rfl
  simp only [prA, Prod.mk.injEq] at hp
  obtain ⟨q1, q2, q3⟩ := hp
  refine G (good_again q1 q2 rfl fun H0 D0 => func_ownE ?_)
  rw [q3] at D0
  generalize hz : s.heap.objs.size = z at *
  generalize hk : s.toks = kk at *
  refine ex_good D0 ?_
  obtain ⟨cf1, ac1, er1, hp, G⟩ := seg2 (gens := s.gens) (S.par (by omega) (d := s.drawn) (os := s.os)) (neB w b₁ b₂ a u z kk H0.objs.size cf0.tk k .none (.str ⟨#[]⟩ tt) ln lt fs) rfl
  simp only [prB, Prod.mk.injEq] at hp
  obtain ⟨p1, p2, p3⟩ := hp
  refine G (call_segG (ac' := ac1) [(z, selfFr (wB w b₁ b₂).params a.x kk)] (shLed (wB w b₁ b₂).params a u (k : Int) (shDict (wB w b₁ b₂).params a .none (.str ⟨#[]⟩ tt) ln lt)) fs (Ended (wB w b₁ b₂).params a k ln lt) S (by omega) p1 p2 (by rw [p3]; rfl) ?_ ?_)
  · intro A' g' s' R' S' hk hr D' h'
    exact gt_end S' (by omega) hB D' hd fun s'' r sm' D'' he e1 e2 e3 => h' s'' r sm' D'' he e1 e2 e3
  · rintro r sm' sz2 tk2 ⟨u', tt', rfl, rfl⟩
    rw [← er1]
    obtain ⟨cf2, _, _, hp, G⟩ := seg2 (gens := s.gens) (S.par (by omega) (d := s.drawn) (os := s.os)) (neC w b₁ b₂ a u u' z kk H0.objs.size cf0.tk sz2 tk2 lt lt k k .none (.str ⟨#[]⟩ tt) .none (.str ⟨#[]⟩ tt') ln ln fs) rfl
    simp only [prA, Prod.mk.injEq] at hp
    obtain ⟨q1, q2, q3⟩ := hp
    refine G (good_raise q1 q2 fun H2 D2 _ => ?_)
    rw [q3] at D2
    have D3 : Own g H2 (([(sz2 + 1, stopO (sz2 + 2))] ++ shLed (wB w b₁ b₂).params a u' (k : Int) (shDict (wB w b₁ b₂).params a .none (.str ⟨#[]⟩ tt') ln lt) ++ [(z, tokFr (wB w b₁ b₂).params a.x kk tk2)]) ++ fs) :=
      D2.pickN (n := 10) (ks := [1, 4, 5, 6, 7, 8, 9, 3]) rfl rfl (by decide) (by decide)
    have hA2 : (A.under (nxFc z)).frames = some (nxEnv z :: es) := by
      show pushEnvs (nxFc z).envs A.frames = _
      rw [hA]; rfl
    have D4 : Own g H2 ((sz2 + 1, stopO (sz2 + 2)) :: (shLed (wB w b₁ b₂).params a u' (k : Int) (shDict (wB w b₁ b₂).params a .none (.str ⟨#[]⟩ tt') ln lt) ++ (z, tokFr (wB w b₁ b₂).params a.x kk tk2) :: fs)) := D3
    refine leave_own (s := ⟨H2, s.gens, s.drawn, cf2.tk, s.os⟩) hA2 (L := z) (oL := tokFr (wB w b₁ b₂).params a.x kk tk2) (fs := fs) ⟨nx_kind z, rfl, (fun vs q => by cases q), hF⟩ (oe := stopO (sz2 + 2)) rfl rfl D4 fun H3 oe' vs' fs' hc hd' hs D5 => ?_
    obtain ⟨cl, dd, dt, sl⟩ := oe'
    dsimp only at hc hd'
    subst hc hd'
    exact h ⟨H3, s.gens, s.drawn, cf2.tk, s.os⟩ _ u' tt' dd vs' sl fs' hs D5 rfl rfl rfl
end
end Mine
end
section
open PySem PySem.W PyProof.Rows PySem.Builtin PySem.Builtin.Str
set_option Elab.async false
set_option maxRecDepth 100000
set_option maxHeartbeats 1000000
set_option linter.unusedVariables false
namespace Mine
open PySem.W.X (Kont Means aroundOf endOf okMark XV)
/-- values that are these words -/
noncomputable def StrsOf : List Value → List (List Nat) → Prop
  | [], [] => True
  | v :: vs, w :: ws => (∃ t, v = .str ⟨⟨w⟩⟩ t) ∧ StrsOf vs ws
  | _, _ => False
theorem StrsOf.snoc : ∀ {vs : List Value} {ws : List (List Nat)} {w : List Nat} {t : Nat}, StrsOf vs ws → StrsOf (vs ++ [.str ⟨⟨w⟩⟩ t]) (ws ++ [w])
  | [], [], w, t, _ => ⟨⟨t, rfl⟩, trivial⟩
  | v :: vs, x :: ws, w, t, h => ⟨h.1, h.2.snoc⟩
  | [], _ :: _, _, _, h => h.elim
  | _ :: _, [], _, _, h => h.elim
theorem StrsOf.len : ∀ {vs : List Value} {ws : List (List Nat)}, StrsOf vs ws → vs.length = ws.length
  | [], [], _ => rfl
  | v :: vs, x :: ws, h => by rw [List.length_cons, List.length_cons, h.2.len]
  | [], _ :: _, h => h.elim
  | _ :: _, [], h => h.elim
noncomputable def textOf : List (List Nat) → List Nat
  | [] => []
  | [w] => quoteL w
  | w :: ws => quoteL w ++ 32 :: textOf ws
section
variable {w : World} {b₁ b₂ : Bool} {A : Around} {g : Heap} {n : Nat} {R : Result → Shared → Prop}
theorem ext_end {a : RtA} {s : Shared} {u k lt tt l : Nat} {ln : Int} {lo : Obj} {es : List Env} {fs : Led} (S : Sur n (wB w b₁ b₂).params A g) (hn : n + 100 ≤ 700) (hA : A.frames = some es) (hF : FrO es fs) (hB : a.B.length ≤ sizeLine)
    (D : Own g s.heap ((l, lo) :: (shLed (wB w b₁ b₂).params a u (k : Int) (shDict (wB w b₁ b₂).params a .none (.str ⟨#[]⟩ tt) ln lt) ++ fs))) (hd : a.B.cps.toList.drop k = [])
    (h : ∀ (s' : Shared) (rest fs' : Led), SlO fs fs' → Own g s'.heap ((l, lo) :: (rest ++ fs')) → s'.gens = s.gens → s'.drawn = s.drawn → s'.os = s.os → R (.ok (.ret .none)) s') :
    codeAny (model pw (wB w b₁ b₂)) A (lpCode l a.x) R s := by
  refine code_good D ?_
  obtain ⟨cf1, ac1, er1, hp, G⟩ := seg2 (gens := s.gens) (S.par (by omega) (R₀ := R) (d := s.drawn) (os := s.os)) (ltA w b₁ b₂ a u s.heap.objs.size s.toks l k (shDict (wB w b₁ b₂).params a .none (.str ⟨#[]⟩ tt) ln lt) lo fs) rfl
  simp only [Prod.mk.injEq] at hp
  obtain ⟨p1, p2, p3, p4⟩ := hp
  refine G (call_segF (ac' := ac1) [(l, lo)] (shLed (wB w b₁ b₂).params a u (k : Int) (shDict (wB w b₁ b₂).params a .none (.str ⟨#[]⟩ tt) ln lt) ++ fs) []
    (fun r sm => ∃ e dd vs sl rest fs', SlO fs fs' ∧ r = .error (.ref e) ∧ sm = (e, (⟨.type "StopIteration", dd, .fields vs, sl⟩ : Obj)) :: (rest ++ fs')) S (by omega) hA p1 p2 (by rw [p4]; simp) ?_ ?_)
  · intro A' g' s' R' S' hA' hk hr D' h'
    rw [p3, List.nil_append] at hA'
    exact nx_end S' (by omega) hA' hF hB D' hd fun s'' e u' tt' dd vs sl fs' hs D'' e1 e2 e3 => h' s'' _ _ D'' ⟨e, dd, vs, sl, _, fs', hs, rfl, rfl⟩ e1 e2 e3
  · rintro r sm' sz2 tk2 ⟨e, dd, vs, sl, rest, fs', hs, rfl, rfl⟩
    rw [← er1]
    obtain ⟨cf2, _, _, hp, G⟩ := seg2 (gens := s.gens) (S.par (by omega) (R₀ := R) (d := s.drawn) (os := s.os)) (ltE_ w b₁ b₂ a u s.heap.objs.size s.toks sz2 tk2 l e k (shDict (wB w b₁ b₂).params a .none (.str ⟨#[]⟩ tt) ln lt) lo lo fs (rest ++ fs' ++ []) dd vs sl) rfl
    simp only [prA, Prod.mk.injEq] at hp
    obtain ⟨q1, q2, q3⟩ := hp
    refine G (good_ret q1 q2 fun H D3 _ => ?_)
    rw [q3, List.append_nil] at D3
    refine h ⟨H, s.gens, s.drawn, cf2.tk, s.os⟩ ((e, ⟨.type "StopIteration", dd, .fields vs, sl⟩) :: rest) fs' hs D3 rfl rfl rfl
theorem ext_loop {a : RtA} {l : Nat} {es : List Env} {fs : Led} (S : Sur n (wB w b₁ b₂).params A g) (hn : n + 100 ≤ 700) (hA : A.frames = some es) (hF : FrO es fs) (hB : a.B.length ≤ sizeLine) : ∀ (ws : List (List Nat)), (∀ w ∈ ws, w.length ≤ 6) → ws ≠ [] →
    ∀ (k u lt ts tt e : Nat) (ln : Int) (L : List Value) (done : List (List Nat)) (s : Shared), a.B.cps.toList.drop k = textOf ws → L.length + ws.length ≤ 11 → StrsOf L done →
    Own g s.heap ((l, lstE L e) :: (shLed (wB w b₁ b₂).params a u (k : Int) (shDict (wB w b₁ b₂).params a (.str (sg 32) ts) (.str ⟨#[]⟩ tt) ln lt) ++ fs)) →
    (∀ (s' : Shared) (L' : List Value) (e' : Nat) (rest fs' : Led), StrsOf L' (done ++ ws) → SlO fs fs' → Own g s'.heap ((l, lstE L' e') :: (rest ++ fs')) → s'.gens = s.gens → s'.drawn = s.drawn → s'.os = s.os → R (.ok (.ret .none)) s') →
    codeAny (model pw (wB w b₁ b₂)) A (lpCode l a.x) R s := by
  intro ws
  induction ws with
  | nil => intro _ q; exact absurd rfl q
  | cons x ws ih =>
    intro h6 _ k u lt ts tt e ln L done s hd hl hS D h
    refine code_good D ?_
    obtain ⟨cf1, ac1, er1, hp, G⟩ := seg2 (gens := s.gens) (S.par (by omega) (R₀ := R) (d := s.drawn) (os := s.os)) (ltA w b₁ b₂ a u s.heap.objs.size s.toks l k (shDict (wB w b₁ b₂).params a (.str (sg 32) ts) (.str ⟨#[]⟩ tt) ln lt) (lstE L e) fs) rfl
    simp only [Prod.mk.injEq] at hp
    obtain ⟨p1, p2, p3, p4⟩ := hp
    have hx6 := h6 x List.mem_cons_self
    have hlen : (a.B.cps.toList.drop k).length ≤ sizeLine := by
      have : a.B.length = a.B.cps.toList.length := rfl
      rw [List.length_drop]; omega
    obtain ⟨fin, rest, hw, hrest⟩ : ∃ fin rest, Word a.B k x fin rest ∧ ((ws = [] ∧ fin = .eof ∧ rest = []) ∨ (ws ≠ [] ∧ fin = .sp ∧ rest = textOf ws)) := by
      cases ws with
      | nil =>
        obtain ⟨q, e1, e2⟩ := autoW_eof x
        exact ⟨.eof, [], ⟨⟨q, by rw [hd]; exact e1, e2⟩, hlen, hx6⟩, .inl ⟨rfl, rfl, rfl⟩⟩
      | cons y ws =>
        obtain ⟨q, e1, e2⟩ := autoW_sp x (textOf (y :: ws))
        exact ⟨.sp, textOf (y :: ws), ⟨⟨q, by rw [hd]; exact e1, e2⟩, hlen, hx6⟩, .inr ⟨by simp, rfl, rfl⟩⟩
    refine G (call_segG (ac' := ac1) [(l, lstE L e)] (shLed (wB w b₁ b₂).params a u (k : Int) (shDict (wB w b₁ b₂).params a (.str (sg 32) ts) (.str ⟨#[]⟩ tt) ln lt)) fs (Took (wB w b₁ b₂).params a x fin rest) S (by omega) p1 p2 (by rw [p4]; rfl) ?_ ?_)
    · intro A' g' s' R' S' hk hr D' h'
      exact nx_word S' (by omega) hB D' hw fun s'' r sm' D'' ht e1 e2 e3 => h' s'' r sm' D'' ht e1 e2 e3
    · rintro r sm' sz2 tk2 ⟨k', u', lt', ts', tt', tr, ln', rfl, rfl, hd'⟩
      rw [← er1]
      simp only [List.length_cons] at hl
      obtain ⟨cf2, _, _, hp, G⟩ := seg2 (gens := s.gens) (S.par (by omega) (R₀ := R) (d := s.drawn) (os := s.os)) (ltB0 w b₁ b₂ a u u' s.heap.objs.size s.toks sz2 tk2 l e tr k k' (shDict (wB w b₁ b₂).params a (.str (sg 32) ts) (.str ⟨#[]⟩ tt) ln lt) (lstE L e) (shDict (wB w b₁ b₂).params a (fin.val ts') (.str ⟨#[]⟩ tt') ln' lt') fs ⟨⟨x⟩⟩ L (by omega)) rfl
      simp only [prA, Prod.mk.injEq] at hp
      obtain ⟨q1, q2, q3⟩ := hp
      refine G (good_again q1 q2 (by kernel_rfl) fun H D3 => ?_)
      rw [q3] at D3
      have hS' : StrsOf (L ++ [.str ⟨⟨x⟩⟩ tr]) (done ++ [x]) := hS.snoc
      rcases hrest with ⟨rfl, rfl, rfl⟩ | ⟨hne, rfl, rfl⟩
      · refine ext_end (s := ⟨H, s.gens, s.drawn, cf2.tk, s.os⟩) S hn hA hF hB D3 hd' fun s' rest fs' hs D4 e1 e2 e3 => ?_
        exact h s' _ _ rest fs' hS' hs D4 e1 e2 e3
      · refine ih (fun w hw => h6 w (List.mem_cons_of_mem _ hw)) hne k' u' lt' ts' tt' (e + 1) ln' (L ++ [.str ⟨⟨x⟩⟩ tr]) (done ++ [x]) ⟨H, s.gens, s.drawn, cf2.tk, s.os⟩ hd' (by simp only [List.length_append, List.length_cons, List.length_nil]; omega) hS' D3 fun s' L' e' rest fs' hL hs D4 e1 e2 e3 => ?_
        exact h s' L' e' rest fs' (by rw [List.append_assoc] at hL; exact hL) hs D4 e1 e2 e3
end
end Mine
end
section
open PySem PySem.W PyProof.Rows PySem.Builtin PySem.Builtin.Str
set_option Elab.async false
set_option maxRecDepth 100000
set_option maxHeartbeats 1000000
set_option linter.unusedVariables false
namespace Mine
open PySem.W.X (Kont Means aroundOf endOf okMark XV)
section
variable {w : World} {b₁ b₂ : Bool} {A : Around} {g : Heap} {n : Nat} {R : Result → Shared → Prop}
theorem bool_good {c : Code} {led : Led} {s : Shared} {t : Sem Bool} {Q : Bool → Shared → Prop} {E : Value → Shared → Prop} (D : Own g s.heap led)
    (G : Good (vOf pw w g A (fun r s' => match r with | .ok (.ret (.bool v)) => Q v s' | .ok _ => False | .error e => E e s') s.drawn s.os) s.gens ⟨c, .base, PySem.W.R.bindR t (fun b => .pure (.done (.ret (.bool b)))), led, s.heap.objs.size, s.toks⟩) : wpOwn (model pw w) A c t Q E s := by
  have z := G s.heap D rfl
  intro Γ p hc hΓ
  have z' := z Γ p hc hΓ
  have e : (PySem.W.R.bindR t (fun b => .pure (.done (.ret (.bool b)))) : Sem Fin) = t >>= fun v => pure (.done (.ret (.bool v))) := by
    rw [← PySem.W.R.bindR_eq]; rfl
  dsimp only at z'
  rw [e, Sem.wp_bind'] at z'
  exact Sem.wp_mono _ Γ t (fun a p' s' h' => h') (fun _ _ _ h' => h') p s z'
theorem own_holding {c : Code} {α : Type} {vs : List Value} {m : Sem α} {Q : α → Shared → Prop} {E : Value → Shared → Prop} {M : Model} {s : Shared} (h : wpOwn M A c m Q E s) : wpOwn M A c (holding vs m) Q E s := fun Γ p hc hΓ => by
  rw [Sem.wp_holding]; exact h Γ p hc hΓ
theorem li_code {a : RtA} {l u lt ts tt k : Nat} {ln : Int} {es : List Env} {fs : Led} {s : Shared} {ws : List (List Nat)} (S : Sur n (wB w b₁ b₂).params A g) (hn : n + 120 ≤ 700) (hA : A.frames = some es) (hF : FrO es fs) (hB : a.B.length ≤ sizeLine)
    (h6 : ∀ w ∈ ws, w.length ≤ 6) (hne : ws ≠ []) (hl : ws.length ≤ 11) (hd : a.B.cps.toList.drop k = textOf ws)
    (D : Own g s.heap ((l, lstE [] 0) :: (shLed (wB w b₁ b₂).params a u (k : Int) (shDict (wB w b₁ b₂).params a (.str (sg 32) ts) (.str ⟨#[]⟩ tt) ln lt) ++ fs)))
    (h : ∀ (s' : Shared) (L' : List Value) (e' : Nat) (rest fs' : Led), StrsOf L' ws → SlO fs fs' → Own g s'.heap ((l, lstE L' e') :: (rest ++ fs')) → s'.gens = s.gens → s'.drawn = s.drawn → s'.os = s.os → R (.ok (.ret .none)) s') :
    codeAny (model pw (wB w b₁ b₂)) A (liCode l a.x) R s := by
  have ho : s.heap.get? l = some (lstE [] 0) := D.has (l, lstE [] 0) List.mem_cons_self
  have hx : s.heap.get? a.x = some (shInst a.dx) := D.has (a.x, shInst a.dx) (by simp [shLed])
  have hlx : l ≠ a.x := by
    have := D.nodup
    simp only [List.map_cons, List.nodup_cons, shLed, List.cons_append, List.mem_cons, not_or] at this
    exact this.1.2.2.1
  refine codeAny_call_builtin_own (by kernel_rfl) F.entry_list_init (F.slot_list_init.check _ _ _ _ _ _ _ _ ⟨_, ho, rfl⟩ (F.args_list_init_2 _ _) ?_)
  show wpOwn _ _ _ (do let old ← Builtin.List.listItems (.ref l); Builtin.List.listUpdate (.ref l) (fun _ => #[]); letGo old.toList.reverse; Builtin.List.listExtendWith (.ref l) (.ref a.x) .none) _ _ s
  refine wpOwn_bind (wpOwn_of_wpAny ?_)
  unfold Builtin.List.listItems
  refine wpAny_bind (wpAny_seqItems ho rfl (wpAny_pure ?_))
  refine wpOwn_bind (wpOwn_of_wpAny ?_)
  show wpAny _ _ (updateSeq l (fun _ => #[])) _ _ s
  refine wpAny_updateSeq ho rfl ?_
  have D1 := D.update (j := 0) (f := Obj.mapSeq (fun _ => (#[] : Array Value))) rfl rfl
  have D1' : Own g (s.heap.update l (Obj.mapSeq (fun _ => (#[] : Array Value)))) ((l, lstE [] 0) :: (shLed (wB w b₁ b₂).params a u (k : Int) (shDict (wB w b₁ b₂).params a (.str (sg 32) ts) (.str ⟨#[]⟩ tt) ln lt) ++ fs)) := D1
  generalize s.heap.update l (Obj.mapSeq (fun _ => (#[] : Array Value))) = H1 at D1'
  refine wpOwn_bind (wpOwn_of_wpAny (wpAny_letGo ?_))
  have hx1 : H1.get? a.x = some (shInst a.dx) := D1'.has (a.x, shInst a.dx) (by simp [shLed])
  unfold Builtin.List.listExtendWith
  refine wpOwn_bind (wpOwn_of_wpAny (wpAny_typeOf_ref (s := ⟨H1, s.gens, s.drawn, s.toks, s.os⟩) hx1 ?_))
  have hsr : (Builtin.List.listSameRef (.ref l) (.ref a.x) || (shInst a.dx).cls == .type "list" || (shInst a.dx).cls == .type "tuple") = false := by
    have : Builtin.List.listSameRef (.ref l) (.ref a.x) = false := by
      show (l == a.x) = false
      simpa using hlx
    rw [this]; rfl
  rw [hsr]
  simp only [Bool.false_eq_true, if_false]
  refine wpOwn_bind ?_
  rw [show pyIter = piT from by unfold piT; rw [← PySem.W.Fast.te8711993805878244202]]
  refine val_good (s := ⟨H1, s.gens, s.drawn, s.toks, s.os⟩) D1' ?_
  obtain ⟨cf2, _, _, hp, G⟩ := seg2 (gens := s.gens) (S.par (by omega) (d := s.drawn) (os := s.os)) (piS w b₁ b₂ a u H1.objs.size s.toks lt l k (.str (sg 32) ts) (.str ⟨#[]⟩ tt) ln (lstE [] 0) fs) rfl
  simp only [Prod.mk.injEq] at hp
  obtain ⟨q1, q2, q3⟩ := hp
  refine G (good_ret q1 q2 fun H2 D2 _ => ?_)
  have D2' := D2.drop q3
  dsimp only
  refine wpOwn_bind (own_holding ?_)
  rw [show Builtin.List.listLengthHint = lhT from by unfold lhT; rw [← PySem.W.Fast.te15112759502256325868]]
  refine bool_good (s := ⟨H2, s.gens, s.drawn, cf2.tk, s.os⟩) D2' ?_
  obtain ⟨cf3, _, _, hp, G⟩ := seg2 (gens := s.gens) (S.par (by omega) (d := s.drawn) (os := s.os)) (lhS w b₁ b₂ a u H2.objs.size cf2.tk lt l k (.str (sg 32) ts) (.str ⟨#[]⟩ tt) ln (lstE [] 0) fs) rfl
  simp only [prA, Prod.mk.injEq] at hp
  obtain ⟨q1, q2, q3⟩ := hp
  refine G (good_ret q1 q2 fun H3 D3 _ => ?_)
  rw [q3] at D3
  dsimp only
  rw [Bool.true_or]
  simp only [if_true]
  refine wpOwn_bind (wpOwn_of_wpAny (wpAny_rule ?_))
  have ho3 : H3.get? l = some (lstE [] 0) := D3.has (l, lstE [] 0) List.mem_cons_self
  refine wpOwn_bind (wpOwn_of_wpAny ?_)
  unfold Builtin.List.listTouch
  refine wpAny_bind ?_
  show wpAny _ _ (updateSeq l (·.push .none)) _ _ _
  refine wpAny_updateSeq (s := ⟨H3, s.gens, s.drawn, cf3.tk, s.os⟩) ho3 rfl ?_
  have D4 := D3.update (j := 0) (f := Obj.mapSeq (·.push .none)) rfl rfl
  have D4' : Own g (H3.update l (Obj.mapSeq (·.push .none))) ((l, lstE [.none] 1) :: (shLed (wB w b₁ b₂).params a u (k : Int) (shDict (wB w b₁ b₂).params a (.str (sg 32) ts) (.str ⟨#[]⟩ tt) ln lt) ++ fs)) := D4
  have ho4 : (H3.update l (Obj.mapSeq (·.push .none))).get? l = some (lstE [.none] 1) := D4'.has (l, lstE [.none] 1) List.mem_cons_self
  generalize H3.update l (Obj.mapSeq (·.push .none)) = H4 at D4' ho4
  show wpAny _ _ (updateSeq l (·.pop)) _ _ _
  refine wpAny_updateSeq (s := ⟨H4, s.gens, s.drawn, cf3.tk, s.os⟩) ho4 rfl ?_
  have D5 := D4'.update (j := 0) (f := Obj.mapSeq (·.pop)) rfl rfl
  have D5' : Own g (H4.update l (Obj.mapSeq (·.pop))) ((l, lstE [] 2) :: (shLed (wB w b₁ b₂).params a u (k : Int) (shDict (wB w b₁ b₂).params a (.str (sg 32) ts) (.str ⟨#[]⟩ tt) ln lt) ++ fs)) := D5
  generalize H4.update l (Obj.mapSeq (·.pop)) = H5 at D5'
  intro Γ p hc hΓ
  refine ⟨by kernel_rfl, ?_⟩
  refine ext_loop (s := ⟨H5, s.gens, s.drawn, cf3.tk, s.os⟩) S (by omega) hA hF hB ws h6 hne k u lt ts tt 2 ln [] [] hd (by simpa using hl) trivial D5' fun s' L' e' rest fs' hL hs D6 e1 e2 e3 => ?_
  exact h s' L' e' rest fs' hL hs D6 e1 e2 e3
end
end Mine
end
section
open PySem PySem.W PyProof.Rows PySem.Builtin PySem.Builtin.Str
set_option Elab.async false
set_option maxRecDepth 1000000
set_option maxHeartbeats 0
set_option linter.unusedVariables false
namespace Mine
open PySem.W.X (Kont Means aroundOf endOf okMark XV)
noncomputable abbrev spCode (B : Str) (t : Nat) : Code := .call (.ref 744) ⟨[.str B t], []⟩
noncomputable def spEnv (z : Nat) : Env := { scope := fnScope (stAt 22), locals := z, globals := 3, cells := [], qual := "split.<locals>.", func := some 744, code := .ref 743, frame := some z }
noncomputable def spIt (t tk : Nat) : Nat → Nat
  | 0 => tk + 19 | 1 => 756 | 2 => tk + 22 | 3 => t | _ => tk + 25
noncomputable def spT (tk : Nat) : Nat → Nat
  | 0 => tk + 36 | 1 => tk + 38 | 2 => tk + 40 | 3 => tk + 42 | 4 => tk + 45 | 5 => tk + 96 | 6 => tk + 48 | 7 => tk + 52 | 8 => tk + 57 | 9 => tk + 55 | 10 => tk + 59 | 11 => tk + 62 | 12 => tk + 60 | 13 => tk + 65 | 14 => tk + 63
  | 15 => tk + 68 | 16 => tk + 66 | 17 => tk + 71 | 18 => tk + 73 | 19 => tk + 76 | 20 => tk + 74 | 21 => tk + 79 | 22 => tk + 77 | 23 => tk + 82 | 24 => tk + 84 | 25 => tk + 86 | 26 => tk + 90 | _ => tk + 87
noncomputable def spA (B : Str) (t z tk : Nat) : RtA := RtA.mk 0 (z + 2) (z + 1) (z + 8) (z + 7) (z + 11) (z + 12) (spT tk) (spIt t tk) (fun _ => 0) B
noncomputable def spFr (p : Params) (B : Str) (t z tk : Nat) : Obj := { cls := .type "frame", data := .dict [dE p "s" tk (.str B t), dE p "comments" (tk + 1) (.bool false), dE p "posix" (tk + 2) (.bool true), dE p "lex" (tk + 93) (.ref (z + 2))].toArray 4 }
noncomputable def hsp0 : List Nat := [0, 0, 0, 1, 1, 1, 1, 1, 1, 0, 0, 1, 0, 1, 1, 0, 0, 0, 0, 0, 0, 0, 0, 0, 0, 0, 0, 0, 0, 0, 0, 0, 0, 0, 0, 0, 0, 0, 0, 0, 0, 0, 0, 0, 0, 0, 0, 0, 1, 0, 1, 0, 0, 0, 0, 0, 0, 0, 0, 1, 1, 1, 1, 1, 1, 1, 1, 1, 1, 0, 0, 0, 0, 1, 0, 0, 0, 0, 0, 0, 0, 1, 0, 0, 0, 0, 0, 0, 0, 0, 0, 0, 0, 0, 0, 0, 0, 0, 0, 0, 0, 0, 0, 0, 0, 0, 0, 0, 0, 0, 0, 0, 0, 0, 0, 1, 1, 1, 1, 1, 1, 0, 0, 1, 0, 0, 0, 1, 0, 0, 0, 0, 0, 1, 0, 0, 0, 0, 0, 0, 0, 0, 0, 0, 0, 0, 0, 0, 0, 0, 0, 0, 0, 0, 0, 0, 0, 0, 0, 0, 0, 0, 0, 0, 0, 0, 0, 0, 0, 0, 0, 0, 0, 1, 0, 1, 0, 0, 0, 0, 0, 0, 0, 0, 1, 1, 1, 1, 1, 1, 0, 0, 1, 0, 0, 1, 0, 0, 0, 0, 1, 1, 0, 0, 0, 1, 0, 0, 0, 1, 0, 0, 1, 0, 0, 0, 0, 1, 1, 2, 0, 0, 0, 0, 0, 0, 0, 0, 2, 0, 0, 2, 0, 2, 0, 0, 0, 0, 0, 0, 0, 2, 0, 3, 3, 3, 1, 2, 0, 0, 0, 0, 0, 0, 0, 0, 2, 0, 0, 2, 0, 2, 0, 0, 0, 0, 0, 0, 0, 2, 0, 3, 3, 3, 1, 2, 0, 0, 0, 0, 0, 0, 0, 0, 2, 0, 0, 2, 0, 2, 0, 0, 0, 0, 0, 0, 0, 2, 0, 3, 3, 3, 1, 1, 2, 0, 0, 0, 0, 0, 0, 0, 2, 0, 0, 0, 0, 0, 0, 0, 2, 0, 0, 0, 0, 2, 3, 1, 0, 0, 0, 0, 1, 1, 1, 1, 0, 0, 1, 3, 0, 0, 0, 0, 0, 0, 0, 0, 3, 0, 0, 0, 0, 0, 0, 0, 3, 3, 0, 4, 1, 1, 1, 1, 0, 0, 0, 1, 0, 0, 0, 1, 2, 3, 0, 0, 0, 0, 0, 0, 0, 0, 3, 0, 0, 3, 0, 3, 0, 0, 0, 0, 0, 0, 0, 3, 0, 4, 4, 4, 8, 8, 8, 8, 8, 9, 0, 0, 0, 0, 9, 0, 0, 9, 0, 9, 0, 0, 0, 9, 0, 10, 10, 10, 8, 8, 9, 0, 0, 0, 0, 9, 0, 0, 9, 0, 9, 0, 0, 0, 9, 0, 10, 10, 10, 8, 8, 9, 0, 0, 0, 0, 9, 0, 0, 9, 0, 9, 0, 0, 0, 9, 0, 10, 10, 10, 8, 8, 9, 0, 0, 0, 0, 9, 0, 0, 9, 0, 9, 0, 0, 0, 9, 0, 10, 10, 10, 8, 9, 0, 0, 0, 0, 9, 0, 0, 9, 0, 9, 0, 0, 0, 9, 0, 10, 10, 10, 8, 9, 0, 0, 0, 0, 9, 0, 0, 9, 0, 9, 0, 0, 0, 9, 0, 10, 10, 10, 8, 9, 0, 0, 0, 0, 9, 0, 0, 0, 9, 9, 0, 10, 0, 8, 9, 0, 0, 0, 0, 9, 0, 0, 0, 9, 9, 0, 10, 2, 9, 0, 0, 0, 0, 9, 0, 0, 9, 0, 9, 0, 0, 0, 9, 0, 10, 10, 10, 8, 9, 0, 0, 0, 0, 9, 0, 0, 9, 0, 9, 0, 0, 0, 9, 0, 10, 10, 10, 8, 9, 0, 0, 0, 0, 9, 0, 0, 9, 0, 9, 0, 0, 0, 9, 0, 10, 10, 10, 8, 9, 0, 0, 0, 0, 9, 0, 0, 9, 0, 9, 0, 0, 0, 9, 0, 10, 10, 10, 8, 9, 0, 0, 0, 0, 9, 0, 0, 9, 0, 9, 0, 0, 0, 9, 0, 10, 10, 10, 8, 9, 0, 0, 0, 0, 9, 0, 0, 9, 0, 9, 0, 0, 0, 9, 0, 10, 10, 10, 8, 9, 0, 0, 0, 0, 9, 0, 0, 9, 0, 9, 0, 0, 0, 9, 0, 10, 10, 10, 0, 0, 0, 0, 0, 1, 1, 0, 1, 0, 1, 1, 1, 9, 10, 0, 0, 0, 0, 10, 0, 0, 10, 0, 10, 0, 0, 0, 10, 0, 11, 11, 11, 9, 10, 0, 0, 0, 0, 10, 0, 0, 10, 0, 10, 0, 0, 0, 10, 0, 11, 11, 11, 9, 10, 0, 0, 0, 0, 10, 0, 0, 10, 0, 10, 0, 0, 0, 10, 0, 11, 11, 11, 9, 10, 0, 0, 0, 0, 10, 0, 0, 10, 0, 10, 0, 0, 0, 10, 0, 11, 11, 11, 0, 0, 0, 0, 0, 1, 1, 0, 1, 0, 1, 1, 1, 10, 11, 0, 0, 0, 0, 11, 0, 0, 11, 0, 11, 0, 0, 0, 11, 0, 12, 12, 12, 10, 11, 0, 0, 0, 0, 11, 0, 0, 11, 0, 11, 0, 0, 0, 11, 0, 12, 12, 12, 10, 10, 10, 10, 10, 11, 0, 0, 0, 0, 11, 0, 0, 11, 0, 11, 0, 0, 0, 11, 0, 12, 12, 12, 10, 0, 0, 0, 13, 13, 13, 11, 0, 0, 0, 0, 11, 0, 0, 11, 0, 11, 0, 0, 0, 11, 0, 12, 12, 12, 13, 13, 11, 0, 0, 0, 0, 11, 0, 0, 11, 0, 11, 0, 0, 0, 11, 0, 12, 12, 12, 0, 0, 13, 0, 0, 0, 0, 50, 1, 1, 1]
noncomputable abbrev spCf (p : Params) (B : Str) (t z tk : Nat) (fs : Led) : Cf := ⟨spCode B t, .base, (PT p).den (spCode B t), fs, z, tk⟩
noncomputable def spSel (p : Params) (B : Str) (t z tk : Nat) : Led := (z + 13, lstE [] 0) :: (shLed p (spA B t z tk) (tk + 23) 0 (shDict p (spA B t z tk) (.str (sg 32) (tk + 69)) (.str ⟨#[]⟩ (tk + 80)) 1 (tk + 74)) ++ [(z, spFr p B t z tk)])
noncomputable abbrev prSp (cf : Cf) := (callOf cf.t, lowC cf, envsC cf, [0, 5, 6, 11, 12, 2, 1, 13].map (nth cf.led), cf.led.drop 14)
theorem spS (w : World) (b₁ b₂ : Bool) (B : Str) (t z tk : Nat) (fs : Led) : SegOk (PT (wB w b₁ b₂).params) 1500 (spCf (wB w b₁ b₂).params B t z tk fs) hsp0 prSp [] []
    (some (liCode (z + 13) (z + 2), none), true, [spEnv z], (spSel (wB w b₁ b₂).params B t z tk).map some, fs) := by
  cases b₁ <;> kernel_rfl
theorem spR (w : World) (b₁ b₂ : Bool) (B : Str) (t z tk sz2 tk2 : Nat) (fs led : Led) : SegOk (PT (wB w b₁ b₂).params) 20 (after (runC (PT (wB w b₁ b₂).params) 1500 (spCf (wB w b₁ b₂).params B t z tk fs) { hs := hsp0 }) (.ok (.ret .none)) (fun _ => led) sz2 tk2) [] prA [] []
    (.pure (.done (.ret (.ref (z + 13)))), .base, led) := by
  cases b₁ <;> kernel_rfl
end Mine
end
section
open PySem PySem.W PyProof.Rows PySem.Builtin PySem.Builtin.Str
set_option Elab.async false
set_option maxRecDepth 100000
set_option maxHeartbeats 1000000
set_option linter.unusedVariables false
namespace Mine
open PySem.W.X (Kont Means aroundOf endOf okMark XV)
section
variable {w : World} {b₁ b₂ : Bool} {A : Around} {g : Heap} {n : Nat} {R : Result → Shared → Prop}
/-- a stop at a call, the frames told, the ledger taken in another order -/
theorem call_segH {cf' : Cf} {ac' : Ac} {c' : Code} {d : Drawn} {os : OsState} {gens : Array GenState} (pre sm post : Led) (P : Result → Led → Prop) {es : List Env} (S : Sur n w.params A g) (hn : n ≤ 700) (hA : A.frames = some es) (p1 : callOf cf'.t = some (c', none)) (p2 : lowC cf' = true) (p3 : ∀ H, Own g H cf'.led → Own g H (pre ++ sm ++ post))
    (hr : ∀ {A' : Around} {g' : Heap} {s' : Shared} {R' : Result → Shared → Prop}, Sur (n + 20) w.params A' g' → A'.frames = some (envsC cf' ++ es) → (∀ b o, g.get? b = some o → g'.get? b = some o) → (∀ q ∈ pre ++ post, g'.get? q.1 = some q.2) → Own g' s'.heap sm →
      (∀ (s'' : Shared) (r : Result) (sm' : Led), Own g' s''.heap sm' → P r sm' → s''.gens = s'.gens → s''.drawn = s'.drawn → s''.os = s'.os → R' r s'') → codeAny (model pw w) A' c' R' s')
    (h : ∀ r sm' sz2 tk2, P r sm' → Good (vOf pw w g A R d os) gens (after (some (cf', ac')) r (fun _ => pre ++ sm' ++ post) sz2 tk2)) : Good (vOf pw w g A R d os) gens cf' := by
  refine good_call p1 fun H D0 hsz => ?_
  have D' := p3 H D0
  have hm : ∀ p ∈ sm, p ∈ pre ++ sm ++ post := fun p hp => List.mem_append_left _ (List.mem_append_right _ hp)
  refine hr (Sur.child (cf := cf') S hn p2 (D'.ghost hm)) (frames_child hA cf') (D'.ghost hm) D'.rest D'.midG fun s'' r sm' D'' hP e1 e2 e3 => ?_
  obtain ⟨H'', gens'', d'', tk'', os''⟩ := s''
  dsimp only at e1 e2 e3 D''
  subst e1 e2 e3
  exact h r sm' H''.objs.size tk'' hP H'' (own_patchG D' D'') rfl
theorem sp_kind (z : Nat) : (spEnv z).scope.kind ≠ .module := by
  intro h
  have e : (spEnv z).scope.kind = .function := by kernel_rfl
  rw [e] at h
  cases h
theorem split_code {B : Str} {t : Nat} {es : List Env} {fs : Led} {s : Shared} {ws : List (List Nat)} (S : Sur n (wB w b₁ b₂).params A g) (hn : n + 160 ≤ 700) (hA : A.frames = some es) (hF : FrO es fs) (hB : B.length ≤ sizeLine)
    (h6 : ∀ w ∈ ws, w.length ≤ 6) (hne : ws ≠ []) (hl : ws.length ≤ 11) (hd : B.cps.toList = textOf ws) (D : Own g s.heap fs)
    (h : ∀ (s' : Shared) (l : Addr) (L' : List Value) (e' : Nat) (fs' : Led), StrsOf L' ws → SlO fs fs' → Own g s'.heap ((l, lstE L' e') :: fs') → s'.gens = s.gens → s'.drawn = s.drawn → s'.os = s.os → R (.ok (.ret (.ref l))) s') :
    codeAny (model pw (wB w b₁ b₂)) A (spCode B t) R s := by
  refine code_good D ?_
  obtain ⟨cf0, ac0, er0, hp, G⟩ := seg2 (gens := s.gens) (S.par (by omega) (R₀ := R) (d := s.drawn) (os := s.os)) (spS w b₁ b₂ B t s.heap.objs.size s.toks fs) rfl
  simp only [prSp, Prod.mk.injEq] at hp
  obtain ⟨p1, p2, p3, p4, p5⟩ := hp
  generalize hz : s.heap.objs.size = z at *
  generalize hk : s.toks = tk at *
  refine G (call_segH (ac' := ac0) [] (spSel (wB w b₁ b₂).params B t z tk ++ fs) []
    (fun r sm => r = .ok (.ret .none) ∧ ∃ L' e' rest fs', StrsOf L' ws ∧ SlO fs fs' ∧ sm = (z + 13, lstE L' e') :: (rest ++ fs')) S (by omega) hA p1 p2 (fun H D' => ?_) ?_ ?_)
  · rw [List.nil_append, List.append_nil]
    exact D'.pickN p5 p4 (by decide) (by decide)
  · intro A' g' s' R' S' hA' hk hr D' h'
    rw [p3] at hA'
    have D1 : Own g' s'.heap ((z + 13, lstE [] 0) :: (shLed (wB w b₁ b₂).params (spA B t z tk) (tk + 23) ((0 : Nat) : Int) (shDict (wB w b₁ b₂).params (spA B t z tk) (.str (sg 32) (tk + 69)) (.str ⟨#[]⟩ (tk + 80)) 1 (tk + 74)) ++ (z, spFr (wB w b₁ b₂).params B t z tk) :: fs)) := D'
    refine li_code (a := spA B t z tk) (fs := (z, spFr (wB w b₁ b₂).params B t z tk) :: fs) (es := spEnv z :: es) S' (by omega) hA' ⟨sp_kind z, rfl, (fun vs q => by cases q), hF⟩ hB h6 hne hl (k := 0) hd D1 fun s'' L' e' rest fs' hL hs D2 e1 e2 e3 => ?_
    cases fs' with
    | nil => exact hs.elim
    | cons q fs' => exact h' s'' _ _ D2 ⟨rfl, L', e', rest ++ [q], fs', hL, hs.2.2, by simp⟩ e1 e2 e3
  · rintro r sm' sz2 tk2 ⟨rfl, L', e', rest, fs', hL, hs, rfl⟩
    rw [← er0]
    obtain ⟨cf2, _, _, hp, G⟩ := seg2 (gens := s.gens) (S.par (by omega) (R₀ := R) (d := s.drawn) (os := s.os)) (spR w b₁ b₂ B t z tk sz2 tk2 fs ([] ++ ((z + 13, lstE L' e') :: (rest ++ fs')) ++ [])) rfl
    simp only [prA, Prod.mk.injEq] at hp
    obtain ⟨q1, q2, q3⟩ := hp
    refine G (good_ret q1 q2 fun H D3 _ => ?_)
    rw [q3, List.nil_append, List.append_nil] at D3
    refine h ⟨H, s.gens, s.drawn, cf2.tk, s.os⟩ (z + 13) L' e' fs' hL hs (D3.sub (fun p hp => ?_) ?_) rfl rfl rfl
    · rcases List.mem_cons.mp hp with rfl | hp
      · exact List.mem_cons_self
      · exact List.mem_cons_of_mem _ (List.mem_append_right _ hp)
    · refine List.Nodup.sublist ?_ D3.nodup
      simp only [List.map_cons, List.map_append]
      exact List.Sublist.cons_cons _ (List.sublist_append_right _ _)
end
end Mine
end
section
open PySem PySem.W PyProof.Rows PySem.Builtin PySem.Builtin.Str
set_option Elab.async false
set_option maxRecDepth 100000
set_option linter.unusedVariables false
namespace Mine
section
variable {prog : Program} {w : World} {A : Around} {s : Shared} {R : Result → Shared → Prop}
noncomputable def slO (t : Nat) : Obj := { cls := .type "slice", data := .fields ⟨[.none, .int 5 t, .none]⟩ }
theorem lsl_code {l sl : Addr} {Ls : List Value} {e t : Nat} (ho : s.heap.get? l = some (lstE Ls e)) (hos : s.heap.get? sl = some (slO t)) (hz : Ls.length ≤ 65536)
    (h : R (.ok (.ret (.ref s.heap.objs.size))) { s with heap := s.heap.push (lstE (Ls.take 5) 0) }) : codeAny (model prog w) A (.call (.builtin "list.__getitem__") ⟨[.ref l, .ref sl], []⟩) R s := by
  have hl : s.heap.IsList l ⟨Ls⟩ := ⟨_, ho, rfl, _, rfl⟩
  have hTs : s.TypeIs (.ref sl) "slice" := ⟨_, hos, rfl⟩
  have pl : IsPart (.none : Value) none := .none
  have pu : IsPart (.int 5 t : Value) (some 5) := .int 5 t
  refine codeAny_call_entry slot_list_getitem hl.typeIs entry_list_getitem ?_ (args_list_getitem _ _)
  show wpAny _ _ (Builtin.List.listSubscript? (.ref sl) >>= _) _ _ s
  refine wpAny_bind ?_
  unfold Builtin.List.listSubscript?
  refine wpAny_bind (wpAny_specialOf hTs slice_no_index ?_)
  simp only [Option.isNone_none, if_true]
  refine wpAny_pure ?_
  show wpAny _ _ (typeOf (.ref sl) >>= _) _ _ s
  refine wpAny_bind (wpAny_typeOf hTs ?_)
  rw [if_neg (by decide)]
  rw [listSliceParts_eq]
  refine wpAny_bind (wpAny_bind (wpAny_field hos rfl (x := .none) rfl (wpAny_bind (wpAny_listPart .none ?_))))
  rw [if_neg (show ¬ ((rawPart none == rawInt 0) = true) from Bool.false_ne_true)]
  refine wpAny_bind (wpAny_field hos rfl (x := .none) rfl (wpAny_bind (wpAny_listPart pl ?_)))
  refine wpAny_bind (wpAny_field hos rfl (x := .int 5 t) rfl (wpAny_bind (wpAny_listPart pu (wpAny_pure ?_))))
  refine wpAny_bind (m := Builtin.List.listItems (.ref l)) ?_
  unfold Builtin.List.listItems
  refine wpAny_bind (wpAny_seqItems ho rfl (wpAny_pure ?_))
  have hsz : (Array.mk Ls).size ≤ sizeLine := by
    have : sizeLine = 16777216 := rfl
    show Ls.length ≤ _
    omega
  refine wpAny_bind (wpAny_of_eq (sliceIndices_raw none (some 5) none _ (by simp)) ?_)
  refine wpAny_bind (wpAny_newObj_type (wpAny_pure ⟨_, rfl, ?_⟩) (Nat.le_trans (slicePick_size_le ⟨Ls⟩ none (some 5) none) hsz))
  have e : slicePick (Array.mk Ls) none (some 5) none = ⟨Ls.take 5⟩ := by
    have := slicePick_upto' (Array.mk Ls) 5
    simpa using this
  have h' := h
  unfold lstE at h'
  rw [← e] at h'
  exact h'
end
end Mine
end
section
open PySem PySem.W PyProof.Rows PySem.Builtin PySem.Builtin.Str
set_option Elab.async false
set_option maxRecDepth 1000000
set_option maxHeartbeats 0
set_option linter.unusedVariables false
namespace Mine
open PySem.W.X (Kont Means aroundOf endOf okMark XV)
noncomputable abbrev anCode (sc : Addr) : Code := .call (.ref 811) ⟨[.ref sc], []⟩
noncomputable def anFr (es : List DictEntry) (e : Nat) : Obj := { cls := .type "frame", data := .dict es.toArray e }
noncomputable def anEnv (z : Nat) : Env := { scope := fnScope (stAt 32), locals := z, globals := 3, cells := [], qual := "_law_answers.<locals>.", func := some 811, code := .ref 810, frame := some z }
noncomputable def anSt (i : Nat) : Stmt := match (fnBody (stAt 32))[i]? with
  | some s => s
  | none => .Pass default
noncomputable def forC (st : Stmt) (it : Addr) (env : Env) : Code := match st with
  | .For t _ b o .. => .forLoop t (.ref it) b o env
  | _ => .call .none {}
noncomputable def tup3 (f : Str) (t1 : Nat) (n : Int) (t2 : Nat) (m : Str) (t3 : Nat) : Obj := tupO [.str f t1, .int n t2, .str m t3]
/-- the frame up to the loop over the script; X: the loop's own name, once it is set -/
noncomputable def xE (p : Params) (X : Option (Nat × Value)) : List DictEntry := match X with
  | some (k, v) => [dE p "x" k v]
  | none => []
noncomputable def frA (p : Params) (k0 k1 sc Lr : Nat) (X : Option (Nat × Value)) : Obj := anFr ([dE p "script" k0 (.ref sc), dE p "rows" k1 (.ref Lr)] ++ xE p X) (match X with | some _ => 3 | none => 2)
/-- the loop over the script -/
noncomputable abbrev afCf (p : Params) (it z : Nat) (led : Led) (sz tk : Nat) : Cf := ⟨forC (anSt 1) it (anEnv z), .base, (PT p).den (forC (anSt 1) it (anEnv z)), led, sz, tk⟩
noncomputable def hf0 : List Nat := [1, 1]
noncomputable def hf1 : List Nat := [3, 3, 3, 2, 2, 2, 2, 4, 12, 1, 1, 1, 23, 0, 0, 0, 0, 0, 5, 10, 12, 1, 1, 1, 25, 0, 0, 5, 10, 0, 1]
noncomputable def hf2 : List Nat := [163, 9]
noncomputable def hfe : List Nat := [1, 0]
theorem afA (w : World) (b₁ b₂ : Bool) (it z l i sz tk : Nat) (rest : Led) : SegOk (PT (wB w b₁ b₂).params) 20 (afCf (wB w b₁ b₂).params it z ((it, liO l i) :: rest) sz tk) hf0 prB [] []
    (some (nextCode "list_iterator.__next__" it, none), true, (it, liO l i) :: rest) := by
  kernel_rfl
noncomputable abbrev ag1 (p : Params) (it z : Nat) (led : Led) (sz tk : Nat) (r : Result) (led2 : Led) (sz2 tk2 : Nat) : Cf := after (runC (PT p) 20 (afCf p it z led sz tk) { hs := hf0 }) r (fun _ => led2) sz2 tk2
noncomputable abbrev c4 (x : Int) : Bool := decide (0 ≤ x) && decide (x < 4)
noncomputable def X' (k : Nat) (X : Option (Nat × Value)) (v : Value) : Option (Nat × Value) := match X with
  | some (kx, _) => some (kx, v)
  | none => some (k, v)
theorem afB (w : World) (b₁ b₂ : Bool) (it z l i k0 k1 sc Lr e sz tk sz2 tk2 t : Nat) (x : Int) (L : List Value) (rest T : Led) (X : Option (Nat × Value)) : SegOk (PT (wB w b₁ b₂).params) 120 (ag1 (wB w b₁ b₂).params it z ((it, liO l i) :: rest) sz tk (.ok (.ret (.int x t))) ([(it, liO l (i + 1)), (Lr, lstE L e), (z, frA (wB w b₁ b₂).params k0 k1 sc Lr X)] ++ T) sz2 tk2) hf1 (fun cf => (callOf cf.t, lowC cf, cf.led.drop 2)) [c4 ((x.fdiv 4).fmod 4), c4 (x.fmod 4)] [true, true]
    (some (wCode (x.fdiv 16) (tk2 + 18), none), true, [(it, liO l (i + 1)), (Lr, lstE L e), (z, frA (wB w b₁ b₂).params k0 k1 sc Lr (X' tk2 X (.int x t)))] ++ T) := by
  rcases X with _ | ⟨kx, vx⟩ <;> kernel_rfl
noncomputable def rowOf : Obj → Option (Str × Int × Str)
  | ⟨.type "tuple", none, .seq ⟨[.str f _, .int n _, .str m _]⟩ 0, ⟨[]⟩⟩ => some (f, n, m)
  | _ => none
noncomputable abbrev prRow (cf : Cf) := (cf.t, cf.κ, (nth cf.led 0).map fun q => (q.1, rowOf q.2), cf.led.drop 1)
theorem afC (w : World) (b₁ b₂ : Bool) (it z l i k0 k1 sc Lr e sz tk sz2 tk2 sz3 tk3 t tw : Nat) (x : Int) (Wd : Str) (L0 L : List Value) (e0 : Nat) (rest T T2 : Led) (X X2 : Option (Nat × Value)) : SegOk (PT (wB w b₁ b₂).params) 40
    (after (runC (PT (wB w b₁ b₂).params) 120 (ag1 (wB w b₁ b₂).params it z ((it, liO l i) :: rest) sz tk (.ok (.ret (.int x t))) ([(it, liO l (i + 1)), (Lr, lstE L0 e0), (z, frA (wB w b₁ b₂).params k0 k1 sc Lr X)] ++ T) sz2 tk2) { hs := hf1 }) (.ok (.ret (.str Wd tw))) (fun _ => [(it, liO l (i + 1)), (Lr, lstE L e), (z, frA (wB w b₁ b₂).params k0 k1 sc Lr X2)] ++ T2) sz3 tk3) hf2 prRow [Nat.ble L.length 65536] [true]
    (.pure (.again (forC (anSt 1) it (anEnv z))), .base, some (sz3, some (pick4 (x.fmod 4) ("" : Str) ("%" : Str) ("a b" : Str) ("it's" : Str), pick4 ((x.fdiv 4).fmod 4) 9 10 (-1) (-2), Wd)), [(it, liO l (i + 1)), (Lr, lstE (L ++ [.ref sz3]) (e + 1)), (z, frA (wB w b₁ b₂).params k0 k1 sc Lr X2)] ++ T2) := by
  rcases X with _ | ⟨kx, vx⟩ <;> rcases X2 with _ | ⟨kx2, vx2⟩ <;> kernel_rfl
theorem afE (w : World) (b₁ b₂ : Bool) (it z l i sz tk sz2 tk2 ee et : Nat) (rest rest2 : Led) : SegOk (PT (wB w b₁ b₂).params) 20 (ag1 (wB w b₁ b₂).params it z ((it, liO l i) :: rest) sz tk (.error (.ref ee)) ((ee, stopO et) :: rest2) sz2 tk2) hfe prA [] []
    (.pure (.done .next), .base, (ee, stopO et) :: rest2) := by
  kernel_rfl
end Mine
end
section
open PySem PySem.W PyProof.Rows PySem.Builtin PySem.Builtin.Str
set_option Elab.async false
set_option maxRecDepth 100000
set_option maxHeartbeats 1000000
set_option linter.unusedVariables false
namespace Mine
open PySem.W.X (Kont Means aroundOf endOf okMark XV)
/-- a value that is a row's tuple -/
noncomputable def RowAt (T : Led) (v : Value) (r : RowS) : Prop := ∃ a o, v = .ref a ∧ (a, o) ∈ T ∧ rowOf o = some (r.f, r.n, r.m)
noncomputable def RowsAt (T : Led) : List Value → List RowS → Prop
  | [], [] => True
  | v :: vs, r :: rs => RowAt T v r ∧ RowsAt T vs rs
  | _, _ => False
theorem RowAt.mono {T T' : Led} {v : Value} {r : RowS} (h : RowAt T v r) (k : ∀ p ∈ T, p ∈ T') : RowAt T' v r := by
  obtain ⟨a, o, h1, h2, h3⟩ := h
  exact ⟨a, o, h1, k _ h2, h3⟩
theorem RowsAt.mono {T T' : Led} (k : ∀ p ∈ T, p ∈ T') : ∀ {vs : List Value} {rs : List RowS}, RowsAt T vs rs → RowsAt T' vs rs
  | [], [], _ => trivial
  | v :: vs, r :: rs, h => ⟨h.1.mono k, h.2.mono k⟩
  | [], _ :: _, h => h.elim
  | _ :: _, [], h => h.elim
theorem RowsAt.snoc {T : Led} : ∀ {vs : List Value} {rs : List RowS} {v : Value} {r : RowS}, RowsAt T vs rs → RowAt T v r → RowsAt T (vs ++ [v]) (rs ++ [r])
  | [], [], v, r, _, h => ⟨h, trivial⟩
  | v :: vs, r :: rs, _, _, h, k => ⟨h.1, h.2.snoc k⟩
  | [], _ :: _, _, _, h, _ => h.elim
  | _ :: _, [], _, _, h, _ => h.elim
theorem RowsAt.len {T : Led} : ∀ {vs : List Value} {rs : List RowS}, RowsAt T vs rs → vs.length = rs.length
  | [], [], _ => rfl
  | v :: vs, r :: rs, h => by rw [List.length_cons, List.length_cons, h.2.len]
  | [], _ :: _, h => h.elim
  | _ :: _, [], h => h.elim
noncomputable def RowS.Six (r : RowS) : Prop := r.f.cps.toList.length ≤ 6 ∧ r.m.cps.toList.length ≤ 6
theorem Own.perm {g h : Heap} {led led' : Led} (D : Own g h led) (p : led.Perm led') : Own g h led' :=
  D.sub (fun q hq => p.mem_iff.mpr hq) ((p.map _).nodup_iff.mp D.nodup)
theorem file_len (x : Int) : (pick4 (x.fmod 4) ("" : Str) ("%" : Str) ("a b" : Str) ("it's" : Str)).cps.toList.length ≤ 6 := by
  unfold pick4
  repeat' split
  all_goals decide +kernel
theorem c4_ok (x : Int) : c4 (x.fmod 4) = true := by
  have h1 : 0 ≤ x.fmod 4 := Int.fmod_nonneg_of_pos _ (by decide)
  have h2 : x.fmod 4 < 4 := Int.fmod_lt_of_pos _ (by decide)
  unfold c4
  rw [decide_eq_true h1, decide_eq_true h2]; rfl
section
variable {w : World} {b₁ b₂ : Bool} {A : Around} {g : Heap} {n : Nat} {R : Result → Shared → Prop}
theorem af_quiet (it z : Nat) : (forC (anSt 1) it (anEnv z)).quiet = true := by kernel_rfl
theorem af_loop {it z l k0 k1 sc Lr e5 : Nat} {S5 : List Value} (S : Sur n (wB w b₁ b₂).params A g) (hn : n + 40 ≤ 700) (hl5 : g.get? l = some (lstE S5 e5)) (hints : ∀ v ∈ S5, ∃ x t, v = .int x t) : ∀ (r : List Value) (i e : Nat) (L : List Value) (X : Option (Nat × Value)) (T : Led) (rows : List RowS) (s : Shared),
    S5.drop i = r → L.length + r.length ≤ 65536 → RowsAt T L rows → (∀ r ∈ rows, r.Six) →
    Own g s.heap ([(it, liO l i), (Lr, lstE L e), (z, frA (wB w b₁ b₂).params k0 k1 sc Lr X)] ++ T) →
    (∀ (s' : Shared) (L' : List Value) (e' : Nat) (X' : Option (Nat × Value)) (T' : Led) (rows' : List RowS), RowsAt T' L' rows' → (∀ r ∈ rows', r.Six) → rows'.length = rows.length + r.length →
      Own g s'.heap ([(Lr, lstE L' e'), (z, frA (wB w b₁ b₂).params k0 k1 sc Lr X')] ++ T') → s'.gens = s.gens → s'.drawn = s.drawn → s'.os = s.os → R (.ok .next) s') →
    codeAny (model pw (wB w b₁ b₂)) A (forC (anSt 1) it (anEnv z)) R s := by
  intro r
  induction r with
  | nil =>
    intro i e L X T rows s hd hL hR h6 D h
    refine code_good D ?_
    obtain ⟨cf1, ac1, er1, hp, G⟩ := seg2 (gens := s.gens) (S.par (by omega) (R₀ := R) (d := s.drawn) (os := s.os)) (afA w b₁ b₂ it z l i s.heap.objs.size s.toks ([(Lr, lstE L e), (z, frA (wB w b₁ b₂).params k0 k1 sc Lr X)] ++ T)) rfl
    simp only [prB, Prod.mk.injEq] at hp
    obtain ⟨p1, p2, p3⟩ := hp
    refine G (call_segG (ac' := ac1) [] [(it, liO l i)] ([(Lr, lstE L e), (z, frA (wB w b₁ b₂).params k0 k1 sc Lr X)] ++ T) (fun r sm => ∃ ee et, r = .error (.ref ee) ∧ sm = [(ee, stopO et), (et, nilO), (it, liE i)]) S (by omega) p1 p2 (by rw [p3]; rfl) ?_ ?_)
    · intro A' g' s' R' S' hk hr D' h'
      refine nx_list_end S'.handled (hk _ _ hl5) rfl (by rw [List.drop_eq_nil_iff] at hd; simpa using hd) D' fun H et ee D'' => h' _ _ _ D'' ⟨ee, et, rfl, rfl⟩ rfl rfl rfl
    · rintro rr sm' sz2 tk2 ⟨ee, et, rfl, rfl⟩
      rw [← er1]
      obtain ⟨cf2, _, _, hp, G⟩ := seg2 (gens := s.gens) (S.par (by omega) (R₀ := R) (d := s.drawn) (os := s.os)) (afE w b₁ b₂ it z l i s.heap.objs.size s.toks sz2 tk2 ee et ([(Lr, lstE L e), (z, frA (wB w b₁ b₂).params k0 k1 sc Lr X)] ++ T) ([(et, nilO), (it, liE i)] ++ ([(Lr, lstE L e), (z, frA (wB w b₁ b₂).params k0 k1 sc Lr X)] ++ T))) rfl
      simp only [prA, Prod.mk.injEq] at hp
      obtain ⟨q1, q2, q3⟩ := hp
      refine G (good_done q1 q2 fun H D3 _ => ?_)
      exact h ⟨H, s.gens, s.drawn, cf2.tk, s.os⟩ L e X T rows hR h6 (by simp) (D3.drop (n := 3) (by rw [q3]; rfl)) rfl rfl rfl
  | cons v r ih =>
    intro i e L X T rows s hd hL hR h6 D h
    have hv : S5[i]? = some v := by
      have := congrArg (·[0]?) hd
      simpa using this
    have hd' : S5.drop (i + 1) = r := by rw [← List.drop_drop, hd]; rfl
    obtain ⟨x, t, rfl⟩ := hints v (List.mem_of_getElem? hv)
    simp only [List.length_cons] at hL h
    refine code_good D ?_
    obtain ⟨cf1, ac1, er1, hp, G⟩ := seg2 (gens := s.gens) (S.par (by omega) (R₀ := R) (d := s.drawn) (os := s.os)) (afA w b₁ b₂ it z l i s.heap.objs.size s.toks ([(Lr, lstE L e), (z, frA (wB w b₁ b₂).params k0 k1 sc Lr X)] ++ T)) rfl
    simp only [prB, Prod.mk.injEq] at hp
    obtain ⟨p1, p2, p3⟩ := hp
    refine G (call_segG (ac' := ac1) [] [(it, liO l i)] ([(Lr, lstE L e), (z, frA (wB w b₁ b₂).params k0 k1 sc Lr X)] ++ T) (fun r sm => r = .ok (.ret (.int x t)) ∧ sm = [(it, liO l (i + 1))]) S (by omega) p1 p2 (by rw [p3]; rfl) ?_ ?_)
    · intro A' g' s' R' S' hk hr D' h'
      exact nx_list_item (hk _ _ hl5) rfl (by simpa using hv) D' fun H D'' => h' _ _ _ D'' ⟨rfl, rfl⟩ rfl rfl rfl
    · rintro rr sm' sz2 tk2 ⟨rfl, rfl⟩
      rw [← er1]
      obtain ⟨cf2, ac2, er2, hp, G⟩ := seg2 (gens := s.gens) (S.par (by omega) (R₀ := R) (d := s.drawn) (os := s.os)) (afB w b₁ b₂ it z l i k0 k1 sc Lr e s.heap.objs.size s.toks sz2 tk2 t x L ([(Lr, lstE L e), (z, frA (wB w b₁ b₂).params k0 k1 sc Lr X)] ++ T) T X) (by rw [c4_ok, c4_ok])
      simp only [Prod.mk.injEq] at hp
      obtain ⟨p1, p2, p3⟩ := hp
      refine G (call_segG (ac' := ac2) (cf2.led.take 2) [] ([(it, liO l (i + 1)), (Lr, lstE L e), (z, frA (wB w b₁ b₂).params k0 k1 sc Lr (X' tk2 X (.int x t)))] ++ T) (fun r sm => sm = [] ∧ ∃ wd tw, wd.length ≤ 6 ∧ r = .ok (.ret (.str (sW wd) tw))) S (by omega) p1 p2 (by rw [List.append_nil, ← p3, List.take_append_drop]) ?_ ?_)
      · intro A' g' s' R' S' hk hr D' h'
        exact word_code S' (by omega) D' fun s'' wd tw hw D'' e1 e2 e3 => h' s'' _ [] D'' ⟨rfl, wd, tw, hw, rfl⟩ e1 e2 e3
      · rintro rr sm' sz3 tk3 ⟨rfl, wd, tw, hw, rfl⟩
        have key : Good (vOf pw (wB w b₁ b₂) g A R s.drawn s.os) s.gens (after (some (cf2, ac2)) (.ok (.ret (.str (sW wd) tw))) (fun _ => [(it, liO l (i + 1)), (Lr, lstE L e), (z, frA (wB w b₁ b₂).params k0 k1 sc Lr (X' tk2 X (.int x t)))] ++ T) sz3 tk3) := by
          rw [← er2]
          obtain ⟨cf3, ac3, er3, hp, G⟩ := seg2 (gens := s.gens) (S.par (by omega) (R₀ := R) (d := s.drawn) (os := s.os)) (afC w b₁ b₂ it z l i k0 k1 sc Lr e s.heap.objs.size s.toks sz2 tk2 sz3 tk3 t tw x (sW wd) L L e ([(Lr, lstE L e), (z, frA (wB w b₁ b₂).params k0 k1 sc Lr X)] ++ T) T T X (X' tk2 X (.int x t))) (by rw [Nat.ble_eq_true_of_le (by omega)])
          simp only [prRow, Prod.mk.injEq] at hp
          obtain ⟨q1, q2, q3, q4⟩ := hp
          refine G (good_again q1 q2 (af_quiet it z) fun H D3 => ?_)
          obtain ⟨q, hq, hq2⟩ := Option.map_eq_some_iff.mp q3
          obtain ⟨qa, qo⟩ := q
          simp only [Prod.mk.injEq] at hq2
          obtain ⟨rfl, hrow⟩ := hq2
          have hled : cf3.led = (qa, qo) :: ([(it, liO l (i + 1)), (Lr, lstE (L ++ [.ref qa]) (e + 1)), (z, frA (wB w b₁ b₂).params k0 k1 sc Lr (X' tk2 X (.int x t)))] ++ T) := by
            cases hc : cf3.led with
            | nil => rw [hc] at hq; cases hq
            | cons y ys =>
              rw [hc] at hq q4
              obtain rfl := Option.some.inj hq
              rw [← q4]; rfl
          rw [hled] at D3
          have D4 : Own g H ([(it, liO l (i + 1)), (Lr, lstE (L ++ [.ref qa]) (e + 1)), (z, frA (wB w b₁ b₂).params k0 k1 sc Lr (X' tk2 X (.int x t)))] ++ (qa, qo) :: T) := D3.perm List.perm_middle.symm
          have hR' : RowsAt ((qa, qo) :: T) (L ++ [.ref qa]) (rows ++ [⟨pick4 (x.fmod 4) ("" : Str) ("%" : Str) ("a b" : Str) ("it's" : Str), pick4 ((x.fdiv 4).fmod 4) 9 10 (-1) (-2), sW wd⟩]) :=
            (hR.mono fun p hp => List.mem_cons_of_mem _ hp).snoc ⟨qa, qo, rfl, List.mem_cons_self, hrow⟩
          refine ih (i + 1) (e + 1) _ _ ((qa, qo) :: T) _ ⟨H, s.gens, s.drawn, cf3.tk, s.os⟩ hd' (by simp only [List.length_append, List.length_cons, List.length_nil]; omega) hR' (fun r hr => ?_) D4 fun s' L' e' X2 T' rows' hR2 h62 hlen D5 e1 e2 e3 => ?_
          · rcases List.mem_append.mp hr with hr | hr
            · exact h6 r hr
            · rw [List.mem_singleton] at hr
              subst hr
              exact ⟨file_len x, hw⟩
          · exact h s' L' e' X2 T' rows' hR2 h62 (by rw [hlen]; simp only [List.length_append, List.length_cons, List.length_nil]; omega) D5 e1 e2 e3
        intro H D' hz
        refine key H ?_ hz
        have D'' : Own g H (cf2.led.take 2 ++ [] ++ ([(it, liO l (i + 1)), (Lr, lstE L e), (z, frA (wB w b₁ b₂).params k0 k1 sc Lr (X' tk2 X (.int x t)))] ++ T)) := D'
        exact D''.sub (fun p hp => List.mem_append_right _ hp) (List.Nodup.sublist ((List.sublist_append_right _ _).map _) D''.nodup)
end
end Mine
end
section
open PySem PySem.W PyProof.Rows PySem.Builtin PySem.Builtin.Str
set_option Elab.async false
set_option maxRecDepth 1000000
set_option maxHeartbeats 0
set_option linter.unusedVariables false
namespace Mine
open PySem.W.X (Kont Means aroundOf endOf okMark XV)
noncomputable def asgV : Stmt → Expr
  | .Assign _ e _ => e
  | _ => default
noncomputable def hlc : List Nat := [2, 1, 1, 0, 1, 0, 1, 1]
/-- the comprehension that lists the rows -/
noncomputable def lc0 (p : Params) (z Lr q tk : Nat) : Code := codeAt (runC (PT p) 30 ⟨.call .none {}, .base, tV (evT (asgV (anSt 2)) (anEnv z)), [(Lr, lstE [] 0), (z, frA p 0 0 0 Lr none)], q, tk⟩ { hs := hlc })
noncomputable def lc1 (p : Params) (z Lr q tk : Nat) : Code := loopOf (lc0 p z Lr q tk)
noncomputable def cD (p : Params) (Y : Option (Nat × Nat × Nat × Value × Value × Value)) : Obj := { cls := .type "dict", data := match Y with
  | some (k1, k2, k3, v1, v2, v3) => .dict [dE p "file" k1 v1, dE p "line" k2 v2, dE p "name" k3 v3].toArray 3
  | none => .dict #[] 0 }
noncomputable def hcs (b₂ : Bool) : List Nat := match b₂ with
  | true => [9]
  | false => [3, 3, 0, 3, 0, 3, 9]
noncomputable abbrev cLed (p : Params) (q : Nat) (D acc it : Obj) (T : Led) : Led := [(q + 2, D), (q + 1, acc), (q, it)] ++ T
theorem lcS (w : World) (b₁ b₂ : Bool) (z Lr q tk sz2 tk2 : Nat) (D acc : Obj) (T : Led) : SegOk (PT (wB w b₁ b₂).params) 30 ⟨lc0 (wB w b₁ b₂).params z Lr q tk, .base, (PT (wB w b₁ b₂).params).den (lc0 (wB w b₁ b₂).params z Lr q tk), cLed (wB w b₁ b₂).params q D acc (liO Lr 0) T, sz2, tk2⟩ (hcs b₂) prA [] []
    (.pure (.again (lc1 (wB w b₁ b₂).params z Lr q tk)), .base, cLed (wB w b₁ b₂).params q D acc (liO Lr 0) T) := by
  cases b₁ <;> cases b₂ <;> kernel_rfl
theorem lc1_quiet (w : World) (b₁ b₂ : Bool) (z Lr q tk : Nat) : (lc1 (wB w b₁ b₂).params z Lr q tk).quiet = true := by cases b₁ <;> kernel_rfl
noncomputable abbrev lcCf (p : Params) (z Lr q tk : Nat) (led : Led) (sz2 tk2 : Nat) : Cf := ⟨lc1 p z Lr q tk, .base, (PT p).den (lc1 p z Lr q tk), led, sz2, tk2⟩
noncomputable def hct0 : List Nat := [3, 1]
noncomputable def hct1 : List Nat := [3, 1000, 1000, 1000, 0, 1000, 0, 1, 1, 0, 1, 0, 1, 1, 1000, 1, 1, 1, 0, 1, 0, 1, 1, 1000, 1, 1, 1, 0, 1, 0, 1, 1, 1000, 1, 1, 1, 0, 1, 0, 1, 1, 1000, 1, 1, 1, 4, 4, 4, 4, 4, 4, 0, 4, 0, 1]
noncomputable def hct2 : List Nat := [4, 0, 4, 0, 1]
noncomputable def hct3 : List Nat := [163, 9]
noncomputable def hcte : List Nat := [3]
theorem lcA (w : World) (b₁ b₂ : Bool) (z Lr q tk i sz2 tk2 : Nat) (D acc : Obj) (T : Led) : SegOk (PT (wB w b₁ b₂).params) 20 (lcCf (wB w b₁ b₂).params z Lr q tk (cLed (wB w b₁ b₂).params q D acc (liO Lr i) T) sz2 tk2) hct0 prB [] []
    (some (nextCode "list_iterator.__next__" q, none), true, cLed (wB w b₁ b₂).params q D acc (liO Lr i) T) := by
  cases b₁ <;> kernel_rfl
noncomputable abbrev lcB1 (p : Params) (z Lr q tk i sz2 tk2 : Nat) (D0 acc0 : Obj) (T0 : Led) (r : Result) (led : Led) (sz3 tk3 : Nat) : Cf := after (runC (PT p) 20 (lcCf p z Lr q tk (cLed p q D0 acc0 (liO Lr i) T0) sz2 tk2) { hs := hct0 }) r (fun _ => led) sz3 tk3
noncomputable def Y' (tk : Nat) (Y : Option (Nat × Nat × Nat × Value × Value × Value)) (v1 v2 v3 : Value) : Option (Nat × Nat × Nat × Value × Value × Value) := match Y with
  | some (k1, k2, k3, _, _, _) => some (k1, k2, k3, v1, v2, v3)
  | none => some (tk, tk + 1, tk + 2, v1, v2, v3)
noncomputable abbrev roR (r : Nat) (f : Str) (t1 : Nat) (nn : Int) (t2 : Nat) (m : Str) (t3 : Nat) : Led := [(r, tup3 f t1 nn t2 m t3)]
theorem lcB (w : World) (b₁ b₂ : Bool) (z Lr q tk i sz2 tk2 sz3 tk3 r t1 t2 t3 : Nat) (f m : List Nat) (nn : Int) (D0 acc0 acc : Obj) (T0 T : Led) (Y : Option (Nat × Nat × Nat × Value × Value × Value)) : SegOk (PTr (wB w b₁ b₂).params (roR r (sW f) t1 nn t2 (sW m) t3)) 120 (lcB1 (wB w b₁ b₂).params z Lr q tk i sz2 tk2 D0 acc0 T0 (.ok (.ret (.ref r))) (cLed (wB w b₁ b₂).params q (cD (wB w b₁ b₂).params Y) acc (liO Lr (i + 1)) T) sz3 tk3) hct1 (fun cf => (callOf cf.t, lowC cf, cf.led.drop 3)) [] []
    (some (qCode f t1, none), true, cLed (wB w b₁ b₂).params q (cD (wB w b₁ b₂).params (Y' tk3 Y (.str (sW f) t1) (.int nn t2) (.str (sW m) t3))) acc (liO Lr (i + 1)) T) := by
  rcases Y with _ | ⟨k1, k2, k3, v1, v2, v3⟩ <;> cases b₁ <;> kernel_rfl
noncomputable abbrev lcC1 (p : Params) (z Lr q tk i sz2 tk2 : Nat) (D0 acc0 : Obj) (T0 : Led) (r : Nat) (ro : Led) (led : Led) (sz3 tk3 : Nat) (v : Value) (led2 : Led) (sz4 tk4 : Nat) : Cf := after (runC (PTr p ro) 120 (lcB1 p z Lr q tk i sz2 tk2 D0 acc0 T0 (.ok (.ret (.ref r))) led sz3 tk3) { hs := hct1 }) (.ok (.ret v)) (fun _ => led2) sz4 tk4
noncomputable def hct2' : List Nat := [1, 0, 1, 0, 1]
theorem lcC (w : World) (b₁ b₂ : Bool) (z Lr q tk i sz2 tk2 sz3 tk3 sz4 tk4 r t1 t2 t3 tf k1 k2 k3 : Nat) (f m : List Nat) (nn : Int) (Fq : Str) (D0 acc0 acc acc2 it2 : Obj) (T0 T T2 : Led) (Y : Option (Nat × Nat × Nat × Value × Value × Value)) (v1 : Value) : SegOk (PTr (wB w b₁ b₂).params (roR r (sW f) t1 nn t2 (sW m) t3)) 40
    (lcC1 (wB w b₁ b₂).params z Lr q tk i sz2 tk2 D0 acc0 T0 r (roR r (sW f) t1 nn t2 (sW m) t3) (cLed (wB w b₁ b₂).params q (cD (wB w b₁ b₂).params Y) acc (liO Lr (i + 1)) T) sz3 tk3 (.str Fq tf) (cLed (wB w b₁ b₂).params q (cD (wB w b₁ b₂).params (some (k1, k2, k3, v1, .int nn t2, .str (sW m) t3))) acc2 it2 T2) sz4 tk4) hct2' prB [] []
    (some (qCode m t3, none), true, cLed (wB w b₁ b₂).params q (cD (wB w b₁ b₂).params (some (k1, k2, k3, v1, .int nn t2, .str (sW m) t3))) acc2 it2 T2) := by
  rcases Y with _ | ⟨k1, k2, k3, v1, v2, v3⟩ <;> cases b₁ <;> kernel_rfl
noncomputable abbrev lcD1 (p : Params) (z Lr q tk i sz2 tk2 : Nat) (D0 acc0 : Obj) (T0 : Led) (r : Nat) (ro : Led) (led : Led) (sz3 tk3 : Nat) (v : Value) (led2 : Led) (sz4 tk4 : Nat) (v2 : Value) (led3 : Led) (sz5 tk5 : Nat) : Cf := after (runC (PTr p ro) 40 (lcC1 p z Lr q tk i sz2 tk2 D0 acc0 T0 r ro led sz3 tk3 v led2 sz4 tk4) { hs := hct2' }) (.ok (.ret v2)) (fun _ => led3) sz5 tk5
theorem lcD (w : World) (b₁ b₂ : Bool) (z Lr q tk i e sz2 tk2 sz3 tk3 sz4 tk4 sz5 tk5 r t1 t2 t3 tf tm k1 k2 k3 : Nat) (f m : List Nat) (nn : Int) (Fq Mq : Str) (D0 D3 acc0 acc acc2 it2 it3 : Obj) (L : List Value) (T0 T T2 T3 : Led) (Y : Option (Nat × Nat × Nat × Value × Value × Value)) (v1 : Value) : SegOk (PTr (wB w b₁ b₂).params (roR r (sW f) t1 nn t2 (sW m) t3)) 40
    (lcD1 (wB w b₁ b₂).params z Lr q tk i sz2 tk2 D0 acc0 T0 r (roR r (sW f) t1 nn t2 (sW m) t3) (cLed (wB w b₁ b₂).params q (cD (wB w b₁ b₂).params Y) acc (liO Lr (i + 1)) T) sz3 tk3 (.str Fq tf) (cLed (wB w b₁ b₂).params q (cD (wB w b₁ b₂).params (some (k1, k2, k3, v1, .int nn t2, .str (sW m) t3))) acc2 it2 T2) sz4 tk4 (.str Mq tm) (cLed (wB w b₁ b₂).params q D3 (lstE L e) it3 T3) sz5 tk5) hct3 prA [Nat.ble L.length 65536] [true]
    (.pure (.again (lc1 (wB w b₁ b₂).params z Lr q tk)), .base, (sz5, tup3 Fq tf nn t2 Mq tm) :: cLed (wB w b₁ b₂).params q D3 (lstE (L ++ [.ref sz5]) (e + 1)) it3 T3) := by
  rcases Y with _ | ⟨k1, k2, k3, v1, v2, v3⟩ <;> cases b₁ <;> kernel_rfl
theorem lcE (w : World) (b₁ b₂ : Bool) (z Lr q tk i sz2 tk2 sz3 tk3 ee et : Nat) (D0 acc0 D acc : Obj) (T0 rest : Led) : SegOk (PT (wB w b₁ b₂).params) 20 (lcB1 (wB w b₁ b₂).params z Lr q tk i sz2 tk2 D0 acc0 T0 (.error (.ref ee)) ((q + 2, D) :: (q + 1, acc) :: (ee, stopO et) :: rest) sz3 tk3) hcte prA [] []
    (.pure (.done .next), .base, (q + 2, D) :: (q + 1, acc) :: (ee, stopO et) :: rest) := by
  cases b₁ <;> kernel_rfl
end Mine
end
section
open PySem PySem.W PyProof.Rows PySem.Builtin PySem.Builtin.Str
set_option Elab.async false
set_option maxRecDepth 100000
set_option maxHeartbeats 1000000
set_option linter.unusedVariables false
namespace Mine
open PySem.W.X (Kont Means aroundOf endOf okMark XV)
noncomputable def QuotedL : List RowS → List RowS → Prop
  | [], [] => True
  | r :: rs, q :: qs => Quoted r q ∧ QuotedL rs qs
  | _, _ => False
theorem QuotedL.snoc : ∀ {rs qs : List RowS} {r q : RowS}, QuotedL rs qs → Quoted r q → QuotedL (rs ++ [r]) (qs ++ [q])
  | [], [], _, _, _, h => ⟨h, trivial⟩
  | r :: rs, q :: qs, _, _, h, k => ⟨h.1, h.2.snoc k⟩
  | [], _ :: _, _, _, h, _ => h.elim
  | _ :: _, [], _, _, h, _ => h.elim
theorem rowOf_some {o : Obj} {f m : Str} {nn : Int} (h : rowOf o = some (f, nn, m)) : ∃ t1 t2 t3, o = tup3 f t1 nn t2 m t3 := by
  unfold rowOf at h
  split at h
  · simp only [Option.some.injEq, Prod.mk.injEq] at h
    obtain ⟨rfl, rfl, rfl⟩ := h
    exact ⟨_, _, _, rfl⟩
  · cases h
theorem rowOf_tup (f m : Str) (nn : Int) (t1 t2 t3 : Nat) : rowOf (tup3 f t1 nn t2 m t3) = some (f, nn, m) := rfl
section
variable {w : World} {b₁ b₂ : Bool} {A : Around} {g : Heap} {n : Nat} {R : Result → Shared → Prop}
theorem quote_seg {cf' : Cf} {ac' : Ac} {l : List Nat} {t : Nat} {d : Drawn} {os : OsState} {gens : Array GenState} (pre post : Led) (S : Sur n (wB w b₁ b₂).params A g) (hn : n + 60 ≤ 700) (hl : l.length ≤ 6) (p1 : callOf cf'.t = some (qCode l t, none)) (p2 : lowC cf' = true) (p3 : cf'.led = pre ++ post)
    (h : ∀ tok sz2 tk2, Good (vOf pw (wB w b₁ b₂) g A R d os) gens (after (some (cf', ac')) (.ok (.ret (.str (sW (quoteL l)) tok))) (fun _ => post) sz2 tk2)) : Good (vOf pw (wB w b₁ b₂) g A R d os) gens cf' := by
  refine call_segG (ac' := ac') pre [] post (fun r sm => sm = [] ∧ ∃ tok, r = .ok (.ret (.str (sW (quoteL l)) tok))) S (by omega) p1 p2 (by rw [List.append_nil, p3]) ?_ ?_
  · intro A' g' s' R' S' hk hr D' h'
    exact quote_code S' (by omega) hl D' fun s'' tok D'' e1 e2 e3 => h' s'' _ [] D'' ⟨rfl, tok, rfl⟩ e1 e2 e3
  · rintro r sm' sz2 tk2 ⟨rfl, tok, rfl⟩
    intro H D' hz
    refine h tok sz2 tk2 H ?_ hz
    have D'' : Own g H (pre ++ [] ++ post) := D'
    exact D''.sub (fun p hp => List.mem_append_right _ hp) (List.Nodup.sublist ((List.sublist_append_right _ _).map _) D''.nodup)
theorem lc_loop {z Lr q tk er : Nat} {V : List Value} {rows : List RowS} {TR : Led} (S : Sur n (wB w b₁ b₂).params A g) (hn : n + 60 ≤ 700) (hLr : g.get? Lr = some (lstE V er)) (hTR : ∀ p ∈ TR, g.get? p.1 = some p.2) : ∀ (r : List Value) (rs done : List RowS) (i e : Nat) (L : List Value) (Y : Option (Nat × Nat × Nat × Value × Value × Value)) (T : Led) (qs : List RowS) (s : Shared),
    V.drop i = r → RowsAt TR r rs → (∀ r ∈ rs, r.Six) → L.length + r.length ≤ 65536 → RowsAt T L qs → QuotedL done qs → (r = [] → Y ≠ none) →
    Own g s.heap (cLed (wB w b₁ b₂).params q (cD (wB w b₁ b₂).params Y) (lstE L e) (liO Lr i) T) →
    (∀ (s' : Shared) (L' : List Value) (e' : Nat) (Y' : Nat × Nat × Nat × Value × Value × Value) (T' : Led) (qs' : List RowS), RowsAt T' L' qs' → QuotedL (done ++ rs) qs' →
      Own g s'.heap ([(q + 2, cD (wB w b₁ b₂).params (some Y')), (q + 1, lstE L' e')] ++ T') → s'.gens = s.gens → s'.drawn = s.drawn → s'.os = s.os → R (.ok .next) s') →
    codeAny (model pw (wB w b₁ b₂)) A (lc1 (wB w b₁ b₂).params z Lr q tk) R s := by
  intro r
  induction r with
  | nil =>
    intro rs done i e L Y T qs s hd hrs h6 hL hR hQ hY D h
    cases rs with
    | cons _ _ => exact hrs.elim
    | nil =>
    cases Y with
    | none => exact absurd rfl (hY rfl)
    | some Y =>
    refine code_good D ?_
    obtain ⟨cf1, ac1, er1, hp, G⟩ := seg2 (gens := s.gens) (S.par (by omega) (R₀ := R) (d := s.drawn) (os := s.os)) (lcA w b₁ b₂ z Lr q tk i s.heap.objs.size s.toks (cD (wB w b₁ b₂).params (some Y)) (lstE L e) T) rfl
    simp only [prB, Prod.mk.injEq] at hp
    obtain ⟨p1, p2, p3⟩ := hp
    refine G (call_segG (ac' := ac1) [(q + 2, cD (wB w b₁ b₂).params (some Y)), (q + 1, lstE L e)] [(q, liO Lr i)] T (fun r sm => ∃ ee et, r = .error (.ref ee) ∧ sm = [(ee, stopO et), (et, nilO), (q, liE i)]) S (by omega) p1 p2 (by rw [p3]; rfl) ?_ ?_)
    · intro A' g' s' R' S' hk hr D' h'
      refine nx_list_end S'.handled (hk _ _ hLr) rfl (by rw [List.drop_eq_nil_iff] at hd; simpa using hd) D' fun H et ee D'' => h' _ _ _ D'' ⟨ee, et, rfl, rfl⟩ rfl rfl rfl
    · rintro rr sm' sz2 tk2 ⟨ee, et, rfl, rfl⟩
      rw [← er1]
      obtain ⟨cf2, _, _, hp, G⟩ := seg2 (gens := s.gens) (S.par (by omega) (R₀ := R) (d := s.drawn) (os := s.os)) (lcE w b₁ b₂ z Lr q tk i s.heap.objs.size s.toks sz2 tk2 ee et (cD (wB w b₁ b₂).params (some Y)) (lstE L e) (cD (wB w b₁ b₂).params (some Y)) (lstE L e) T ([(et, nilO), (q, liE i)] ++ T)) rfl
      simp only [prA, Prod.mk.injEq] at hp
      obtain ⟨q1, q2, q3⟩ := hp
      refine G (good_done q1 q2 fun H D3 _ => ?_)
      rw [q3] at D3
      refine h ⟨H, s.gens, s.drawn, cf2.tk, s.os⟩ L e Y T qs hR (by rw [List.append_nil]; exact hQ) ?_ rfl rfl rfl
      exact D3.pickN (n := 5) (ks := [0, 1]) (sel := [(q + 2, cD (wB w b₁ b₂).params (some Y)), (q + 1, lstE L e)]) rfl rfl (by decide) (by decide)
  | cons v r ih =>
    intro rs done i e L Y T qs s hd hrs h6 hL hR hQ hY D h
    cases rs with
    | nil => exact hrs.elim
    | cons row rs =>
    obtain ⟨hrow, hrs⟩ := hrs
    have hv : V[i]? = some v := by
      have := congrArg (·[0]?) hd
      simpa using this
    have hd' : V.drop (i + 1) = r := by rw [← List.drop_drop, hd]; rfl
    obtain ⟨ra, ro, rfl, hmem, hro⟩ := hrow
    obtain ⟨t1, t2, t3, rfl⟩ := rowOf_some hro
    obtain ⟨⟨⟨f⟩⟩, nn, ⟨⟨m⟩⟩⟩ := row
    have hs6 := h6 _ List.mem_cons_self
    have hga : g.get? ra = some (tup3 (sW f) t1 nn t2 (sW m) t3) := hTR _ hmem
    have hro1 : ∀ p ∈ roR ra (sW f) t1 nn t2 (sW m) t3, g.get? p.1 = some p.2 := fun p hp => by
      rw [List.mem_singleton] at hp
      subst hp
      exact hga
    simp only [List.length_cons] at hL
    refine code_good D ?_
    obtain ⟨cf1, ac1, er1, hp, G⟩ := seg2 (gens := s.gens) (S.par (by omega) (R₀ := R) (d := s.drawn) (os := s.os)) (lcA w b₁ b₂ z Lr q tk i s.heap.objs.size s.toks (cD (wB w b₁ b₂).params Y) (lstE L e) T) rfl
    simp only [prB, Prod.mk.injEq] at hp
    obtain ⟨p1, p2, p3⟩ := hp
    refine G (call_segG (ac' := ac1) [(q + 2, cD (wB w b₁ b₂).params Y), (q + 1, lstE L e)] [(q, liO Lr i)] T (fun r sm => r = .ok (.ret (.ref ra)) ∧ sm = [(q, liO Lr (i + 1))]) S (by omega) p1 p2 (by rw [p3]; rfl) ?_ ?_)
    · intro A' g' s' R' S' hk hr D' h'
      exact nx_list_item (hk _ _ hLr) rfl (by simpa using hv) D' fun H D'' => h' _ _ _ D'' ⟨rfl, rfl⟩ rfl rfl rfl
    · rintro rr sm' sz2 tk2 ⟨rfl, rfl⟩
      rw [← er1]
      obtain ⟨cf2, ac2, er2, hp, G⟩ := seg2 (gens := s.gens) (S.parR (by omega) hro1 (R₀ := R) (d := s.drawn) (os := s.os)) (lcB w b₁ b₂ z Lr q tk i s.heap.objs.size s.toks sz2 tk2 ra t1 t2 t3 f m nn (cD (wB w b₁ b₂).params Y) (lstE L e) (lstE L e) T T Y) rfl
      simp only [Prod.mk.injEq] at hp
      obtain ⟨p1, p2, p3⟩ := hp
      refine G (quote_seg (ac' := ac2) (cf2.led.take 3) (cLed (wB w b₁ b₂).params q (cD (wB w b₁ b₂).params (Y' tk2 Y (.str (sW f) t1) (.int nn t2) (.str (sW m) t3))) (lstE L e) (liO Lr (i + 1)) T) S hn hs6.1 p1 p2 (by rw [← p3, List.take_append_drop]) fun tf sz3 tk3 => ?_)
      rw [← er2]
      obtain ⟨k1, k2, k3, hYe⟩ : ∃ k1 k2 k3, Y' tk2 Y (.str (sW f) t1) (.int nn t2) (.str (sW m) t3) = some (k1, k2, k3, .str (sW f) t1, .int nn t2, .str (sW m) t3) := by
        rcases Y with _ | ⟨k1, k2, k3, v1, v2, v3⟩
        · exact ⟨_, _, _, rfl⟩
        · exact ⟨_, _, _, rfl⟩
      rw [hYe]
      obtain ⟨cf3, ac3, er3, hp, G⟩ := seg2 (gens := s.gens) (S.parR (by omega) hro1 (R₀ := R) (d := s.drawn) (os := s.os)) (lcC w b₁ b₂ z Lr q tk i s.heap.objs.size s.toks sz2 tk2 sz3 tk3 ra t1 t2 t3 tf k1 k2 k3 f m nn (sW (quoteL f)) (cD (wB w b₁ b₂).params Y) (lstE L e) (lstE L e) (lstE L e) (liO Lr (i + 1)) T T T Y (.str (sW f) t1)) rfl
      simp only [prB, Prod.mk.injEq] at hp
      obtain ⟨p1, p2, p3⟩ := hp
      refine G (quote_seg (ac' := ac3) [] (cLed (wB w b₁ b₂).params q (cD (wB w b₁ b₂).params (some (k1, k2, k3, .str (sW f) t1, .int nn t2, .str (sW m) t3))) (lstE L e) (liO Lr (i + 1)) T) S hn hs6.2 p1 p2 (by rw [p3]; rfl) fun tm sz4 tk4 => ?_)
      rw [← er3]
      obtain ⟨cf4, ac4, er4, hp, G⟩ := seg2 (gens := s.gens) (S.parR (by omega) hro1 (R₀ := R) (d := s.drawn) (os := s.os)) (lcD w b₁ b₂ z Lr q tk i e s.heap.objs.size s.toks sz2 tk2 sz3 tk3 sz4 tk4 ra t1 t2 t3 tf tm k1 k2 k3 f m nn (sW (quoteL f)) (sW (quoteL m)) (cD (wB w b₁ b₂).params Y) (cD (wB w b₁ b₂).params (some (k1, k2, k3, .str (sW f) t1, .int nn t2, .str (sW m) t3))) (lstE L e) (lstE L e) (lstE L e) (liO Lr (i + 1)) (liO Lr (i + 1)) L T T T T Y (.str (sW f) t1)) (by rw [Nat.ble_eq_true_of_le (by omega)])
      simp only [prA, Prod.mk.injEq] at hp
      obtain ⟨q1, q2, q3⟩ := hp
      refine G (good_again q1 q2 (lc1_quiet ..) fun H D3 => ?_)
      rw [q3] at D3
      have D4 : Own g H (cLed (wB w b₁ b₂).params q (cD (wB w b₁ b₂).params (some (k1, k2, k3, .str (sW f) t1, .int nn t2, .str (sW m) t3))) (lstE (L ++ [.ref sz4]) (e + 1)) (liO Lr (i + 1)) ((sz4, tup3 (sW (quoteL f)) tf nn t2 (sW (quoteL m)) tm) :: T)) := D3.perm List.perm_middle.symm
      have hR' : RowsAt ((sz4, tup3 (sW (quoteL f)) tf nn t2 (sW (quoteL m)) tm) :: T) (L ++ [.ref sz4]) (qs ++ [⟨sW (quoteL f), nn, sW (quoteL m)⟩]) :=
        (hR.mono fun p hp => List.mem_cons_of_mem _ hp).snoc ⟨sz4, _, rfl, List.mem_cons_self, rfl⟩
      refine ih rs (done ++ [⟨⟨⟨f⟩⟩, nn, ⟨⟨m⟩⟩⟩]) (i + 1) (e + 1) _ _ _ _ ⟨H, s.gens, s.drawn, cf4.tk, s.os⟩ hd' hrs (fun r hr => h6 r (List.mem_cons_of_mem _ hr)) (by simp only [List.length_append, List.length_cons, List.length_nil]; omega) hR' (hQ.snoc ⟨rfl, rfl, rfl⟩) (fun _ q => by cases q) D4 fun s' L' e' Y2 T' qs' hR2 hQ2 D5 e1 e2 e3 => ?_
      exact h s' L' e' Y2 T' qs' hR2 (by rw [List.append_assoc] at hQ2; exact hQ2) D5 e1 e2 e3
end
end Mine
end
section
open PySem PySem.W PyProof.Rows PySem.Builtin PySem.Builtin.Str
set_option Elab.async false
set_option maxRecDepth 1000000
set_option maxHeartbeats 0
set_option linter.unusedVariables false
namespace Mine
open PySem.W.X (Kont Means aroundOf endOf okMark XV)
noncomputable def iE (p : Params) (nm : String) (I : Option (Nat × Value)) : List DictEntry := match I with
  | some (k, v) => [dE p nm k v]
  | none => []
noncomputable def oN (I : Option (Nat × Value)) : Nat := match I with
  | some _ => 1
  | none => 0
/-- where the lists of _law_answers stand -/
structure AnA where
  z : Nat
  sc : Nat
  lr : Nat
  lq : Nat
  lls : Nat
  lk : Nat
  lo : Nat
  ld : Nat
  lt : Nat
  k : Nat → Nat
  X : Option (Nat × Value)
noncomputable def frK (p : Params) (a : AnA) (I J : Option (Nat × Value)) (sl : Array (Option Value)) : Obj := { cls := .type "frame", data := .dict (([dE p "script" (a.k 0) (.ref a.sc), dE p "rows" (a.k 1) (.ref a.lr)] ++ xE p a.X ++ [dE p "listed" (a.k 2) (.ref a.lq), dE p "lists" (a.k 3) (.ref a.lls), dE p "keys" (a.k 4) (.ref a.lk), dE p "order" (a.k 5) (.ref a.lo), dE p "due" (a.k 6) (.ref a.ld), dE p "told" (a.k 7) (.ref a.lt)] ++ iE p "i" I ++ iE p "j" J).toArray) (oN a.X + 8 + oN I + oN J), slots := sl }
noncomputable def riO (cur left : Int) : Obj := { cls := .type "range_iterator", data := .fields ⟨[.int cur 0, .int left 0, .int 1 0]⟩ }
noncomputable def kRo (p : Params) (a : CmA) (ks : List (Int × Int)) : Led :=
  [(a.x, { cls := .ref 776, dict := some a.dx }), (a.dx, { cls := .type "dict", data := .dict [dE p "comp_select_list" (a.t 6) (.ref a.kl)].toArray 1 }), (a.kl, lstO ((List.range ks.length).map fun i => .ref (a.k i)))] ++ (List.range ks.length).map fun i => keyO a i (ks.getD i (0, 0))
end Mine
end
section
open PySem PySem.W PyProof.Rows PySem.Builtin PySem.Builtin.Str
set_option Elab.async false
set_option maxRecDepth 1000000
set_option maxHeartbeats 0
set_option linter.unusedVariables false
namespace Mine
open PySem.W.X (Kont Means aroundOf endOf okMark XV)
noncomputable def inSt : Stmt := match anSt 6 with
  | .For _ _ (b :: _) .. => b
  | s => s
noncomputable def nK (k : Nat) (I : Option (Nat × Value)) (v : Value) : Option (Nat × Value) := match I with
  | some (k0, _) => some (k0, v)
  | none => some (k, v)
noncomputable abbrev mS (m : Nat) : Int := ((m + 1 : Nat) : Int)
/-- the outer loop -/
noncomputable abbrev ofCf (p : Params) (it z : Nat) (led : Led) (sz tk : Nat) : Cf := ⟨forC (anSt 6) it (anEnv z), .base, (PT p).den (forC (anSt 6) it (anEnv z)), led, sz, tk⟩
noncomputable abbrev oLedK (p : Params) (it : Nat) (a : AnA) (ro : Obj) (I J : Option (Nat × Value)) (sl : Array (Option Value)) (V : List Value) (ev : Nat) (Q : Led) : Led := [(it, ro), (a.z, frK p a I J sl), (a.lr, lstE V ev)] ++ Q
noncomputable def ho1_ : List Nat := [1, 0, 1, 0, 1, 1, 1, 1, 1, 1, 1, 2, 2, 0, 0, 0, 0, 2, 157, 0, 0, 0, 0, 1, 1, 0, 1, 0, 1, 1, 1, 31, 1, 1]
noncomputable def hoe_ : List Nat := [1, 0, 1, 0, 1, 1, 1, 1, 0]
noncomputable abbrev riC (V : List Value) : Bool := decide ((0 : Int) = 0) && decide ((1 : Int) = 1) && decide (0 ≤ (V.length : Int)) && decide ((V.length : Int) < 65536)
theorem ofA (w : World) (b₁ b₂ : Bool) (it m ev sz tk : Nat) (c : Int) (a : AnA) (I J : Option (Nat × Value)) (sl : Array (Option Value)) (V : List Value) (Q : Led) (hIJ : I = none → J = none) : SegOk (PT (wB w b₁ b₂).params) 100 (ofCf (wB w b₁ b₂).params it a.z (oLedK (wB w b₁ b₂).params it a (riO c (mS m)) I J sl V ev Q) sz tk) ho1_ (fun cf => (callOf cf.t, lowC cf, nth cf.led 0, cf.led.drop 2)) [riC V, Nat.ble V.length 65536] [true, true]
    (some (forC inSt (sz + 1) (anEnv a.z), none), true, some (sz + 1, riO 0 V.length), oLedK (wB w b₁ b₂).params it a (riO (c + 1) (mS m - 1)) (nK (tk + 1) I (.int c tk)) J sl V ev Q) := by
  obtain ⟨z, sc, lr, lq, lls, lk, lo, ld, lt, k, X⟩ := a
  rcases I with _ | ⟨ki, vi⟩
  · obtain rfl := hIJ rfl
    rcases X with _ | ⟨kx, vx⟩ <;> cases b₁ <;> kernel_rfl
  · rcases X with _ | ⟨kx, vx⟩ <;> rcases J with _ | ⟨kj, vj⟩ <;> cases b₁ <;> kernel_rfl
theorem ofB (w : World) (b₁ b₂ : Bool) (it m ev sz tk sz2 tk2 : Nat) (c : Int) (a : AnA) (I J : Option (Nat × Value)) (sl : Array (Option Value)) (V : List Value) (Q led2 : Led) : SegOk (PT (wB w b₁ b₂).params) 20 (after (runC (PT (wB w b₁ b₂).params) 100 (ofCf (wB w b₁ b₂).params it a.z (oLedK (wB w b₁ b₂).params it a (riO c (mS m)) I J sl V ev Q) sz tk) { hs := ho1_ }) (.ok .next) (fun _ => led2) sz2 tk2) [9] prA [] []
    (.pure (.again (forC (anSt 6) it (anEnv a.z))), .base, led2) := by
  obtain ⟨z, sc, lr, lq, lls, lk, lo, ld, lt, k, X⟩ := a
  rcases X with _ | ⟨kx, vx⟩ <;> rcases I with _ | ⟨ki, vi⟩ <;> rcases J with _ | ⟨kj, vj⟩ <;> cases b₁ <;> kernel_rfl
theorem ofE (w : World) (b₁ b₂ : Bool) (it z sz tk : Nat) (c : Int) (Q : Led) : SegOk (PT (wB w b₁ b₂).params) 30 (ofCf (wB w b₁ b₂).params it z ((it, riO c 0) :: Q) sz tk) hoe_ (fun cf => (cf.t, cf.κ, cf.led.drop 3)) [] []
    (.pure (.done .next), .base, Q) := by
  kernel_rfl
/-- the inner loop -/
noncomputable abbrev ifCf (p : Params) (it z : Nat) (led : Led) (sz tk : Nat) : Cf := ⟨forC inSt it (anEnv z), .base, (PT p).den (forC inSt it (anEnv z)), led, sz, tk⟩
noncomputable abbrev iLedK (p : Params) (it : Nat) (a : AnA) (ro : Obj) (I J : Option (Nat × Value)) (sl : Array (Option Value)) (QL TL V DL : List Value) (eq et ev ed : Nat) (Q : Led) : Led := [(it, ro), (a.z, frK p a I J sl), (a.lq, lstE QL eq), (a.lt, lstE TL et), (a.lr, lstE V ev), (a.ld, lstE DL ed)] ++ Q
noncomputable def roO (p : Params) (x dx t kl : Nat) : Led := [(x, { cls := .ref 776, dict := some dx }), (dx, { cls := .type "dict", data := .dict [dE p "comp_select_list" t (.ref kl)].toArray 1 })]
noncomputable def hi1 : List Nat := [1, 0, 1, 0, 1, 1, 1, 1, 1, 1, 1, 2, 2, 2, 4, 4, 4, 4, 0, 0, 2, 1000, 0, 0, 0, 1000, 0, 0, 0, 1000, 0, 0, 0, 0, 1000, 1001, 2, 2, 3, 3, 3, 155, 2, 2, 3, 3, 3, 155, 0, 1]
noncomputable def hi2 : List Nat := [0, 0, 0, 0, 0, 0, 0, 0, 0, 0, 227, 2, 6, 6, 6, 6, 0, 0, 0, 2, 2, 5, 5, 5, 283, 2, 2, 5, 5, 5, 283, 2, 0, 1]
noncomputable def hi3 : List Nat := [0, 0, 0, 0, 0, 0, 0, 0, 0, 0, 355, 9]
noncomputable def hie : List Nat := [1, 0, 1, 0, 1, 1, 1, 1, 0]
noncomputable abbrev pkC (L : List Value) (c : Int) : Bool := decide (0 ≤ c) && isRefV (L.getD c.toNat .none) && decide (c < 65536)
noncomputable abbrev pkR (L : List Value) (c : Int) : Nat := refOf (L.getD c.toNat .none)
theorem ifA (w : World) (b₁ b₂ : Bool) (it m eq et ev ed sz tk dx t kl ki ti : Nat) (c1 c2 : Int) (a : AnA) (J : Option (Nat × Value)) (sl : Array (Option Value)) (QL TL V DL : List Value) (Q : Led) : SegOk (PTr (wB w b₁ b₂).params (roO (wB w b₁ b₂).params a.lo dx t kl)) 100 (ifCf (wB w b₁ b₂).params it a.z (iLedK (wB w b₁ b₂).params it a (riO c2 (mS m)) (some (ki, .int c1 ti)) J sl QL TL V DL eq et ev ed Q) sz tk) hi1 prB [pkC QL c2, pkC QL c1] [true, true]
    (some (.call (.ref 773) ⟨[.ref a.lo, .ref (pkR QL c1), .ref (pkR QL c2)], []⟩, none), true, iLedK (wB w b₁ b₂).params it a (riO (c2 + 1) (mS m - 1)) (some (ki, .int c1 ti)) (nK (tk + 1) J (.int c2 tk)) sl QL TL V DL eq et ev ed Q) := by
  obtain ⟨z, sc, lr, lq, lls, lk, lo, ld, lt, k, X⟩ := a
  rcases X with _ | ⟨kx, vx⟩ <;> rcases J with _ | ⟨kj, vj⟩ <;> kernel_rfl
noncomputable def istr (v : Int) : Str := if v = -1 then "-1" else if v = 0 then "0" else "1"
noncomputable abbrev if2 (p : Params) (it m eq et ev ed sz tk dx t kl ki ti : Nat) (c1 c2 : Int) (a : AnA) (J : Option (Nat × Value)) (sl : Array (Option Value)) (QL TL V DL : List Value) (Q : Led) (v : Int) (tv : Nat) (led : Led) (sz2 tk2 : Nat) : Cf := after (runC (PTr p (roO p a.lo dx t kl)) 100 (ifCf p it a.z (iLedK p it a (riO c2 (mS m)) (some (ki, .int c1 ti)) J sl QL TL V DL eq et ev ed Q) sz tk) { hs := hi1 }) (.ok (.ret (.int v tv))) (fun _ => led) sz2 tk2
theorem ifB (w : World) (b₁ b₂ : Bool) (it m eq et ev ed sz tk dx t kl ki ti kj tj tv sz2 tk2 : Nat) (c1 c2 : Int) (a : AnA) (J : Option (Nat × Value)) (sl : Array (Option Value)) (QL TL V DL : List Value) (Q : Led) (v : Int) (hv : v = -1 ∨ v = 0 ∨ v = 1) (ro : Obj) : SegOk (PTr (wB w b₁ b₂).params (roO (wB w b₁ b₂).params a.lo dx t kl)) 100 (if2 (wB w b₁ b₂).params it m eq et ev ed sz tk dx t kl ki ti c1 c2 a J sl QL TL V DL Q v tv (iLedK (wB w b₁ b₂).params it a ro (some (ki, .int c1 ti)) (some (kj, .int c2 tj)) sl QL TL V DL eq et ev ed Q) sz2 tk2) hi2 prB [pkC V c2, pkC V c1, Nat.ble TL.length 65536] [true, true, true]
    (some (.call (.ref 806) ⟨[.ref (pkR V c1), .ref (pkR V c2), .ref a.lk], []⟩, none), true, iLedK (wB w b₁ b₂).params it a ro (some (ki, .int c1 ti)) (some (kj, .int c2 tj)) sl QL (TL ++ [.str (istr v) tk2]) V DL eq (et + 1) ev ed Q) := by
  obtain ⟨z, sc, lr, lq, lls, lk, lo, ld, lt, k, X⟩ := a
  rcases hv with rfl | rfl | rfl <;> rcases X with _ | ⟨kx, vx⟩ <;> rcases J with _ | ⟨kj, vj⟩ <;> cases b₁ <;> kernel_rfl
theorem ifC (w : World) (b₁ b₂ : Bool) (it m eq et ev ed sz tk dx t kl ki ti kj tj tv tv2 sz2 tk2 sz3 tk3 : Nat) (c1 c2 : Int) (a : AnA) (J : Option (Nat × Value)) (sl : Array (Option Value)) (QL TL TL2 V DL : List Value) (Q : Led) (v : Int) (hv : v = -1 ∨ v = 0 ∨ v = 1) (ro : Obj) : SegOk (PTr (wB w b₁ b₂).params (roO (wB w b₁ b₂).params a.lo dx t kl)) 100 (after (runC (PTr (wB w b₁ b₂).params (roO (wB w b₁ b₂).params a.lo dx t kl)) 100 (if2 (wB w b₁ b₂).params it m eq et ev ed sz tk dx t kl ki ti c1 c2 a J sl QL TL V DL Q v tv (iLedK (wB w b₁ b₂).params it a ro (some (ki, .int c1 ti)) (some (kj, .int c2 tj)) sl QL TL V DL eq et ev ed Q) sz2 tk2) { hs := hi2 }) (.ok (.ret (.int v tv2))) (fun _ => iLedK (wB w b₁ b₂).params it a ro (some (ki, .int c1 ti)) (some (kj, .int c2 tj)) sl QL TL2 V DL eq (et + 1) ev ed Q) sz3 tk3) hi3 prA [Nat.ble DL.length 65536] [true]
    (.pure (.again (forC inSt it (anEnv a.z))), .base, iLedK (wB w b₁ b₂).params it a ro (some (ki, .int c1 ti)) (some (kj, .int c2 tj)) sl QL TL2 V (DL ++ [.str (istr v) tk3]) eq (et + 1) ev (ed + 1) Q) := by
  obtain ⟨z, sc, lr, lq, lls, lk, lo, ld, lt, k, X⟩ := a
  rcases hv with rfl | rfl | rfl <;> rcases X with _ | ⟨kx, vx⟩ <;> rcases J with _ | ⟨kj, vj⟩ <;> cases b₁ <;> kernel_rfl
theorem ifE (w : World) (b₁ b₂ : Bool) (it z sz tk : Nat) (c : Int) (Q : Led) : SegOk (PT (wB w b₁ b₂).params) 30 (ifCf (wB w b₁ b₂).params it z ((it, riO c 0) :: Q) sz tk) hie (fun cf => (cf.t, cf.κ, cf.led.drop 3)) [] []
    (.pure (.done .next), .base, Q) := by
  kernel_rfl
end Mine
end
section
open PySem PySem.W PyProof.Rows PySem.Builtin PySem.Builtin.Str
set_option Elab.async false
set_option maxRecDepth 100000
set_option maxHeartbeats 1000000
set_option linter.unusedVariables false
namespace Mine
open PySem.W.X (Kont Means aroundOf endOf okMark XV)
noncomputable def SameStr : List Value → List Value → Prop
  | [], [] => True
  | v :: vs, u :: us => (∃ x t t', v = .str x t ∧ u = .str x t') ∧ SameStr vs us
  | _, _ => False
theorem SameStr.snoc : ∀ {vs us : List Value} {x : Str} {t t' : Nat}, SameStr vs us → SameStr (vs ++ [.str x t]) (us ++ [.str x t'])
  | [], [], x, t, t', _ => ⟨⟨x, t, t', rfl, rfl⟩, trivial⟩
  | v :: vs, u :: us, x, t, t', h => ⟨h.1, h.2.snoc⟩
  | [], _ :: _, _, _, _, h => h.elim
  | _ :: _, [], _, _, _, h => h.elim
theorem SameStr.len : ∀ {vs us : List Value}, SameStr vs us → us.length = vs.length
  | [], [], _ => rfl
  | v :: vs, u :: us, h => by rw [List.length_cons, List.length_cons, h.2.len]
  | [], _ :: _, h => h.elim
  | _ :: _, [], h => h.elim
theorem RowsAt.get {T : Led} : ∀ {vs : List Value} {rs : List RowS} (i : Nat) (r : RowS), RowsAt T vs rs → rs[i]? = some r → ∃ a o, vs.getD i .none = .ref a ∧ (a, o) ∈ T ∧ rowOf o = some (r.f, r.n, r.m)
  | v :: vs, r' :: rs, 0, r, h, hr => by
    obtain rfl := Option.some.inj hr
    obtain ⟨a, o, h1, h2, h3⟩ := h.1
    exact ⟨a, o, h1, h2, h3⟩
  | v :: vs, r' :: rs, i + 1, r, h, hr => by
    have := RowsAt.get i r h.2 (by simpa using hr)
    simpa using this
  | [], [], i, r, _, hr => by simp at hr
  | [], _ :: _, _, _, h, _ => h.elim
  | _ :: _, [], _, _, h, _ => h.elim
theorem QuotedL.get : ∀ {rs qs : List RowS} (i : Nat) (r : RowS), QuotedL rs qs → rs[i]? = some r → ∃ q, qs[i]? = some q ∧ Quoted r q
  | r' :: rs, q :: qs, 0, r, h, hr => by
    obtain rfl := Option.some.inj hr
    exact ⟨q, rfl, h.1⟩
  | r' :: rs, q :: qs, i + 1, r, h, hr => by
    have := QuotedL.get i r h.2 (by simpa using hr)
    simpa using this
  | [], [], i, r, _, hr => by simp at hr
  | [], _ :: _, _, _, h, _ => h.elim
  | _ :: _, [], _, _, h, _ => h.elim
noncomputable def CmA.on (a : CmA) (l r s0 s1 s2 s3 s4 s5 : Nat) : CmA := { a with l := l, r := r, t := fun n => if n = 0 then s0 else if n = 1 then s1 else if n = 2 then s2 else if n = 3 then s3 else if n = 4 then s4 else if n = 5 then s5 else a.t n }
theorem on_t (a : CmA) (l r s0 s1 s2 s3 s4 s5 n : Nat) (h : 6 ≤ n) : (a.on l r s0 s1 s2 s3 s4 s5).t n = a.t n := by
  show (if n = 0 then _ else _) = _
  rw [if_neg (by omega), if_neg (by omega), if_neg (by omega), if_neg (by omega), if_neg (by omega), if_neg (by omega)]
theorem ro_on {p : Params} {g : Heap} {a : CmA} {ks : List (Int × Int)} {l r s0 s1 s2 s3 s4 s5 : Nat} {u v : RowS} (hk : ∀ q ∈ kRo p a ks, g.get? q.1 = some q.2) (hl : g.get? l = some (tup3 u.f s0 u.n s1 u.m s2)) (hr : g.get? r = some (tup3 v.f s3 v.n s4 v.m s5)) :
    ∀ q ∈ cmRo p (a.on l r s0 s1 s2 s3 s4 s5) ks u v, g.get? q.1 = some q.2 := by
  have e : cmRo p (a.on l r s0 s1 s2 s3 s4 s5) ks u v = (l, tup3 u.f s0 u.n s1 u.m s2) :: (r, tup3 v.f s3 v.n s4 v.m s5) :: kRo p a ks := by
    unfold cmRo kRo
    rw [on_t _ _ _ _ _ _ _ _ _ 6 (by omega)]
    have : (List.range ks.length).map (fun i => keyO (a.on l r s0 s1 s2 s3 s4 s5) i (ks.getD i (0, 0))) = (List.range ks.length).map (fun i => keyO a i (ks.getD i (0, 0))) := by
      apply List.map_congr_left
      intro i _
      unfold keyO
      rw [on_t _ _ _ _ _ _ _ _ _ _ (by omega), on_t _ _ _ _ _ _ _ _ _ _ (by omega)]
      rfl
    rw [this]
    rfl
  rw [e]
  intro q hq
  rcases List.mem_cons.mp hq with rfl | hq
  · exact hl
  · rcases List.mem_cons.mp hq with rfl | hq
    · exact hr
    · exact hk q hq
/-- what the double loop finds in the heap -/
structure Dbl (p : Params) (g : Heap) (a : AnA) (ca : CmA) (ks : List (Int × Int)) (V QL : List Value) (rows qs : List RowS) : Prop where
  hks : ks = keysA ∨ ks = keysB ∨ ks = keysC ∨ ks = keysD
  x : ca.x = a.lo
  kl : ca.kl = a.lk
  hk : ∀ q ∈ kRo p ca ks, g.get? q.1 = some q.2
  rowsAt : ∀ (i : Nat) (r : RowS), rows[i]? = some r → ∃ b t1 t2 t3, V.getD i .none = .ref b ∧ g.get? b = some (tup3 r.f t1 r.n t2 r.m t3)
  qAt : ∀ (i : Nat) (r : RowS), qs[i]? = some r → ∃ b t1 t2 t3, QL.getD i .none = .ref b ∧ g.get? b = some (tup3 r.f t1 r.n t2 r.m t3)
  qd : QuotedL rows qs
  six : ∀ r ∈ rows, r.Six
  lenV : V.length = rows.length
  small : rows.length ≤ 11
theorem Dbl.mono {p : Params} {g g' : Heap} {a : AnA} {ca : CmA} {ks : List (Int × Int)} {V QL : List Value} {rows qs : List RowS} (h : Dbl p g a ca ks V QL rows qs) (k : ∀ b o, g.get? b = some o → g'.get? b = some o) : Dbl p g' a ca ks V QL rows qs :=
  ⟨h.hks, h.x, h.kl, fun q hq => k _ _ (h.hk q hq), fun i r hr => let ⟨b, t1, t2, t3, e1, e2⟩ := h.rowsAt i r hr; ⟨b, t1, t2, t3, e1, k _ _ e2⟩, fun i r hr => let ⟨b, t1, t2, t3, e1, e2⟩ := h.qAt i r hr; ⟨b, t1, t2, t3, e1, k _ _ e2⟩, h.qd, h.six, h.lenV, h.small⟩
theorem pk_ok {L : List Value} {i b : Nat} (h : L.getD i .none = .ref b) (hi : i < 65536) : pkC L (i : Int) = true ∧ pkR L (i : Int) = b := by
  constructor
  · show (decide (0 ≤ (i : Int)) && isRefV (L.getD i .none) && decide ((i : Int) < 65536)) = true
    rw [h, decide_eq_true (by omega), decide_eq_true (by omega)]; rfl
  · show refOf (L.getD i .none) = b
    rw [h]; rfl
section
variable {w : World} {b₁ b₂ : Bool} {A : Around} {g : Heap} {n : Nat} {R : Result → Shared → Prop}
theorem if_quiet (it z : Nat) : (forC inSt it (anEnv z)).quiet = true := by kernel_rfl
theorem of_quiet (it z : Nat) : (forC (anSt 6) it (anEnv z)).quiet = true := by kernel_rfl
/-- a stop at a call that leaves the ledger as it is -/
theorem pure_seg {cf' : Cf} {ac' : Ac} {c' : Code} {d : Drawn} {os : OsState} {gens : Array GenState} (P : Result → Prop) (S : Sur n (wB w b₁ b₂).params A g) (hn : n ≤ 700) (p1 : callOf cf'.t = some (c', none)) (p2 : lowC cf' = true)
    (hr : ∀ {A' : Around} {g' : Heap} {s' : Shared} {R' : Result → Shared → Prop}, Sur (n + 20) (wB w b₁ b₂).params A' g' → (∀ b o, g.get? b = some o → g'.get? b = some o) → Own g' s'.heap [] →
      (∀ (s'' : Shared) (r : Result), Own g' s''.heap [] → P r → s''.gens = s'.gens → s''.drawn = s'.drawn → s''.os = s'.os → R' r s'') → codeAny (model pw (wB w b₁ b₂)) A' c' R' s')
    (h : ∀ r sz2 tk2, P r → Good (vOf pw (wB w b₁ b₂) g A R d os) gens (after (some (cf', ac')) r (fun _ => cf'.led) sz2 tk2)) : Good (vOf pw (wB w b₁ b₂) g A R d os) gens cf' := by
  refine call_segG (ac' := ac') cf'.led [] [] (fun r sm => sm = [] ∧ P r) S hn p1 p2 (by simp) ?_ ?_
  · intro A' g' s' R' S' hk hr' D' h'
    exact hr S' hk D' fun s'' r D'' hP e1 e2 e3 => h' s'' r [] D'' ⟨rfl, hP⟩ e1 e2 e3
  · rintro r sm' sz2 tk2 ⟨rfl, hP⟩
    rw [List.append_nil, List.append_nil]
    exact h r sz2 tk2 hP
theorem ri_next (j m : Nat) : riO ((j : Int) + 1) (mS m - 1) = riO ((j + 1 : Nat) : Int) (m : Int) := by
  have e1 : (j : Int) + 1 = ((j + 1 : Nat) : Int) := by omega
  have e2 : mS m - 1 = (m : Int) := by show ((m + 1 : Nat) : Int) - 1 = _; omega
  rw [e1, e2]
theorem if_loop {it ki ti i eq ev : Nat} {a : AnA} {ca : CmA} {ks : List (Int × Int)} {V QL : List Value} {rows qs : List RowS} {sl : Array (Option Value)} {Q : Led} (S : Sur n (wB w b₁ b₂).params A g) (hn : n + 140 ≤ 700) (B : Dbl (wB w b₁ b₂).params g a ca ks V QL rows qs) (hi : i < rows.length) : ∀ (m j : Nat) (J : Option (Nat × Value)) (TL DL : List Value) (et ed : Nat) (s : Shared),
    j + m = rows.length → SameStr TL DL → TL.length + m ≤ 60000 →
    Own g s.heap (iLedK (wB w b₁ b₂).params it a (riO (j : Int) (m : Int)) (some (ki, .int (i : Int) ti)) J sl QL TL V DL eq et ev ed Q) →
    (∀ (s' : Shared) (J' : Option (Nat × Value)) (TL' DL' : List Value) (et' ed' : Nat), SameStr TL' DL' → TL'.length = TL.length + m → (J ≠ none ∨ 0 < m → J' ≠ none) →
      Own g s'.heap ([(a.z, frK (wB w b₁ b₂).params a (some (ki, .int (i : Int) ti)) J' sl), (a.lq, lstE QL eq), (a.lt, lstE TL' et'), (a.lr, lstE V ev), (a.ld, lstE DL' ed')] ++ Q) → s'.gens = s.gens → s'.drawn = s.drawn → s'.os = s.os → R (.ok .next) s') →
    codeAny (model pw (wB w b₁ b₂)) A (forC inSt it (anEnv a.z)) R s := by
  intro m
  induction m with
  | zero =>
    intro j J TL DL et ed s hj hS hl D h
    refine code_good D ?_
    obtain ⟨cf1, ac1, er1, hp, G⟩ := seg2 (gens := s.gens) (S.par (by omega) (R₀ := R) (d := s.drawn) (os := s.os)) (ifE w b₁ b₂ it a.z s.heap.objs.size s.toks j ([(a.z, frK (wB w b₁ b₂).params a (some (ki, .int (i : Int) ti)) J sl), (a.lq, lstE QL eq), (a.lt, lstE TL et), (a.lr, lstE V ev), (a.ld, lstE DL ed)] ++ Q)) rfl
    simp only [Prod.mk.injEq] at hp
    obtain ⟨q1, q2, q3⟩ := hp
    refine G (good_done q1 q2 fun H D3 _ => ?_)
    exact h ⟨H, s.gens, s.drawn, cf1.tk, s.os⟩ J TL DL et ed hS rfl (fun q => q.elim (fun q => q) (fun q => absurd q (Nat.lt_irrefl _))) (D3.drop q3) rfl rfl rfl
  | succ m ih =>
    intro j J TL DL et ed s hj hS hl D h
    have hsm := B.small
    have hri : i < rows.length := hi
    have hrj : j < rows.length := by omega
    obtain ⟨u, hu⟩ : ∃ u, rows[i]? = some u := ⟨_, List.getElem?_eq_getElem hri⟩
    obtain ⟨v, hv⟩ : ∃ v, rows[j]? = some v := ⟨_, List.getElem?_eq_getElem hrj⟩
    obtain ⟨u', hu', qu⟩ := B.qd.get i u hu
    obtain ⟨v', hv', qv⟩ := B.qd.get j v hv
    obtain ⟨la, s0, s1, s2, el, hla⟩ := B.qAt i u' hu'
    obtain ⟨ra, s3, s4, s5, er, hra⟩ := B.qAt j v' hv'
    obtain ⟨lb, x0, x1, x2, el2, hlb⟩ := B.rowsAt i u hu
    obtain ⟨rb, x3, x4, x5, er2, hrb⟩ := B.rowsAt j v hv
    have k1 := pk_ok el (by omega)
    have k2 := pk_ok er (by omega)
    have k3 := pk_ok el2 (by omega)
    have k4 := pk_ok er2 (by omega)
    have su := B.six u (List.mem_of_getElem? hu)
    have sv := B.six v (List.mem_of_getElem? hv)
    have hro : ∀ q ∈ roO (wB w b₁ b₂).params a.lo ca.dx (ca.t 6) ca.kl, g.get? q.1 = some q.2 := fun q hq => B.hk q (by
      rw [← B.x] at hq
      unfold kRo
      simp only [roO, List.mem_cons, List.not_mem_nil, or_false] at hq
      rcases hq with rfl | rfl
      · exact List.mem_append_left _ List.mem_cons_self
      · exact List.mem_append_left _ (List.mem_cons_of_mem _ List.mem_cons_self))
    refine code_good D ?_
    obtain ⟨cf1, ac1, er1, hp, G⟩ := seg2 (gens := s.gens) (S.parR (by omega) hro (R₀ := R) (d := s.drawn) (os := s.os)) (ifA w b₁ b₂ it m eq et ev ed s.heap.objs.size s.toks ca.dx (ca.t 6) ca.kl ki ti i j a J sl QL TL V DL Q) (by rw [k1.1, k2.1])
    simp only [prB, Prod.mk.injEq] at hp
    obtain ⟨p1, p2, p3⟩ := hp
    rw [k1.2, k2.2] at p1
    have hvals : ∀ k ∈ ks, k.2 = 1 ∨ k.2 = -1 := by
      rcases B.hks with rfl | rfl | rfl | rfl <;> decide
    have hv3 := cmp_val ks hvals u' v'
    have hdue : dueS ks u v = cmpS ks u' v' := (cmp_due qu qv ks).symm
    refine G (pure_seg (ac' := ac1) (fun r => ∃ tv, r = .ok (.ret (.int (cmpS ks u' v') tv))) S (by omega) p1 p2 ?_ ?_)
    · intro A' g' s' R' S' hk D' h'
      have hc : (Code.call (.ref 773) ⟨[.ref a.lo, .ref la, .ref ra], []⟩) = cmCode (ca.on la ra s0 s1 s2 s3 s4 s5) := by rw [← B.x]; rfl
      rw [hc]
      exact cm_code B.hks S' (by omega) (ro_on (fun q hq => hk _ _ (B.hk q hq)) (hk _ _ hla) (hk _ _ hra)) D' fun s'' tok D'' e1 e2 e3 => h' s'' _ D'' ⟨tok, rfl⟩ e1 e2 e3
    · rintro r sz2 tk2 ⟨tv, rfl⟩
      rw [p3, ← er1, ri_next]
      obtain ⟨kj, tj, hJ⟩ : ∃ kj tj, nK (s.toks + 1) J (.int (j : Int) s.toks) = some (kj, .int (j : Int) tj) := by
        rcases J with _ | ⟨kj, vj⟩
        · exact ⟨_, _, rfl⟩
        · exact ⟨_, _, rfl⟩
      rw [hJ]
      have hTL : Nat.ble TL.length 65536 = true := Nat.ble_eq_true_of_le (by omega)
      obtain ⟨cf2, ac2, er2, hp, G⟩ := seg2 (gens := s.gens) (S.parR (by omega) hro (R₀ := R) (d := s.drawn) (os := s.os)) (ifB w b₁ b₂ it m eq et ev ed s.heap.objs.size s.toks ca.dx (ca.t 6) ca.kl ki ti kj tj tv sz2 tk2 i j a J sl QL TL V DL Q (cmpS ks u' v') hv3 (riO ((j + 1 : Nat) : Int) (m : Int))) (by rw [k3.1, k4.1, hTL])
      simp only [prB, Prod.mk.injEq] at hp
      obtain ⟨p1, p2, p3⟩ := hp
      rw [k3.2, k4.2] at p1
      refine G (pure_seg (ac' := ac2) (fun r => ∃ tv, r = .ok (.ret (.int (cmpS ks u' v') tv))) S (by omega) p1 p2 ?_ ?_)
      · intro A' g' s' R' S' hk D' h'
        have hc : (Code.call (.ref 806) ⟨[.ref lb, .ref rb, .ref a.lk], []⟩) = duCode (ca.on lb rb x0 x1 x2 x3 x4 x5) := by rw [← B.kl]; rfl
        rw [hc]
        refine du_code B.hks S' (by omega) (ro_on (fun q hq => hk _ _ (B.hk q hq)) (hk _ _ hlb) (hk _ _ hrb)) ⟨by have := su.1; omega, by have := su.2; omega⟩ ⟨by have := sv.1; omega, by have := sv.2; omega⟩ D' fun s'' tok D'' e1 e2 e3 => ?_
        rw [hdue]
        exact h' s'' _ D'' ⟨tok, rfl⟩ e1 e2 e3
      · rintro r sz3 tk3 ⟨tv2, rfl⟩
        rw [p3, ← er2]
        have hDL : Nat.ble DL.length 65536 = true := Nat.ble_eq_true_of_le (by have := hS.len; omega)
        obtain ⟨cf3, ac3, er3, hp, G⟩ := seg2 (gens := s.gens) (S.parR (by omega) hro (R₀ := R) (d := s.drawn) (os := s.os)) (ifC w b₁ b₂ it m eq et ev ed s.heap.objs.size s.toks ca.dx (ca.t 6) ca.kl ki ti kj tj tv tv2 sz2 tk2 sz3 tk3 i j a J sl QL TL (TL ++ [.str (istr (cmpS ks u' v')) tk2]) V DL Q (cmpS ks u' v') hv3 (riO ((j + 1 : Nat) : Int) (m : Int))) (by rw [hDL])
        simp only [prA, Prod.mk.injEq] at hp
        obtain ⟨q1, q2, q3⟩ := hp
        refine G (good_again q1 q2 (if_quiet it a.z) fun H D3 => ?_)
        rw [q3] at D3
        refine ih (j + 1) (some (kj, .int (j : Int) tj)) (TL ++ [.str (istr (cmpS ks u' v')) tk2]) (DL ++ [.str (istr (cmpS ks u' v')) tk3]) (et + 1) (ed + 1) ⟨H, s.gens, s.drawn, cf3.tk, s.os⟩ (by omega) hS.snoc (by simp only [List.length_append, List.length_cons, List.length_nil]; omega) D3 fun s' J' TL' DL' et' ed' hS' hl' hJ' D4 e1 e2 e3 => ?_
        exact h s' J' TL' DL' et' ed' hS' (by rw [hl']; simp only [List.length_append, List.length_cons, List.length_nil]; omega) (fun _ => hJ' (.inl (by simp))) D4 e1 e2 e3
end
end Mine
end
section
open PySem PySem.W PyProof.Rows PySem.Builtin PySem.Builtin.Str
set_option Elab.async false
set_option maxRecDepth 100000
set_option maxHeartbeats 1000000
set_option linter.unusedVariables false
namespace Mine
open PySem.W.X (Kont Means aroundOf endOf okMark XV)
section
variable {w : World} {b₁ b₂ : Bool} {A : Around} {g : Heap} {n : Nat} {R : Result → Shared → Prop}
/-- a stop at a call, the ledger taken in another order -/
theorem call_segJ {cf' : Cf} {ac' : Ac} {c' : Code} {d : Drawn} {os : OsState} {gens : Array GenState} (pre sm post : Led) (P : Result → Led → Prop) (S : Sur n w.params A g) (hn : n ≤ 700) (p1 : callOf cf'.t = some (c', none)) (p2 : lowC cf' = true) (p3 : ∀ H, Own g H cf'.led → Own g H (pre ++ sm ++ post))
    (hr : ∀ {A' : Around} {g' : Heap} {s' : Shared} {R' : Result → Shared → Prop}, Sur (n + 20) w.params A' g' → (∀ b o, g.get? b = some o → g'.get? b = some o) → (∀ q ∈ pre ++ post, g'.get? q.1 = some q.2) → Own g' s'.heap sm →
      (∀ (s'' : Shared) (r : Result) (sm' : Led), Own g' s''.heap sm' → P r sm' → s''.gens = s'.gens → s''.drawn = s'.drawn → s''.os = s'.os → R' r s'') → codeAny (model pw w) A' c' R' s')
    (h : ∀ r sm' sz2 tk2, P r sm' → Good (vOf pw w g A R d os) gens (after (some (cf', ac')) r (fun _ => pre ++ sm' ++ post) sz2 tk2)) : Good (vOf pw w g A R d os) gens cf' := by
  refine good_call p1 fun H D0 hsz => ?_
  have D' := p3 H D0
  have hm : ∀ p ∈ sm, p ∈ pre ++ sm ++ post := fun p hp => List.mem_append_left _ (List.mem_append_right _ hp)
  refine hr (Sur.child (cf := cf') S hn p2 (D'.ghost hm)) (D'.ghost hm) D'.rest D'.midG fun s'' r sm' D'' hP e1 e2 e3 => ?_
  obtain ⟨H'', gens'', d'', tk'', os''⟩ := s''
  dsimp only at e1 e2 e3 D''
  subst e1 e2 e3
  exact h r sm' H''.objs.size tk'' hP H'' (own_patchG D' D'') rfl
theorem of_loop {it eq ev : Nat} {a : AnA} {ca : CmA} {ks : List (Int × Int)} {V QL : List Value} {rows qs : List RowS} {sl : Array (Option Value)} {Q : Led} (S : Sur n (wB w b₁ b₂).params A g) (hn : n + 160 ≤ 700) (B : Dbl (wB w b₁ b₂).params g a ca ks V QL rows qs) : ∀ (m c : Nat) (I J : Option (Nat × Value)) (TL DL : List Value) (et ed : Nat) (s : Shared),
    c + m = rows.length → SameStr TL DL → TL.length + m * 11 ≤ 50000 → (I = none → J = none) →
    Own g s.heap (oLedK (wB w b₁ b₂).params it a (riO (c : Int) (m : Int)) I J sl V ev ([(a.lq, lstE QL eq), (a.lt, lstE TL et), (a.ld, lstE DL ed)] ++ Q)) →
    (∀ (s' : Shared) (I' J' : Option (Nat × Value)) (TL' DL' : List Value) (et' ed' : Nat), SameStr TL' DL' → (I ≠ none ∨ 0 < m → I' ≠ none) → (J ≠ none ∨ 0 < m → J' ≠ none) → (I' = none → J' = none) → TL'.length ≤ TL.length + m * 11 →
      Own g s'.heap ([(a.z, frK (wB w b₁ b₂).params a I' J' sl), (a.lr, lstE V ev), (a.lq, lstE QL eq), (a.lt, lstE TL' et'), (a.ld, lstE DL' ed')] ++ Q) → s'.gens = s.gens → s'.drawn = s.drawn → s'.os = s.os → R (.ok .next) s') →
    codeAny (model pw (wB w b₁ b₂)) A (forC (anSt 6) it (anEnv a.z)) R s := by
  intro m
  induction m with
  | zero =>
    intro c I J TL DL et ed s hj hS hl hIJ D h
    refine code_good D ?_
    obtain ⟨cf1, ac1, er1, hp, G⟩ := seg2 (gens := s.gens) (S.par (by omega) (R₀ := R) (d := s.drawn) (os := s.os)) (ofE w b₁ b₂ it a.z s.heap.objs.size s.toks c ([(a.z, frK (wB w b₁ b₂).params a I J sl), (a.lr, lstE V ev)] ++ ([(a.lq, lstE QL eq), (a.lt, lstE TL et), (a.ld, lstE DL ed)] ++ Q))) rfl
    simp only [Prod.mk.injEq] at hp
    obtain ⟨q1, q2, q3⟩ := hp
    refine G (good_done q1 q2 fun H D3 _ => ?_)
    exact h ⟨H, s.gens, s.drawn, cf1.tk, s.os⟩ I J TL DL et ed hS (fun q => q.elim (fun q => q) (fun q => absurd q (Nat.lt_irrefl _))) (fun q => q.elim (fun q => q) (fun q => absurd q (Nat.lt_irrefl _))) hIJ (by omega) (D3.drop q3) rfl rfl rfl
  | succ m ih =>
    intro c I J TL DL et ed s hj hS hl hIJ D h
    have hsm := B.small
    have hV := B.lenV
    have r1 : riC V = true := by
      show (decide ((0 : Int) = 0) && decide ((1 : Int) = 1) && decide (0 ≤ (V.length : Int)) && decide ((V.length : Int) < 65536)) = true
      rw [decide_eq_true (show (0 : Int) ≤ (V.length : Int) by omega), decide_eq_true (show (V.length : Int) < 65536 by omega)]; rfl
    have r2 : Nat.ble V.length 65536 = true := Nat.ble_eq_true_of_le (by omega)
    refine code_good D ?_
    obtain ⟨cf1, ac1, er1, hp, G⟩ := seg2 (gens := s.gens) (S.par (by omega) (R₀ := R) (d := s.drawn) (os := s.os)) (ofA w b₁ b₂ it m ev s.heap.objs.size s.toks c a I J sl V ([(a.lq, lstE QL eq), (a.lt, lstE TL et), (a.ld, lstE DL ed)] ++ Q) hIJ) (by rw [r1, r2])
    simp only [Prod.mk.injEq] at hp
    obtain ⟨p1, p2, p3, p4⟩ := hp
    obtain ⟨ki, ti, hI⟩ : ∃ ki ti, nK (s.toks + 1) I (.int (c : Int) s.toks) = some (ki, .int (c : Int) ti) := by
      rcases I with _ | ⟨ki, vi⟩
      · exact ⟨_, _, rfl⟩
      · exact ⟨_, _, rfl⟩
    rw [hI, ri_next] at p4
    generalize hz : s.heap.objs.size = z0 at *
    refine G (call_segJ (ac' := ac1) [(it, riO ((c + 1 : Nat) : Int) (m : Int))] (iLedK (wB w b₁ b₂).params (z0 + 1) a (riO ((0 : Nat) : Int) ((rows.length : Nat) : Int)) (some (ki, .int (c : Int) ti)) J sl QL TL V DL eq et ev ed []) Q
      (fun r sm => r = .ok .next ∧ ∃ J' TL' DL' et' ed', J' ≠ none ∧ SameStr TL' DL' ∧ TL'.length = TL.length + rows.length ∧ sm = [(a.z, frK (wB w b₁ b₂).params a (some (ki, .int (c : Int) ti)) J' sl), (a.lq, lstE QL eq), (a.lt, lstE TL' et'), (a.lr, lstE V ev), (a.ld, lstE DL' ed')]) S (by omega) p1 p2 (fun H D' => ?_) ?_ ?_)
    · have hled : ∃ y, cf1.led = (z0 + 1, riO 0 V.length) :: y :: (oLedK (wB w b₁ b₂).params it a (riO ((c + 1 : Nat) : Int) (m : Int)) (some (ki, .int (c : Int) ti)) J sl V ev ([(a.lq, lstE QL eq), (a.lt, lstE TL et), (a.ld, lstE DL ed)] ++ Q)) := by
        match hc : cf1.led, p3, p4 with
        | [], p3, _ => cases p3
        | [x], p3, p4 => cases p4
        | x :: y :: l, p3, p4 =>
          obtain rfl := Option.some.inj p3
          exact ⟨y, by rw [← p4]; rfl⟩
      obtain ⟨y, hled⟩ := hled
      rw [hled, hV] at D'
      exact D'.pickN (n := 8) (ks := [2, 0, 3, 5, 6, 4, 7]) (sel := [(it, riO ((c + 1 : Nat) : Int) (m : Int))] ++ iLedK (wB w b₁ b₂).params (z0 + 1) a (riO ((0 : Nat) : Int) ((rows.length : Nat) : Int)) (some (ki, .int (c : Int) ti)) J sl QL TL V DL eq et ev ed []) rfl rfl (by decide) (by decide)
    · intro A' g' s' R' S' hk hr D' h'
      exact if_loop S' (by omega) (B.mono hk) (by omega) rows.length 0 J TL DL et ed s' (by omega) hS (by omega) D' fun s'' J' TL' DL' et' ed' hS' hl' hJ' D'' e1 e2 e3 => h' s'' _ _ (by rw [List.append_nil] at D''; exact D'') ⟨rfl, J', TL', DL', et', ed', hJ' (.inr (by omega)), hS', hl', rfl⟩ e1 e2 e3
    · rintro r sm' sz2 tk2 ⟨rfl, J', TL', DL', et', ed', hJ', hS', hl', rfl⟩
      rw [← er1]
      obtain ⟨cf2, ac2, er2, hp, G⟩ := seg2 (gens := s.gens) (S.par (by omega) (R₀ := R) (d := s.drawn) (os := s.os)) (ofB w b₁ b₂ it m ev z0 s.toks sz2 tk2 c a I J sl V ([(a.lq, lstE QL eq), (a.lt, lstE TL et), (a.ld, lstE DL ed)] ++ Q) ([(it, riO ((c + 1 : Nat) : Int) (m : Int))] ++ [(a.z, frK (wB w b₁ b₂).params a (some (ki, .int (c : Int) ti)) J' sl), (a.lq, lstE QL eq), (a.lt, lstE TL' et'), (a.lr, lstE V ev), (a.ld, lstE DL' ed')] ++ Q)) rfl
      simp only [prA, Prod.mk.injEq] at hp
      obtain ⟨q1, q2, q3⟩ := hp
      refine G (good_again q1 q2 (of_quiet it a.z) fun H D3 => ?_)
      rw [q3] at D3
      have D4 : Own g H (oLedK (wB w b₁ b₂).params it a (riO ((c + 1 : Nat) : Int) (m : Int)) (some (ki, .int (c : Int) ti)) J' sl V ev ([(a.lq, lstE QL eq), (a.lt, lstE TL' et'), (a.ld, lstE DL' ed')] ++ Q)) :=
        D3.pickN (n := 6) (ks := [0, 1, 4, 2, 3, 5]) (sel := [(it, riO ((c + 1 : Nat) : Int) (m : Int)), (a.z, frK (wB w b₁ b₂).params a (some (ki, .int (c : Int) ti)) J' sl), (a.lr, lstE V ev), (a.lq, lstE QL eq), (a.lt, lstE TL' et'), (a.ld, lstE DL' ed')]) rfl rfl (by decide) (by decide)
      refine ih (c + 1) (some (ki, .int (c : Int) ti)) J' TL' DL' et' ed' ⟨H, s.gens, s.drawn, cf2.tk, s.os⟩ (by omega) hS' (by omega) (fun q => by cases q) D4 fun s' I2 J2 TL2 DL2 et2 ed2 hS2 hI2 hJ2 hIJ2 hl2 D5 e1 e2 e3 => ?_
      exact h s' I2 J2 TL2 DL2 et2 ed2 hS2 (fun _ => hI2 (.inl (by simp))) (fun _ => hJ2 (.inl hJ')) hIJ2 (by omega) D5 e1 e2 e3
end
end Mine
end
section
open PySem PySem.W PyProof.Rows PySem.Builtin PySem.Builtin.Str
set_option Elab.async false
set_option maxRecDepth 1000000
set_option maxHeartbeats 0
set_option linter.unusedVariables false
namespace Mine
open PySem.W.X (Kont Means aroundOf endOf okMark XV)
/-- _law_answers statement by statement -/
noncomputable abbrev anFc (z : Nat) : Code := .func (fnBody (stAt 32)) (anEnv z)
noncomputable abbrev stCf (p : Params) (is : List Nat) (z : Nat) (led : Led) (sz tk : Nat) : Cf := ⟨anFc z, .base, tF (exT (is.map anSt) (anEnv z)), led, sz, tk⟩
noncomputable def frS (p : Params) (k0 sc : Nat) : Obj := anFr [dE p "script" k0 (.ref sc)] 1
noncomputable def rows6 (z tk : Nat) : Led := [(z + 5, tup3 "%" (tk + 18) (-2) (tk + 20) "a" (tk + 21)), (z + 4, tup3 "%" (tk + 14) (-1) (tk + 16) "a b'" (tk + 17)), (z + 3, tup3 "it's" (tk + 10) (-2) (tk + 12) "%" (tk + 13)),
  (z + 2, tup3 "it's" (tk + 6) (-1) (tk + 8) "a b!" (tk + 9)), (z + 1, tup3 "" (tk + 3) 10 (tk + 4) "a b" (tk + 5)), (z, tup3 "" tk 9 (tk + 1) "a b" (tk + 2))]
noncomputable def refs6 (z : Nat) : List Value := [.ref z, .ref (z + 1), .ref (z + 2), .ref (z + 3), .ref (z + 4), .ref (z + 5)]
noncomputable def hbe : List Nat := [0, 0, 1, 1, 0, 9]
noncomputable def hb0_ : List Nat := [0, 0, 0, 0, 0, 0, 0, 0, 8, 8]
noncomputable def hb1_ : List Nat := [1, 3, 3, 3, 1]
noncomputable def hb1b : List Nat := [1, 1, 0, 1, 0, 1, 1]
noncomputable def hb2_ : List Nat := [1, 2, 2, 0, 2, 0, 1, 1]
noncomputable def hb2b : List Nat := [3, 3, 1, 1, 1, 1, 1, 1, 1, 1, 1]
noncomputable def hb6 : List Nat := [0, 0, 0, 0, 1, 93, 0, 0, 0, 0, 1, 1, 0, 1, 0, 1, 1, 1, 31, 1, 1]
noncomputable def hb7 : List Nat := [1, 2, 2, 2, 2, 0, 1, 3, 3, 0, 3, 0, 1, 1]
noncomputable def hb7b : List Nat := [1, 1, 1, 1]
noncomputable def hb7c : List Nat := [0, 1]
noncomputable def hb7d : List Nat := [99]
noncomputable def hb8 : List Nat := [1, 2, 2, 2, 2, 1, 3, 3, 0, 3, 0, 1, 1]
noncomputable def hb8b : List Nat := [1, 1, 1, 227]
noncomputable def hb9 : List Nat := [1, 1]
theorem stE (w : World) (b₁ b₂ : Bool) (sc z tk : Nat) (Q : Led) : SegOk (PT (wB w b₁ b₂).params) 30 (⟨anCode sc, .base, (PT (wB w b₁ b₂).params).den (anCode sc), Q, z, tk⟩) hbe prA [] []
    (.pure (.again (anFc z)), .base, (z, frS (wB w b₁ b₂).params tk sc) :: Q) := by
  kernel_rfl
theorem st0 (w : World) (b₁ b₂ : Bool) (z k0 sc sz tk : Nat) (Q : Led) : SegOk (PT (wB w b₁ b₂).params) 100 (stCf (wB w b₁ b₂).params [0] z ((z, frS (wB w b₁ b₂).params k0 sc) :: Q) sz tk) hb0_ prA [] []
    (.pure (.done .next), .base, (sz + 6, lstE (refs6 sz) 0) :: (rows6 sz tk ++ (z, frA (wB w b₁ b₂).params k0 (tk + 22) sc (sz + 6) none) :: Q)) := by
  kernel_rfl
theorem st1 (w : World) (b₁ b₂ : Bool) (z k0 k1 sc lr e sz tk : Nat) (Ls : List Value) (Q : Led) : SegOk (PT (wB w b₁ b₂).params) 30 (stCf (wB w b₁ b₂).params [1] z ((z, frA (wB w b₁ b₂).params k0 k1 sc lr none) :: (sc, lstE Ls e) :: Q) sz tk) hb1_ prB [] []
    (some (.call (.builtin "list.__getitem__") ⟨[.ref sc, .ref sz], []⟩, none), true, (sz, slO tk) :: (z, frA (wB w b₁ b₂).params k0 k1 sc lr none) :: (sc, lstE Ls e) :: Q) := by
  kernel_rfl
noncomputable abbrev s1Cf (p : Params) (z k0 k1 sc lr e sz tk : Nat) (Ls : List Value) (Q : Led) (L5 : Nat) (led : Led) (sz2 tk2 : Nat) : Cf := after (runC (PT p) 30 (stCf p [1] z ((z, frA p k0 k1 sc lr none) :: (sc, lstE Ls e) :: Q) sz tk) { hs := hb1_ }) (.ok (.ret (.ref L5))) (fun _ => led) sz2 tk2
theorem st1b (w : World) (b₁ b₂ : Bool) (z k0 k1 sc lr e sz tk L5 sz2 tk2 : Nat) (Ls S5 : List Value) (Q Q2 : Led) : SegOk (PT (wB w b₁ b₂).params) 30 (s1Cf (wB w b₁ b₂).params z k0 k1 sc lr e sz tk Ls Q L5 ((L5, lstE S5 0) :: Q2) sz2 tk2) hb1b prB [] []
    (some (forC (anSt 1) sz2 (anEnv z), none), true, (sz2, liO L5 0) :: (L5, lstE S5 0) :: Q2) := by
  cases b₁ <;> kernel_rfl
theorem st1c (w : World) (b₁ b₂ : Bool) (z k0 k1 sc lr e sz tk L5 sz2 tk2 sz3 tk3 : Nat) (Ls S5 : List Value) (Q Q2 Q3 : Led) : SegOk (PT (wB w b₁ b₂).params) 10 (after (runC (PT (wB w b₁ b₂).params) 30 (s1Cf (wB w b₁ b₂).params z k0 k1 sc lr e sz tk Ls Q L5 ((L5, lstE S5 0) :: Q2) sz2 tk2) { hs := hb1b }) (.ok .next) (fun _ => Q3) sz3 tk3) [] prA [] []
    (.pure (.done .next), .base, Q3) := by
  cases b₁ <;> kernel_rfl
theorem st2 (w : World) (b₁ b₂ : Bool) (z k0 k1 sc lr ev sz tk : Nat) (X : Option (Nat × Value)) (V : List Value) (Q : Led) : SegOk (PT (wB w b₁ b₂).params) 40 (stCf (wB w b₁ b₂).params [2] z ((z, frA (wB w b₁ b₂).params k0 k1 sc lr X) :: (lr, lstE V ev) :: Q) sz tk) hb2_ prB [] []
    (some (lc0 (wB w b₁ b₂).params z lr sz tk, none), true, [(sz + 2, cD (wB w b₁ b₂).params none), (sz + 1, lstE [] 0), (sz, liO lr 0)] ++ ((z, frA (wB w b₁ b₂).params k0 k1 sc lr X) :: (lr, lstE V ev) :: Q)) := by
  rcases X with _ | ⟨kx, vx⟩ <;> cases b₁ <;> kernel_rfl
noncomputable def frB (p : Params) (k0 k1 k2 sc lr lq : Nat) (X : Option (Nat × Value)) : Obj := anFr ([dE p "script" k0 (.ref sc), dE p "rows" k1 (.ref lr)] ++ xE p X ++ [dE p "listed" k2 (.ref lq)]) (oN X + 3)
theorem st2b (w : World) (b₁ b₂ : Bool) (z k0 k1 sc lr ev e sz tk sz2 tk2 : Nat) (X : Option (Nat × Value)) (V L : List Value) (Y : Nat × Nat × Nat × Value × Value × Value) (Q Q2 : Led) : SegOk (PT (wB w b₁ b₂).params) 60 (after (runC (PT (wB w b₁ b₂).params) 40 (stCf (wB w b₁ b₂).params [2] z ((z, frA (wB w b₁ b₂).params k0 k1 sc lr X) :: (lr, lstE V ev) :: Q) sz tk) { hs := hb2_ }) (.ok .next) (fun _ => (sz + 2, cD (wB w b₁ b₂).params (some Y)) :: (sz + 1, lstE L e) :: (z, frA (wB w b₁ b₂).params k0 k1 sc lr X) :: Q2) sz2 tk2) hb2b (fun cf => (cf.t, cf.κ, cf.led.drop 1)) [] []
    (.pure (.done .next), .base, (sz + 1, lstE L e) :: (z, frB (wB w b₁ b₂).params k0 k1 tk2 sc lr (sz + 1) X) :: Q2) := by
  obtain ⟨y1, y2, y3, y4, y5, y6⟩ := Y
  rcases X with _ | ⟨kx, vx⟩ <;> cases b₁ <;> kernel_rfl
noncomputable def sAkA (z : Nat) : Nat → Nat
  | 0 => z + 0 | 1 => z + 1 | _ => z + 2
noncomputable def sAtA (tk : Nat) : Nat → Nat
  | 6 => tk + 31 | 20 => tk + 0 | 21 => tk + 1 | 22 => tk + 2 | 23 => tk + 3 | 24 => tk + 4 | 25 => tk + 5 | _ => 0
noncomputable def sAA (z tk : Nat) : CmA := CmA.mk 0 0 (z + 17) (z + 16) (z + 3) (sAkA z) (sAtA tk)
noncomputable def hb30 : List Nat := [0, 0, 0, 0, 0, 0, 0, 0, 15, 15, 15, 0, 0, 15, 989, 19, 1, 1, 1, 0, 1, 0, 1, 15, 15, 0, 17, 0, 0, 0, 0, 0, 0, 0, 0, 0, 0, 0, 0, 0, 0, 0, 0, 0, 0, 0, 0, 0, 0, 0, 0, 0, 0, 0, 0, 0, 0, 0, 0, 0, 1, 0, 1, 0, 0, 0, 0, 0, 0, 0, 1, 1, 1, 1, 0, 0, 1, 1, 2, 0, 0, 0, 0, 2, 0, 0, 2, 0, 2, 0, 0, 0, 2, 0, 3, 3, 3, 1, 1, 1, 0, 1, 0, 1, 1, 0, 1, 0, 1, 1, 2, 1, 1, 1, 0, 1, 0, 1, 1, 2, 1, 1, 1, 0, 1, 0, 1, 1, 2, 1, 1, 1, 0, 1, 0, 1, 1, 2, 1, 1, 1, 24, 24, 24, 24, 24, 24]
noncomputable def anKA (z sc lr lq k0 k1 k2 sz tk : Nat) (X : Option (Nat × Value)) : AnA := ⟨z, sc, lr, lq, sz + 13, sz + 3, sz + 17, sz + 15, sz + 14, fun n => match n with | 0 => k0 | 1 => k1 | 2 => k2 | 3 => tk + 22 | 4 => tk + 27 | 5 => tk + 32 | 6 => tk + 33 | _ => tk + 34, X⟩
theorem st3A (w : World) (b₁ b₂ : Bool) (z k0 k1 k2 sc lr lq e sz tk : Nat) (X : Option (Nat × Value)) (Ls : List Value) (Q : Led) : SegOk (PT (wB w b₁ b₂).params) 400 (stCf (wB w b₁ b₂).params [3, 4, 5] z ((z, frB (wB w b₁ b₂).params k0 k1 k2 sc lr lq X) :: (sc, lstE Ls e) :: Q) sz tk) hb30 (fun cf => (cf.t, cf.κ, [7, 8, 23, 5, 6, 19, 22, 21, 20].map (nth cf.led), cf.led.drop 24)) [decide ((Ls.length : Int).fmod 4 = 0) && decide ((0 : Int) < 4) && decide ((4 : Int) < 65536), Nat.ble Ls.length 65536] [true, true]
    (.pure (.done .next), .base, ([(sz + 15, lstE [] 0), (sz + 14, lstE [] 0), (z, frK (wB w b₁ b₂).params (anKA z sc lr lq k0 k1 k2 sz tk X) none none #[])] ++ kRo (wB w b₁ b₂).params (sAA sz tk) keysA).map some, (sc, lstE Ls e) :: Q) := by
  rcases X with _ | ⟨kx, vx⟩ <;> cases b₁ <;> kernel_rfl
noncomputable def sAkB (z : Nat) : Nat → Nat
  | 0 => z + 4 | _ => z + 5
noncomputable def sAtB (tk : Nat) : Nat → Nat
  | 6 => tk + 31 | 20 => tk + 6 | 21 => tk + 8 | 22 => tk + 9 | 23 => tk + 10 | _ => 0
noncomputable def sAB (z tk : Nat) : CmA := CmA.mk 0 0 (z + 17) (z + 16) (z + 6) (sAkB z) (sAtB tk)
noncomputable def hb31 : List Nat := [0, 0, 0, 0, 0, 0, 0, 0, 15, 15, 15, 0, 0, 15, 989, 83, 1, 1, 1, 0, 1, 0, 1, 15, 15, 0, 17, 0, 0, 0, 0, 0, 0, 0, 0, 0, 0, 0, 0, 0, 0, 0, 0, 0, 0, 0, 0, 0, 0, 0, 0, 0, 0, 0, 0, 0, 0, 0, 0, 0, 1, 0, 1, 0, 0, 0, 0, 0, 0, 0, 1, 1, 1, 1, 0, 0, 1, 1, 2, 0, 0, 0, 0, 2, 0, 0, 2, 0, 2, 0, 0, 0, 2, 0, 3, 3, 3, 1, 1, 1, 0, 1, 0, 1, 1, 0, 1, 0, 1, 1, 2, 1, 1, 1, 0, 1, 0, 1, 1, 2, 1, 1, 1, 0, 1, 0, 1, 1, 2, 1, 1, 1, 0, 1, 0, 1, 1, 2, 1, 1, 1, 24, 24, 24, 24, 24, 24]
noncomputable def anKB (z sc lr lq k0 k1 k2 sz tk : Nat) (X : Option (Nat × Value)) : AnA := ⟨z, sc, lr, lq, sz + 13, sz + 6, sz + 17, sz + 15, sz + 14, fun n => match n with | 0 => k0 | 1 => k1 | 2 => k2 | 3 => tk + 22 | 4 => tk + 27 | 5 => tk + 32 | 6 => tk + 33 | _ => tk + 34, X⟩
theorem st3B (w : World) (b₁ b₂ : Bool) (z k0 k1 k2 sc lr lq e sz tk : Nat) (X : Option (Nat × Value)) (Ls : List Value) (Q : Led) : SegOk (PT (wB w b₁ b₂).params) 400 (stCf (wB w b₁ b₂).params [3, 4, 5] z ((z, frB (wB w b₁ b₂).params k0 k1 k2 sc lr lq X) :: (sc, lstE Ls e) :: Q) sz tk) hb31 (fun cf => (cf.t, cf.κ, [7, 8, 23, 5, 6, 16, 18, 17].map (nth cf.led), cf.led.drop 24)) [decide ((Ls.length : Int).fmod 4 = 1) && decide ((0 : Int) < 4) && decide ((4 : Int) < 65536), Nat.ble Ls.length 65536] [true, true]
    (.pure (.done .next), .base, ([(sz + 15, lstE [] 0), (sz + 14, lstE [] 0), (z, frK (wB w b₁ b₂).params (anKB z sc lr lq k0 k1 k2 sz tk X) none none #[])] ++ kRo (wB w b₁ b₂).params (sAB sz tk) keysB).map some, (sc, lstE Ls e) :: Q) := by
  rcases X with _ | ⟨kx, vx⟩ <;> cases b₁ <;> kernel_rfl
noncomputable def sAkC (z : Nat) : Nat → Nat
  | 0 => z + 7 | 1 => z + 8 | _ => z + 9
noncomputable def sAtC (tk : Nat) : Nat → Nat
  | 6 => tk + 31 | 20 => tk + 11 | 21 => tk + 13 | 22 => tk + 14 | 23 => tk + 16 | 24 => tk + 17 | 25 => tk + 18 | _ => 0
noncomputable def sAC (z tk : Nat) : CmA := CmA.mk 0 0 (z + 17) (z + 16) (z + 10) (sAkC z) (sAtC tk)
noncomputable def hb32 : List Nat := [0, 0, 0, 0, 0, 0, 0, 0, 15, 15, 15, 0, 0, 15, 989, 147, 1, 1, 1, 0, 1, 0, 1, 15, 15, 0, 17, 0, 0, 0, 0, 0, 0, 0, 0, 0, 0, 0, 0, 0, 0, 0, 0, 0, 0, 0, 0, 0, 0, 0, 0, 0, 0, 0, 0, 0, 0, 0, 0, 0, 1, 0, 1, 0, 0, 0, 0, 0, 0, 0, 1, 1, 1, 1, 0, 0, 1, 1, 2, 0, 0, 0, 0, 2, 0, 0, 2, 0, 2, 0, 0, 0, 2, 0, 3, 3, 3, 1, 1, 1, 0, 1, 0, 1, 1, 0, 1, 0, 1, 1, 2, 1, 1, 1, 0, 1, 0, 1, 1, 2, 1, 1, 1, 0, 1, 0, 1, 1, 2, 1, 1, 1, 0, 1, 0, 1, 1, 2, 1, 1, 1, 24, 24, 24, 24, 24, 24]
noncomputable def anKC (z sc lr lq k0 k1 k2 sz tk : Nat) (X : Option (Nat × Value)) : AnA := ⟨z, sc, lr, lq, sz + 13, sz + 10, sz + 17, sz + 15, sz + 14, fun n => match n with | 0 => k0 | 1 => k1 | 2 => k2 | 3 => tk + 22 | 4 => tk + 27 | 5 => tk + 32 | 6 => tk + 33 | _ => tk + 34, X⟩
theorem st3C (w : World) (b₁ b₂ : Bool) (z k0 k1 k2 sc lr lq e sz tk : Nat) (X : Option (Nat × Value)) (Ls : List Value) (Q : Led) : SegOk (PT (wB w b₁ b₂).params) 400 (stCf (wB w b₁ b₂).params [3, 4, 5] z ((z, frB (wB w b₁ b₂).params k0 k1 k2 sc lr lq X) :: (sc, lstE Ls e) :: Q) sz tk) hb32 (fun cf => (cf.t, cf.κ, [7, 8, 23, 5, 6, 12, 15, 14, 13].map (nth cf.led), cf.led.drop 24)) [decide ((Ls.length : Int).fmod 4 = 2) && decide ((0 : Int) < 4) && decide ((4 : Int) < 65536), Nat.ble Ls.length 65536] [true, true]
    (.pure (.done .next), .base, ([(sz + 15, lstE [] 0), (sz + 14, lstE [] 0), (z, frK (wB w b₁ b₂).params (anKC z sc lr lq k0 k1 k2 sz tk X) none none #[])] ++ kRo (wB w b₁ b₂).params (sAC sz tk) keysC).map some, (sc, lstE Ls e) :: Q) := by
  rcases X with _ | ⟨kx, vx⟩ <;> cases b₁ <;> kernel_rfl
noncomputable def sAkD (z : Nat) : Nat → Nat
  | _ => z + 11
noncomputable def sAtD (tk : Nat) : Nat → Nat
  | 6 => tk + 31 | 20 => tk + 19 | 21 => tk + 21 | _ => 0
noncomputable def sAD (z tk : Nat) : CmA := CmA.mk 0 0 (z + 17) (z + 16) (z + 12) (sAkD z) (sAtD tk)
noncomputable def hb33 : List Nat := [0, 0, 0, 0, 0, 0, 0, 0, 15, 15, 15, 0, 0, 15, 989, 211, 1, 1, 1, 0, 1, 0, 1, 15, 15, 0, 17, 0, 0, 0, 0, 0, 0, 0, 0, 0, 0, 0, 0, 0, 0, 0, 0, 0, 0, 0, 0, 0, 0, 0, 0, 0, 0, 0, 0, 0, 0, 0, 0, 0, 1, 0, 1, 0, 0, 0, 0, 0, 0, 0, 1, 1, 1, 1, 0, 0, 1, 1, 2, 0, 0, 0, 0, 2, 0, 0, 2, 0, 2, 0, 0, 0, 2, 0, 3, 3, 3, 1, 1, 1, 0, 1, 0, 1, 1, 0, 1, 0, 1, 1, 2, 1, 1, 1, 0, 1, 0, 1, 1, 2, 1, 1, 1, 0, 1, 0, 1, 1, 2, 1, 1, 1, 0, 1, 0, 1, 1, 2, 1, 1, 1, 24, 24, 24, 24, 24, 24]
noncomputable def anKD (z sc lr lq k0 k1 k2 sz tk : Nat) (X : Option (Nat × Value)) : AnA := ⟨z, sc, lr, lq, sz + 13, sz + 12, sz + 17, sz + 15, sz + 14, fun n => match n with | 0 => k0 | 1 => k1 | 2 => k2 | 3 => tk + 22 | 4 => tk + 27 | 5 => tk + 32 | 6 => tk + 33 | _ => tk + 34, X⟩
theorem st3D (w : World) (b₁ b₂ : Bool) (z k0 k1 k2 sc lr lq e sz tk : Nat) (X : Option (Nat × Value)) (Ls : List Value) (Q : Led) : SegOk (PT (wB w b₁ b₂).params) 400 (stCf (wB w b₁ b₂).params [3, 4, 5] z ((z, frB (wB w b₁ b₂).params k0 k1 k2 sc lr lq X) :: (sc, lstE Ls e) :: Q) sz tk) hb33 (fun cf => (cf.t, cf.κ, [7, 8, 23, 5, 6, 10, 11].map (nth cf.led), cf.led.drop 24)) [decide ((Ls.length : Int).fmod 4 = 3) && decide ((0 : Int) < 4) && decide ((4 : Int) < 65536), Nat.ble Ls.length 65536] [true, true]
    (.pure (.done .next), .base, ([(sz + 15, lstE [] 0), (sz + 14, lstE [] 0), (z, frK (wB w b₁ b₂).params (anKD z sc lr lq k0 k1 k2 sz tk X) none none #[])] ++ kRo (wB w b₁ b₂).params (sAD sz tk) keysD).map some, (sc, lstE Ls e) :: Q) := by
  rcases X with _ | ⟨kx, vx⟩ <;> cases b₁ <;> kernel_rfl
theorem st6 (w : World) (b₁ b₂ : Bool) (a : AnA) (ev sz tk : Nat) (sl : Array (Option Value)) (V : List Value) (Q : Led) : SegOk (PT (wB w b₁ b₂).params) 60 (stCf (wB w b₁ b₂).params [6] a.z ((a.z, frK (wB w b₁ b₂).params a none none sl) :: (a.lr, lstE V ev) :: Q) sz tk) hb6 (fun cf => (callOf cf.t, lowC cf, nth cf.led 0, cf.led.drop 2)) [riC V, Nat.ble V.length 65536] [true, true]
    (some (forC (anSt 6) (sz + 1) (anEnv a.z), none), true, some (sz + 1, riO 0 V.length), (a.z, frK (wB w b₁ b₂).params a none none sl) :: (a.lr, lstE V ev) :: Q) := by
  obtain ⟨z, sc, lr, lq, lls, lk, lo, ld, lt, k, X⟩ := a
  rcases X with _ | ⟨kx, vx⟩ <;> cases b₁ <;> kernel_rfl
theorem st6b (w : World) (b₁ b₂ : Bool) (a : AnA) (ev sz tk : Nat) (sl : Array (Option Value)) (V : List Value) (Q : Led) (sz2 tk2 : Nat) (Q2 : Led) : SegOk (PT (wB w b₁ b₂).params) 10 (after (runC (PT (wB w b₁ b₂).params) 60 (stCf (wB w b₁ b₂).params [6] a.z ((a.z, frK (wB w b₁ b₂).params a none none sl) :: (a.lr, lstE V ev) :: Q) sz tk) { hs := hb6 }) (.ok .next) (fun _ => Q2) sz2 tk2) [] prA [] []
    (.pure (.done .next), .base, Q2) := by
  obtain ⟨z, sc, lr, lq, lls, lk, lo, ld, lt, k, X⟩ := a
  rcases X with _ | ⟨kx, vx⟩ <;> cases b₁ <;> kernel_rfl
/-- the comprehensions of the names -/
noncomputable def aC (z : Nat) : AnA := ⟨z, 0, 1, 2, 3, 4, 5, 6, 7, fun _ => 0, none⟩
noncomputable def nc0 (i : Nat) (p : Params) (z q tk : Nat) : Code := match i with
  | 7 => codeAt (runC (PT p) 60 (stCf p [7] z ((z, frK p (aC z) (some (0, .none)) (some (0, .none)) #[]) :: (7, lstE [] 0) :: (2, lstE [] 0) :: []) q tk) { hs := hb7 })
  | _ => codeAt (runC (PT p) 60 (stCf p [8] z ((z, frK p (aC z) (some (0, .none)) (some (0, .none)) #[]) :: (6, lstE [] 0) :: (1, lstE [] 0) :: []) q tk) { hs := hb8 })
noncomputable def nc1 (i : Nat) (p : Params) (z q tk : Nat) : Code := loopOf (nc0 i p z q tk)
noncomputable def nD (p : Params) (Y : Option (Nat × Value)) : Obj := { cls := .type "dict", data := match Y with
  | some (k, v) => .dict [dE p "row" k v].toArray 1
  | none => .dict #[] 0 }
theorem st7 (w : World) (b₁ b₂ : Bool) (a : AnA) (et eq sz tk : Nat) (I J : Nat × Value) (sl : Array (Option Value)) (TL QL : List Value) (Q : Led) : SegOk (PT (wB w b₁ b₂).params) 60 (stCf (wB w b₁ b₂).params [7] a.z ((a.z, frK (wB w b₁ b₂).params a (some I) (some J) sl) :: (a.lt, lstE TL et) :: (a.lq, lstE QL eq) :: Q) sz tk) hb7 prB [] []
    (some (nc0 7 (wB w b₁ b₂).params a.z sz (tk), none), true, [(sz + 2, nD (wB w b₁ b₂).params none), (sz + 1, lstE [] 0), (sz, liO a.lq 0)] ++ ((a.z, frK (wB w b₁ b₂).params a (some I) (some J) sl) :: (a.lt, lstE TL et) :: (a.lq, lstE QL eq) :: Q)) := by
  obtain ⟨ki, vi⟩ := I
  obtain ⟨kj, vj⟩ := J
  obtain ⟨z, sc, lr, lq, lls, lk, lo, ld, lt, k, X⟩ := a
  rcases X with _ | ⟨kx, vx⟩ <;> cases b₁ <;> kernel_rfl
noncomputable abbrev s7a (p : Params) (a : AnA) (et eq sz tk : Nat) (I J : Nat × Value) (sl : Array (Option Value)) (TL QL : List Value) (Q : Led) (led : Led) (sz2 tk2 : Nat) : Cf := after (runC (PT p) 60 (stCf p [7] a.z ((a.z, frK p a (some I) (some J) sl) :: (a.lt, lstE TL et) :: (a.lq, lstE QL eq) :: Q) sz tk) { hs := hb7 }) (.ok .next) (fun _ => led) sz2 tk2
noncomputable abbrev s7b (p : Params) (a : AnA) (et eq sz tk : Nat) (I J : Nat × Value) (sl : Array (Option Value)) (TL QL : List Value) (Q : Led) (led : Led) (sz2 tk2 : Nat) (v : Value) (led2 : Led) (sz3 tk3 : Nat) : Cf := after (runC (PT p) 30 (s7a p a et eq sz tk I J sl TL QL Q led sz2 tk2) { hs := hb7b }) (.ok (.ret v)) (fun _ => led2) sz3 tk3
noncomputable abbrev s7c (p : Params) (a : AnA) (et eq sz tk : Nat) (I J : Nat × Value) (sl : Array (Option Value)) (TL QL : List Value) (Q : Led) (led : Led) (sz2 tk2 : Nat) (v : Value) (led2 : Led) (sz3 tk3 : Nat) (v2 : Value) (led3 : Led) (sz4 tk4 : Nat) : Cf := after (runC (PT p) 30 (s7b p a et eq sz tk I J sl TL QL Q led sz2 tk2 v led2 sz3 tk3) { hs := hb7c }) (.ok (.ret v2)) (fun _ => led3) sz4 tk4
theorem st7b (w : World) (b₁ b₂ : Bool) (a : AnA) (et eq sz tk : Nat) (I J : Nat × Value) (sl : Array (Option Value)) (TL QL : List Value) (Q : Led) (en sz2 tk2 : Nat) (NL : List Value) (Y : Nat × Value) (Q2 : Led) : SegOk (PT (wB w b₁ b₂).params) 30 (s7a (wB w b₁ b₂).params a et eq sz tk I J sl TL QL Q ((sz + 2, nD (wB w b₁ b₂).params (some Y)) :: (sz + 1, lstE NL en) :: (a.z, frK (wB w b₁ b₂).params a (some I) (some J) sl) :: (a.lt, lstE TL et) :: Q2) sz2 tk2) hb7b (fun cf => (callOf cf.t, lowC cf, cf.led.drop 1)) [] []
    (some (.call (.builtin "str.join") ⟨[.str " " (tk), .ref (sz + 1)], []⟩, none), true, (sz + 1, lstE NL en) :: (a.z, frK (wB w b₁ b₂).params a (some I) (some J) sl) :: (a.lt, lstE TL et) :: Q2) := by
  obtain ⟨ky, vy⟩ := Y
  obtain ⟨ki, vi⟩ := I
  obtain ⟨kj, vj⟩ := J
  obtain ⟨z, sc, lr, lq, lls, lk, lo, ld, lt, k, X⟩ := a
  rcases X with _ | ⟨kx, vx⟩ <;> cases b₁ <;> kernel_rfl
theorem st7c (w : World) (b₁ b₂ : Bool) (a : AnA) (et eq sz tk : Nat) (I J : Nat × Value) (sl : Array (Option Value)) (TL QL : List Value) (Q : Led) (en sz2 tk2 sz3 tk3 t : Nat) (NL : List Value) (Y : Nat × Value) (Bx : Str) (Q2 Q3 : Led) : SegOk (PT (wB w b₁ b₂).params) 30 (s7b (wB w b₁ b₂).params a et eq sz tk I J sl TL QL Q ((sz + 2, nD (wB w b₁ b₂).params (some Y)) :: (sz + 1, lstE NL en) :: (a.z, frK (wB w b₁ b₂).params a (some I) (some J) sl) :: (a.lt, lstE TL et) :: Q2) sz2 tk2 (.str Bx t) ((a.z, frK (wB w b₁ b₂).params a (some I) (some J) sl) :: (a.lt, lstE TL et) :: Q3) sz3 tk3) hb7c (fun cf => (callOf cf.t, lowC cf, envsC cf, cf.led)) [] []
    (some (.call (.ref 744) ⟨[.str Bx t], []⟩, none), true, [anEnv a.z], (a.z, frK (wB w b₁ b₂).params a (some I) (some J) sl) :: (a.lt, lstE TL et) :: Q3) := by
  obtain ⟨ky, vy⟩ := Y
  obtain ⟨ki, vi⟩ := I
  obtain ⟨kj, vj⟩ := J
  obtain ⟨z, sc, lr, lq, lls, lk, lo, ld, lt, k, X⟩ := a
  rcases X with _ | ⟨kx, vx⟩ <;> cases b₁ <;> kernel_rfl
theorem st7d (w : World) (b₁ b₂ : Bool) (a : AnA) (et eq sz tk : Nat) (I J : Nat × Value) (sl : Array (Option Value)) (TL QL : List Value) (Q : Led) (en sz2 tk2 sz3 tk3 sz4 tk4 t l : Nat) (NL : List Value) (Y : Nat × Value) (Bx : Str) (sl2 : Array (Option Value)) (Q2 Q3 Q4 : Led) : SegOk (PT (wB w b₁ b₂).params) 30 (s7c (wB w b₁ b₂).params a et eq sz tk I J sl TL QL Q ((sz + 2, nD (wB w b₁ b₂).params (some Y)) :: (sz + 1, lstE NL en) :: (a.z, frK (wB w b₁ b₂).params a (some I) (some J) sl) :: (a.lt, lstE TL et) :: Q2) sz2 tk2 (.str Bx t) ((a.z, frK (wB w b₁ b₂).params a (some I) (some J) sl) :: (a.lt, lstE TL et) :: Q3) sz3 tk3 (.ref l) ((a.z, frK (wB w b₁ b₂).params a (some I) (some J) sl2) :: (a.lt, lstE TL et) :: Q4) sz4 tk4) hb7d prA [Nat.ble TL.length 65536] [true]
    (.pure (.done .next), .base, (a.z, frK (wB w b₁ b₂).params a (some I) (some J) sl2) :: (a.lt, lstE (TL ++ [.ref l]) (et + 1)) :: Q4) := by
  obtain ⟨ky, vy⟩ := Y
  obtain ⟨ki, vi⟩ := I
  obtain ⟨kj, vj⟩ := J
  obtain ⟨z, sc, lr, lq, lls, lk, lo, ld, lt, k, X⟩ := a
  rcases X with _ | ⟨kx, vx⟩ <;> cases b₁ <;> kernel_rfl
theorem st8 (w : World) (b₁ b₂ : Bool) (a : AnA) (ed ev sz tk : Nat) (I J : Nat × Value) (sl : Array (Option Value)) (DL V : List Value) (Q : Led) : SegOk (PT (wB w b₁ b₂).params) 60 (stCf (wB w b₁ b₂).params [8] a.z ((a.z, frK (wB w b₁ b₂).params a (some I) (some J) sl) :: (a.ld, lstE DL ed) :: (a.lr, lstE V ev) :: Q) sz tk) hb8 prB [] []
    (some (nc0 8 (wB w b₁ b₂).params a.z sz tk, none), true, [(sz + 2, nD (wB w b₁ b₂).params none), (sz + 1, lstE [] 0), (sz, liO a.lr 0)] ++ ((a.z, frK (wB w b₁ b₂).params a (some I) (some J) sl) :: (a.ld, lstE DL ed) :: (a.lr, lstE V ev) :: Q)) := by
  obtain ⟨ki, vi⟩ := I
  obtain ⟨kj, vj⟩ := J
  obtain ⟨z, sc, lr, lq, lls, lk, lo, ld, lt, k, X⟩ := a
  rcases X with _ | ⟨kx, vx⟩ <;> cases b₁ <;> kernel_rfl
theorem st8b (w : World) (b₁ b₂ : Bool) (a : AnA) (ed ev sz tk : Nat) (I J : Nat × Value) (sl : Array (Option Value)) (DL V : List Value) (Q : Led) (en sz2 tk2 : Nat) (NL : List Value) (Y : Nat × Value) (Q2 : Led) : SegOk (PT (wB w b₁ b₂).params) 30 (after (runC (PT (wB w b₁ b₂).params) 60 (stCf (wB w b₁ b₂).params [8] a.z ((a.z, frK (wB w b₁ b₂).params a (some I) (some J) sl) :: (a.ld, lstE DL ed) :: (a.lr, lstE V ev) :: Q) sz tk) { hs := hb8 }) (.ok .next) (fun _ => ((sz + 2, nD (wB w b₁ b₂).params (some Y)) :: (sz + 1, lstE NL en) :: (a.z, frK (wB w b₁ b₂).params a (some I) (some J) sl) :: (a.ld, lstE DL ed) :: Q2)) sz2 tk2) hb8b (fun cf => (cf.t, cf.κ, cf.led.drop 1)) [Nat.ble DL.length 65536] [true]
    (.pure (.done .next), .base, (sz + 1, lstE NL en) :: (a.z, frK (wB w b₁ b₂).params a (some I) (some J) sl) :: (a.ld, lstE (DL ++ [.ref (sz + 1)]) (ed + 1)) :: Q2) := by
  obtain ⟨ky, vy⟩ := Y
  obtain ⟨ki, vi⟩ := I
  obtain ⟨kj, vj⟩ := J
  obtain ⟨z, sc, lr, lq, lls, lk, lo, ld, lt, k, X⟩ := a
  rcases X with _ | ⟨kx, vx⟩ <;> cases b₁ <;> kernel_rfl
theorem st9 (w : World) (b₁ b₂ : Bool) (a : AnA) (sz tk : Nat) (I J : Nat × Value) (sl : Array (Option Value)) (Q : Led) : SegOk (PT (wB w b₁ b₂).params) 30 (stCf (wB w b₁ b₂).params [9] a.z ((a.z, frK (wB w b₁ b₂).params a (some I) (some J) sl) :: Q) sz tk) hb9 prA [] []
    (.pure (.done (.ret (.ref sz))), .base, (sz, tupO [.ref a.lt, .ref a.ld]) :: (a.z, frK (wB w b₁ b₂).params a (some I) (some J) sl) :: Q) := by
  obtain ⟨ki, vi⟩ := I
  obtain ⟨kj, vj⟩ := J
  obtain ⟨z, sc, lr, lq, lls, lk, lo, ld, lt, k, X⟩ := a
  rcases X with _ | ⟨kx, vx⟩ <;> kernel_rfl
noncomputable def hncs (b₂ : Bool) : List Nat := match b₂ with
  | true => [9]
  | false => [3, 3, 0, 3, 0, 3, 9]
noncomputable def hnt0 : List Nat := [3, 1]
noncomputable def hnt1 : List Nat := [1, 1, 1, 1000, 1000, 1000, 0, 1000, 0, 1000, 99, 9]
noncomputable def hnte : List Nat := [3]
theorem nS7 (w : World) (b₁ b₂ : Bool) (z q tk src sz2 tk2 : Nat) (D acc : Obj) (T : Led) : SegOk (PT (wB w b₁ b₂).params) 30 (⟨nc0 7 (wB w b₁ b₂).params z q tk, .base, (PT (wB w b₁ b₂).params).den (nc0 7 (wB w b₁ b₂).params z q tk), cLed (wB w b₁ b₂).params q D acc (liO src 0) T, sz2, tk2⟩) (hncs b₂) prA [] []
    (.pure (.again (nc1 7 (wB w b₁ b₂).params z q tk)), .base, cLed (wB w b₁ b₂).params q D acc (liO src 0) T) := by
  cases b₁ <;> cases b₂ <;> kernel_rfl
theorem nQ7 (w : World) (b₁ b₂ : Bool) (z q tk : Nat) : (nc1 7 (wB w b₁ b₂).params z q tk).quiet = true := by cases b₁ <;> kernel_rfl
theorem nA7 (w : World) (b₁ b₂ : Bool) (z q tk src i sz2 tk2 : Nat) (D0 acc0 : Obj) (T0 : Led) : SegOk (PT (wB w b₁ b₂).params) 20 (⟨nc1 7 (wB w b₁ b₂).params z q tk, .base, (PT (wB w b₁ b₂).params).den (nc1 7 (wB w b₁ b₂).params z q tk), cLed (wB w b₁ b₂).params q D0 acc0 (liO src i) T0, sz2, tk2⟩) hnt0 prB [] []
    (some (nextCode "list_iterator.__next__" q, none), true, cLed (wB w b₁ b₂).params q D0 acc0 (liO src i) T0) := by
  cases b₁ <;> kernel_rfl
theorem nB7 (w : World) (b₁ b₂ : Bool) (z q tk src i sz2 tk2 sz3 tk3 r t1 t2 t3 e : Nat) (f m : Str) (nn : Int) (D0 acc0 : Obj) (L : List Value) (Y : Option (Nat × Value)) (T0 T : Led) : SegOk (PTr (wB w b₁ b₂).params (roR r f t1 nn t2 m t3)) 60 (after (runC (PT (wB w b₁ b₂).params) 20 (⟨nc1 7 (wB w b₁ b₂).params z q tk, .base, (PT (wB w b₁ b₂).params).den (nc1 7 (wB w b₁ b₂).params z q tk), cLed (wB w b₁ b₂).params q D0 acc0 (liO src i) T0, sz2, tk2⟩) { hs := hnt0 }) (.ok (.ret (.ref r))) (fun _ => cLed (wB w b₁ b₂).params q (nD (wB w b₁ b₂).params Y) (lstE L e) (liO src (i + 1)) T) sz3 tk3) hnt1 prA [Nat.ble L.length 65536] [true]
    (.pure (.again (nc1 7 (wB w b₁ b₂).params z q tk)), .base, cLed (wB w b₁ b₂).params q (nD (wB w b₁ b₂).params (nK tk3 Y (.ref r))) (lstE (L ++ [.str m t3]) (e + 1)) (liO src (i + 1)) T) := by
  rcases Y with _ | ⟨ky, vy⟩ <;> cases b₁ <;> kernel_rfl
theorem nE7 (w : World) (b₁ b₂ : Bool) (z q tk src i sz2 tk2 sz3 tk3 ee et : Nat) (D0 acc0 D acc : Obj) (T0 rest : Led) : SegOk (PT (wB w b₁ b₂).params) 20 (after (runC (PT (wB w b₁ b₂).params) 20 (⟨nc1 7 (wB w b₁ b₂).params z q tk, .base, (PT (wB w b₁ b₂).params).den (nc1 7 (wB w b₁ b₂).params z q tk), cLed (wB w b₁ b₂).params q D0 acc0 (liO src i) T0, sz2, tk2⟩) { hs := hnt0 }) (.error (.ref ee)) (fun _ => (q + 2, D) :: (q + 1, acc) :: (ee, stopO et) :: rest) sz3 tk3) hnte prA [] []
    (.pure (.done .next), .base, (q + 2, D) :: (q + 1, acc) :: (ee, stopO et) :: rest) := by
  cases b₁ <;> kernel_rfl
theorem nS8 (w : World) (b₁ b₂ : Bool) (z q tk src sz2 tk2 : Nat) (D acc : Obj) (T : Led) : SegOk (PT (wB w b₁ b₂).params) 30 (⟨nc0 8 (wB w b₁ b₂).params z q tk, .base, (PT (wB w b₁ b₂).params).den (nc0 8 (wB w b₁ b₂).params z q tk), cLed (wB w b₁ b₂).params q D acc (liO src 0) T, sz2, tk2⟩) (hncs b₂) prA [] []
    (.pure (.again (nc1 8 (wB w b₁ b₂).params z q tk)), .base, cLed (wB w b₁ b₂).params q D acc (liO src 0) T) := by
  cases b₁ <;> cases b₂ <;> kernel_rfl
theorem nQ8 (w : World) (b₁ b₂ : Bool) (z q tk : Nat) : (nc1 8 (wB w b₁ b₂).params z q tk).quiet = true := by cases b₁ <;> kernel_rfl
theorem nA8 (w : World) (b₁ b₂ : Bool) (z q tk src i sz2 tk2 : Nat) (D0 acc0 : Obj) (T0 : Led) : SegOk (PT (wB w b₁ b₂).params) 20 (⟨nc1 8 (wB w b₁ b₂).params z q tk, .base, (PT (wB w b₁ b₂).params).den (nc1 8 (wB w b₁ b₂).params z q tk), cLed (wB w b₁ b₂).params q D0 acc0 (liO src i) T0, sz2, tk2⟩) hnt0 prB [] []
    (some (nextCode "list_iterator.__next__" q, none), true, cLed (wB w b₁ b₂).params q D0 acc0 (liO src i) T0) := by
  cases b₁ <;> kernel_rfl
theorem nB8 (w : World) (b₁ b₂ : Bool) (z q tk src i sz2 tk2 sz3 tk3 r t1 t2 t3 e : Nat) (f m : Str) (nn : Int) (D0 acc0 : Obj) (L : List Value) (Y : Option (Nat × Value)) (T0 T : Led) : SegOk (PTr (wB w b₁ b₂).params (roR r f t1 nn t2 m t3)) 60 (after (runC (PT (wB w b₁ b₂).params) 20 (⟨nc1 8 (wB w b₁ b₂).params z q tk, .base, (PT (wB w b₁ b₂).params).den (nc1 8 (wB w b₁ b₂).params z q tk), cLed (wB w b₁ b₂).params q D0 acc0 (liO src i) T0, sz2, tk2⟩) { hs := hnt0 }) (.ok (.ret (.ref r))) (fun _ => cLed (wB w b₁ b₂).params q (nD (wB w b₁ b₂).params Y) (lstE L e) (liO src (i + 1)) T) sz3 tk3) hnt1 prA [Nat.ble L.length 65536] [true]
    (.pure (.again (nc1 8 (wB w b₁ b₂).params z q tk)), .base, cLed (wB w b₁ b₂).params q (nD (wB w b₁ b₂).params (nK tk3 Y (.ref r))) (lstE (L ++ [.str m t3]) (e + 1)) (liO src (i + 1)) T) := by
  rcases Y with _ | ⟨ky, vy⟩ <;> cases b₁ <;> kernel_rfl
theorem nE8 (w : World) (b₁ b₂ : Bool) (z q tk src i sz2 tk2 sz3 tk3 ee et : Nat) (D0 acc0 D acc : Obj) (T0 rest : Led) : SegOk (PT (wB w b₁ b₂).params) 20 (after (runC (PT (wB w b₁ b₂).params) 20 (⟨nc1 8 (wB w b₁ b₂).params z q tk, .base, (PT (wB w b₁ b₂).params).den (nc1 8 (wB w b₁ b₂).params z q tk), cLed (wB w b₁ b₂).params q D0 acc0 (liO src i) T0, sz2, tk2⟩) { hs := hnt0 }) (.error (.ref ee)) (fun _ => (q + 2, D) :: (q + 1, acc) :: (ee, stopO et) :: rest) sz3 tk3) hnte prA [] []
    (.pure (.done .next), .base, (q + 2, D) :: (q + 1, acc) :: (ee, stopO et) :: rest) := by
  cases b₁ <;> kernel_rfl
end Mine
end
section
open PySem PySem.W PyProof.Rows PySem.Builtin PySem.Builtin.Str
set_option Elab.async false
set_option maxRecDepth 100000
set_option maxHeartbeats 1000000
set_option linter.unusedVariables false
namespace Mine
open PySem.W.X (Kont Means aroundOf endOf okMark XV)
noncomputable def joinL : List (List Nat) → List Nat
  | [] => []
  | [w] => w
  | w :: ws => w ++ 32 :: joinL ws
theorem join_L : ∀ ws : List (List Nat), Str.join ⟨#[32]⟩ (ws.map sW) = sW (joinL ws)
  | [] => rfl
  | [w] => rfl
  | w :: v :: ws => by
    have ih := join_L (v :: ws)
    show (sW w ++ sW [32]) ++ Str.join ⟨#[32]⟩ ((v :: ws).map sW) = _
    rw [ih, sW_app, sW_app]
    show sW (w ++ [32] ++ joinL (v :: ws)) = sW (w ++ 32 :: joinL (v :: ws))
    rw [List.append_assoc]; rfl
theorem strs_vals : ∀ {NL : List Value} {ws : List (List Nat)}, StrsOf NL ws → ∃ l : List (Str × Tok), strValues l = NL ∧ l.map (·.1) = ws.map sW
  | [], [], _ => ⟨[], rfl, rfl⟩
  | v :: vs, w :: ws, h => by
    obtain ⟨⟨t, rfl⟩, h2⟩ := h
    obtain ⟨l, e1, e2⟩ := strs_vals h2
    exact ⟨(sW w, t) :: l, by rw [← e1]; rfl, by rw [List.map_cons, List.map_cons, e2]⟩
  | [], _ :: _, h => h.elim
  | _ :: _, [], h => h.elim
theorem sum_le (ws : List (List Nat)) (k : Nat) (h : ∀ w ∈ ws, w.length ≤ k) : ((ws.map sW).map (·.length)).sum ≤ ws.length * k := by
  induction ws with
  | nil => simp
  | cons w ws ih =>
    simp only [List.map_cons, List.sum_cons, List.length_cons]
    have h1 : (sW w).length ≤ k := h w List.mem_cons_self
    have h2 := ih fun v hv => h v (List.mem_cons_of_mem _ hv)
    rw [Nat.succ_mul]; omega
section
variable {prog : Program} {w : World} {A : Around} {s : Shared} {R : Result → Shared → Prop}
theorem codeAny_meets {T : String} {name : Str} {id : String} {B : Builtin} {self : Value} {rest : List Value} {S : PySem.Spec} (slot : Slot T name id) (hT : s.TypeIs self T)
    (entry : entryFor table id = some B) (args : argsOk id ⟨self :: rest, []⟩) (g : Meets (B ⟨self :: rest, []⟩) S) (h : S A R s) :
    codeAny (model prog w) A (.call (.builtin id) ⟨self :: rest, []⟩) R s :=
  codeAny_call_builtin slot.plain entry (slot.check _ _ _ _ _ _ _ _ hT args (g prog w A R s h))
theorem lit_sp : (Str.ofString " ") = ⟨#[32]⟩ := by decide +kernel
theorem join_code {D e t : Nat} {NL : List Value} {ws : List (List Nat)} (hS : StrsOf NL ws) (ho : s.heap.get? D = some (lstE NL e)) (hl : ws.length ≤ 11) (h6 : ∀ w ∈ ws, w.length ≤ 100)
    (h : ∀ t' k, R (.ok (.ret (.str (sW (joinL ws)) t'))) { s with toks := k }) : codeAny (model prog w) A (.call (.builtin "str.join") ⟨[.str " " t, .ref D], []⟩) R s := by
  obtain ⟨l, e1, e2⟩ := strs_vals hS
  have hlist : s.heap.IsList D (strValues l).toArray := by rw [e1]; exact ⟨_, ho, rfl, _, rfl⟩
  have hok : tooLong ((l.map (·.1)).toArray.foldl (· + ·.length + (Str.ofString " ").length) 0) = false := by
    rw [StrLaws.joinTotal, e2, lit_sp]
    unfold tooLong sizeLine
    have := sum_le ws 100 h6
    have h1 : (ws.map sW).length = ws.length := List.length_map ..
    have h2 : (⟨#[32]⟩ : Str).length = 1 := rfl
    have h3 : ws.length * 100 ≤ 11 * 100 := Nat.mul_le_mul_right _ hl
    refine decide_eq_false ?_
    rw [h1, h2]
    omega
  refine codeAny_meets F.slot_str_join (typeIs_str _ _ _) F.entry_str_join (F.args_str_join_2 _ _) (meets_str_join_list _ t D l hok) ⟨hlist, post_join l ⟨joinFit_length hok, fun t' k => ?_⟩⟩
  have : Txt.join (Str.ofString " ") (l.map (·.1)) = sW (joinL ws) := by
    show glued _ _ = _
    rw [StrLaws.glued_eq_join, e2, lit_sp, join_L]
  rw [this]
  exact h t' k
end
theorem join_text : ∀ ws : List (List Nat), joinL (ws.map quoteL) = textOf ws
  | [] => rfl
  | [w] => rfl
  | w :: v :: ws => by
    show quoteL w ++ 32 :: joinL ((v :: ws).map quoteL) = quoteL w ++ 32 :: textOf (v :: ws)
    rw [join_text (v :: ws)]
section
variable {w : World} {b₁ b₂ : Bool} {A : Around} {g : Heap} {n : Nat} {R : Result → Shared → Prop}
theorem nm_loop {ii z q tk src er : Nat} {V : List Value} (hii : ii = 7 ∨ ii = 8) (S : Sur n (wB w b₁ b₂).params A g) (hn : n + 40 ≤ 700) (hsrc : g.get? src = some (lstE V er)) : ∀ (r : List Value) (rs : List RowS) (done : List (List Nat)) (i e : Nat) (L : List Value) (Y : Option (Nat × Value)) (s : Shared),
    V.drop i = r → r.length = rs.length → (∀ (j : Nat) (x : RowS), rs[j]? = some x → ∃ b t1 t2 t3, r.getD j .none = .ref b ∧ g.get? b = some (tup3 x.f t1 x.n t2 x.m t3)) → L.length + r.length ≤ 65536 → StrsOf L done → (r = [] → Y ≠ none) →
    Own g s.heap (cLed (wB w b₁ b₂).params q (nD (wB w b₁ b₂).params Y) (lstE L e) (liO src i) []) →
    (∀ (s' : Shared) (L' : List Value) (e' : Nat) (Y' : Nat × Value), StrsOf L' (done ++ rs.map (fun x => x.m.cps.toList)) →
      Own g s'.heap [(q + 2, nD (wB w b₁ b₂).params (some Y')), (q + 1, lstE L' e')] → s'.gens = s.gens → s'.drawn = s.drawn → s'.os = s.os → R (.ok .next) s') →
    codeAny (model pw (wB w b₁ b₂)) A (nc1 ii (wB w b₁ b₂).params z q tk) R s := by
  intro r
  induction r with
  | nil =>
    intro rs done i e L Y s hd hlen hrow hL hS hY D h
    cases rs with
    | cons _ _ => simp at hlen
    | nil =>
    cases Y with
    | none => exact absurd rfl (hY rfl)
    | some Y =>
    refine code_good D ?_
    have sgA : SegOk (PT (wB w b₁ b₂).params) 20 ⟨nc1 ii (wB w b₁ b₂).params z q tk, .base, (PT (wB w b₁ b₂).params).den (nc1 ii (wB w b₁ b₂).params z q tk), cLed (wB w b₁ b₂).params q (nD (wB w b₁ b₂).params (some Y)) (lstE L e) (liO src i) [], s.heap.objs.size, s.toks⟩ hnt0 prB [] [] (some (nextCode "list_iterator.__next__" q, none), true, cLed (wB w b₁ b₂).params q (nD (wB w b₁ b₂).params (some Y)) (lstE L e) (liO src i) []) := by
      rcases hii with rfl | rfl
      · exact nA7 ..
      · exact nA8 ..
    obtain ⟨cf1, ac1, er1, hp, G⟩ := seg2 (gens := s.gens) (S.par (by omega) (R₀ := R) (d := s.drawn) (os := s.os)) sgA rfl
    simp only [prB, Prod.mk.injEq] at hp
    obtain ⟨p1, p2, p3⟩ := hp
    refine G (call_segG (ac' := ac1) [(q + 2, nD (wB w b₁ b₂).params (some Y)), (q + 1, lstE L e)] [(q, liO src i)] [] (fun r sm => ∃ ee et, r = .error (.ref ee) ∧ sm = [(ee, stopO et), (et, nilO), (q, liE i)]) S (by omega) p1 p2 (by rw [p3]; rfl) ?_ ?_)
    · intro A' g' s' R' S' hk hr D' h'
      refine nx_list_end S'.handled (hk _ _ hsrc) rfl (by rw [List.drop_eq_nil_iff] at hd; simpa using hd) D' fun H et ee D'' => h' _ _ _ D'' ⟨ee, et, rfl, rfl⟩ rfl rfl rfl
    · rintro rr sm' sz2 tk2 ⟨ee, et, rfl, rfl⟩
      rw [← er1]
      have sgE : SegOk (PT (wB w b₁ b₂).params) 20 (after (runC (PT (wB w b₁ b₂).params) 20 ⟨nc1 ii (wB w b₁ b₂).params z q tk, .base, (PT (wB w b₁ b₂).params).den (nc1 ii (wB w b₁ b₂).params z q tk), cLed (wB w b₁ b₂).params q (nD (wB w b₁ b₂).params (some Y)) (lstE L e) (liO src i) [], s.heap.objs.size, s.toks⟩ { hs := hnt0 }) (.error (.ref ee)) (fun _ => (q + 2, nD (wB w b₁ b₂).params (some Y)) :: (q + 1, lstE L e) :: (ee, stopO et) :: [(et, nilO), (q, liE i)]) sz2 tk2) hnte prA [] [] (.pure (.done .next), .base, (q + 2, nD (wB w b₁ b₂).params (some Y)) :: (q + 1, lstE L e) :: (ee, stopO et) :: [(et, nilO), (q, liE i)]) := by
        rcases hii with rfl | rfl
        · exact nE7 ..
        · exact nE8 ..
      obtain ⟨cf2, _, _, hp, G⟩ := seg2 (gens := s.gens) (S.par (by omega) (R₀ := R) (d := s.drawn) (os := s.os)) sgE rfl
      simp only [prA, Prod.mk.injEq] at hp
      obtain ⟨q1, q2, q3⟩ := hp
      refine G (good_done q1 q2 fun H D3 _ => ?_)
      rw [q3] at D3
      refine h ⟨H, s.gens, s.drawn, cf2.tk, s.os⟩ L e Y (by simpa using hS) ?_ rfl rfl rfl
      have := D3.pickN (n := 5) (ks := [0, 1]) (sel := [(q + 2, nD (wB w b₁ b₂).params (some Y)), (q + 1, lstE L e)]) (fs := []) rfl rfl (by decide) (by decide)
      exact this
  | cons v r ih =>
    intro rs done i e L Y s hd hlen hrow hL hS hY D h
    cases rs with
    | nil => simp at hlen
    | cons row rs =>
    have hv : V[i]? = some v := by
      have := congrArg (·[0]?) hd
      simpa using this
    have hd' : V.drop (i + 1) = r := by rw [← List.drop_drop, hd]; rfl
    obtain ⟨ra, t1, t2, t3, ev, hga⟩ := hrow 0 row rfl
    obtain rfl : v = .ref ra := ev
    have hro1 : ∀ p ∈ roR ra row.f t1 row.n t2 row.m t3, g.get? p.1 = some p.2 := fun p hp => by
      rw [List.mem_singleton] at hp
      subst hp
      exact hga
    simp only [List.length_cons] at hL hlen
    refine code_good D ?_
    have sgA : SegOk (PT (wB w b₁ b₂).params) 20 ⟨nc1 ii (wB w b₁ b₂).params z q tk, .base, (PT (wB w b₁ b₂).params).den (nc1 ii (wB w b₁ b₂).params z q tk), cLed (wB w b₁ b₂).params q (nD (wB w b₁ b₂).params Y) (lstE L e) (liO src i) [], s.heap.objs.size, s.toks⟩ hnt0 prB [] [] (some (nextCode "list_iterator.__next__" q, none), true, cLed (wB w b₁ b₂).params q (nD (wB w b₁ b₂).params Y) (lstE L e) (liO src i) []) := by
      rcases hii with rfl | rfl
      · exact nA7 ..
      · exact nA8 ..
    obtain ⟨cf1, ac1, er1, hp, G⟩ := seg2 (gens := s.gens) (S.par (by omega) (R₀ := R) (d := s.drawn) (os := s.os)) sgA rfl
    simp only [prB, Prod.mk.injEq] at hp
    obtain ⟨p1, p2, p3⟩ := hp
    refine G (call_segG (ac' := ac1) [(q + 2, nD (wB w b₁ b₂).params Y), (q + 1, lstE L e)] [(q, liO src i)] [] (fun r sm => r = .ok (.ret (.ref ra)) ∧ sm = [(q, liO src (i + 1))]) S (by omega) p1 p2 (by rw [p3]; rfl) ?_ ?_)
    · intro A' g' s' R' S' hk hr D' h'
      exact nx_list_item (hk _ _ hsrc) rfl (by simpa using hv) D' fun H D'' => h' _ _ _ D'' ⟨rfl, rfl⟩ rfl rfl rfl
    · rintro rr sm' sz2 tk2 ⟨rfl, rfl⟩
      rw [← er1]
      have sgB : SegOk (PTr (wB w b₁ b₂).params (roR ra row.f t1 row.n t2 row.m t3)) 60 (after (runC (PT (wB w b₁ b₂).params) 20 ⟨nc1 ii (wB w b₁ b₂).params z q tk, .base, (PT (wB w b₁ b₂).params).den (nc1 ii (wB w b₁ b₂).params z q tk), cLed (wB w b₁ b₂).params q (nD (wB w b₁ b₂).params Y) (lstE L e) (liO src i) [], s.heap.objs.size, s.toks⟩ { hs := hnt0 }) (.ok (.ret (.ref ra))) (fun _ => cLed (wB w b₁ b₂).params q (nD (wB w b₁ b₂).params Y) (lstE L e) (liO src (i + 1)) []) sz2 tk2) hnt1 prA [Nat.ble L.length 65536] [true] (.pure (.again (nc1 ii (wB w b₁ b₂).params z q tk)), .base, cLed (wB w b₁ b₂).params q (nD (wB w b₁ b₂).params (nK tk2 Y (.ref ra))) (lstE (L ++ [.str row.m t3]) (e + 1)) (liO src (i + 1)) []) := by
        rcases hii with rfl | rfl
        · exact nB7 w b₁ b₂ z q tk src i _ _ sz2 tk2 ra t1 t2 t3 e row.f row.m row.n _ _ L Y [] []
        · exact nB8 w b₁ b₂ z q tk src i _ _ sz2 tk2 ra t1 t2 t3 e row.f row.m row.n _ _ L Y [] []
      obtain ⟨cf2, ac2, er2, hp, G⟩ := seg2 (gens := s.gens) (S.parR (by omega) hro1 (R₀ := R) (d := s.drawn) (os := s.os)) sgB (by rw [Nat.ble_eq_true_of_le (by omega)])
      simp only [prA, Prod.mk.injEq] at hp
      obtain ⟨q1, q2, q3⟩ := hp
      refine G (good_again q1 q2 (by rcases hii with rfl | rfl; exact nQ7 ..; exact nQ8 ..) fun H D3 => ?_)
      rw [q3] at D3
      obtain ⟨Y', hY'⟩ : ∃ Y', nK tk2 Y (.ref ra) = some Y' := by rcases Y with _ | ⟨k, v⟩ <;> exact ⟨_, rfl⟩
      rw [hY'] at D3
      refine ih rs (done ++ [row.m.cps.toList]) (i + 1) (e + 1) _ (some Y') ⟨H, s.gens, s.drawn, cf2.tk, s.os⟩ hd' (by omega) (fun j x hx => ?_) (by simp only [List.length_append, List.length_cons, List.length_nil]; omega) hS.snoc (fun _ q => by cases q) D3 fun s' L' e' Y2 hS2 D5 e1 e2 e3 => ?_
      · have := hrow (j + 1) x (by simpa using hx)
        simpa using this
      · exact h s' L' e' Y2 (by rw [List.append_assoc] at hS2; exact hS2) D5 e1 e2 e3
end
end Mine
end
section
open PySem PySem.W PyProof.Rows PySem.Builtin PySem.Builtin.Str
set_option Elab.async false
set_option maxRecDepth 100000
set_option maxHeartbeats 1000000
set_option linter.unusedVariables false
namespace Mine
open PySem.W.X (Kont Means aroundOf endOf okMark XV)
theorem after_sub {V : XV} {gens : Array GenState} {x : Option (Cf × Ac)} {r : Result} {led led' : Led} {sz tk : Nat} (e : ∀ H, Own V.h₀ H led → Own V.h₀ H led') (h : Good V gens (after x r (fun _ => led') sz tk)) (hx : x ≠ none) : Good V gens (after x r (fun _ => led) sz tk) := by
  cases x with
  | none => exact absurd rfl hx
  | some x =>
    obtain ⟨cf, ac⟩ := x
    intro H D hz
    exact h H (e H D) hz
theorem wp_execs_app {M : Model} {Γ} {env : Env} {E} {Q} {l2 : List Stmt} : ∀ (l1 : List Stmt) p s, Sem.wp M Γ (execs l1 env) (fun f p' s' => match f with | .next => Sem.wp M Γ (execs l2 env) Q E p' s' | f => Q f p' s') E p s → Sem.wp M Γ (execs (l1 ++ l2) env) Q E p s
  | [], p, s, h => by
    have e : execs [] env = pure .next := rfl
    rw [e] at h
    exact h
  | st :: l1, p, s, h => by
    have e1 : execs (st :: l1) env = exec st env >>= fun f => match f with | .next => execs l1 env | f => pure f := rfl
    have e2 : execs (st :: l1 ++ l2) env = exec st env >>= fun f => match f with | .next => execs (l1 ++ l2) env | f => pure f := rfl
    rw [e1, Sem.wp_bind'] at h
    rw [e2, Sem.wp_bind']
    refine Sem.wp_mono _ Γ _ (fun f p' s' h' => ?_) (fun _ _ _ h' => h') p s h
    cases f with
    | next => exact wp_execs_app l1 p' s' h'
    | _ => exact h'
theorem own_execs_app {prog : Program} {w : World} {A : Around} {c : Code} {env : Env} {E : Value → Shared → Prop} {Q : Flow → Shared → Prop} {l1 l2 : List Stmt} {s : Shared} (h : wpOwn (model prog w) A c (execs l1 env) (fun f s' => match f with | .next => wpOwn (model prog w) A c (execs l2 env) Q E s' | f => Q f s') E s) : wpOwn (model prog w) A c (execs (l1 ++ l2) env) Q E s := by
  intro Γ p hc hΓ
  refine wp_execs_app l1 p s ?_
  refine Sem.wp_mono _ Γ _ (fun f p' s' h' => ?_) (fun _ _ _ h' => h') p s (h Γ p hc hΓ)
  cases f with
  | next => exact h' Γ p' hc hΓ
  | _ => exact h'
/-- a block of statements, as a structure: so that nothing runs it while it is being unified -/
structure ExP (w : World) (A : Around) (c : Code) (b : List Stmt) (env : Env) (Q : Flow → Shared → Prop) (E : Value → Shared → Prop) (s : Shared) : Prop where
  out : wpOwn (model pw w) A c (execs b env) Q E s
section
variable {w : World} {A : Around} {g : Heap} {c : Code} {led : Led} {s : Shared} {b : List Stmt} {env : Env} {Q : Flow → Shared → Prop} {E : Value → Shared → Prop}
theorem ex_goodP (D : Own g s.heap led)
    (G : Good (vOf pw w g A (fun r s' => match r with | .ok f => Q f s' | .error e => E e s') s.drawn s.os) s.gens ⟨c, .base, tF (exT b env), led, s.heap.objs.size, s.toks⟩) : ExP w A c b env Q E s := ⟨ex_good D G⟩
theorem exP_app {l1 l2 : List Stmt} (h : ExP w A c l1 env (fun f s' => match f with | .next => ExP w A c l2 env Q E s' | f => Q f s') E s) : ExP w A c (l1 ++ l2) env Q E s := by
  refine ⟨own_execs_app ?_⟩
  intro Γ p hc hΓ
  refine Sem.wp_mono _ Γ _ (fun f p' s' h' => ?_) (fun _ _ _ h' => h') p s (h.out Γ p hc hΓ)
  cases f with
  | next => exact ExP.out h'
  | _ => exact h'
theorem func_ownP {body : List Stmt} {R : Result → Shared → Prop} (h : ExP w A (.func body env) body env (fun f s' => R (.ok (.ret (match f with | .ret v => v | _ => .none))) s') (fun _ _ => False) s) :
    codeAny (model pw w) A (.func body env) R s := func_own h.out
end
noncomputable def lawRows : List RowS := [⟨"", 9, "a b"⟩, ⟨"", 10, "a b"⟩, ⟨"it's", -1, "a b!"⟩, ⟨"it's", -2, "%"⟩, ⟨"%", -1, "a b'"⟩, ⟨"%", -2, "a"⟩]
theorem lawRows_six : ∀ r ∈ lawRows, r.Six := by
  intro r hr
  simp only [lawRows, List.mem_cons, List.not_mem_nil, or_false] at hr
  rcases hr with rfl | rfl | rfl | rfl | rfl | rfl <;> exact ⟨by decide +kernel, by decide +kernel⟩
theorem lawRows_at (z tk : Nat) : RowsAt (rows6 z tk) (refs6 z) lawRows := by
  have h0 : RowAt (rows6 z tk) (.ref z) ⟨"", 9, "a b"⟩ := ⟨z, tup3 "" tk 9 (tk + 1) "a b" (tk + 2), rfl, by unfold rows6; exact .tail _ (.tail _ (.tail _ (.tail _ (.tail _ (.head _))))), rowOf_tup ..⟩
  have h1 : RowAt (rows6 z tk) (.ref (z + 1)) ⟨"", 10, "a b"⟩ := ⟨z + 1, tup3 "" (tk + 3) 10 (tk + 4) "a b" (tk + 5), rfl, by unfold rows6; exact .tail _ (.tail _ (.tail _ (.tail _ (.head _)))), rowOf_tup ..⟩
  have h2 : RowAt (rows6 z tk) (.ref (z + 2)) ⟨"it's", -1, "a b!"⟩ := ⟨z + 2, tup3 "it's" (tk + 6) (-1) (tk + 8) "a b!" (tk + 9), rfl, by unfold rows6; exact .tail _ (.tail _ (.tail _ (.head _))), rowOf_tup ..⟩
  have h3 : RowAt (rows6 z tk) (.ref (z + 3)) ⟨"it's", -2, "%"⟩ := ⟨z + 3, tup3 "it's" (tk + 10) (-2) (tk + 12) "%" (tk + 13), rfl, by unfold rows6; exact .tail _ (.tail _ (.head _)), rowOf_tup ..⟩
  have h4 : RowAt (rows6 z tk) (.ref (z + 4)) ⟨"%", -1, "a b'"⟩ := ⟨z + 4, tup3 "%" (tk + 14) (-1) (tk + 16) "a b'" (tk + 17), rfl, by unfold rows6; exact .tail _ (.head _), rowOf_tup ..⟩
  have h5 : RowAt (rows6 z tk) (.ref (z + 5)) ⟨"%", -2, "a"⟩ := ⟨z + 5, tup3 "%" (tk + 18) (-2) (tk + 20) "a" (tk + 21), rfl, by unfold rows6; exact .head _, rowOf_tup ..⟩
  exact ⟨h0, h1, h2, h3, h4, h5, trivial⟩
theorem own_in {g H : Heap} {a b T fs : Led} (D : Own g H (a ++ (b ++ (T ++ fs)))) : Own g H ([] ++ (a ++ T) ++ (b ++ fs)) := by
  refine D.perm ?_
  rw [List.nil_append, List.append_assoc]
  exact List.Perm.append_left _ (List.perm_append_comm_assoc ..)
theorem own_out {g H : Heap} {a b T fs : Led} (D : Own g H ([] ++ (a ++ T) ++ (b ++ fs))) : Own g H (a ++ (b ++ (T ++ fs))) := by
  refine D.perm ?_
  rw [List.nil_append, List.append_assoc]
  exact List.Perm.append_left _ (List.perm_append_comm_assoc ..)
section
variable {w : World} {b₁ b₂ : Bool} {A : Around} {g : Heap} {n : Nat} {s : Shared} {Q : Flow → Shared → Prop} {E : Value → Shared → Prop}
theorem s0_own {z k0 sc : Nat} {L : Led} (S : Sur n (wB w b₁ b₂).params A g) (hn : n ≤ 700) (D : Own g s.heap ((z, frS (wB w b₁ b₂).params k0 sc) :: L))
    (h : ∀ (s' : Shared) (k1 lr : Nat) (V : List Value) (ev : Nat) (T : Led), RowsAt T V lawRows → Own g s'.heap ((z, frA (wB w b₁ b₂).params k0 k1 sc lr none) :: (lr, lstE V ev) :: (T ++ L)) → s'.gens = s.gens → s'.drawn = s.drawn → s'.os = s.os → Q .next s') :
    ExP (wB w b₁ b₂) A (anFc z) [anSt 0] (anEnv z) Q E s := by
  refine ex_goodP D ?_
  obtain ⟨cf1, ac1, er1, hp, G⟩ := seg2 (gens := s.gens) (S.par hn (R₀ := fun r s' => match r with | .ok f => Q f s' | .error e => E e s') (d := s.drawn) (os := s.os)) (st0 w b₁ b₂ z k0 sc s.heap.objs.size s.toks L) rfl
  simp only [prA, Prod.mk.injEq] at hp
  obtain ⟨q1, q2, q3⟩ := hp
  refine G (good_done q1 q2 fun H D3 _ => ?_)
  rw [q3] at D3
  have hrw := lawRows_at s.heap.objs.size s.toks
  refine h ⟨H, s.gens, s.drawn, cf1.tk, s.os⟩ (s.toks + 22) (s.heap.objs.size + 6) (refs6 s.heap.objs.size) 0 (rows6 s.heap.objs.size s.toks) hrw ?_ rfl rfl rfl
  exact D3.pickN (n := 8) (ks := [7, 0, 1, 2, 3, 4, 5, 6]) (sel := (z, frA (wB w b₁ b₂).params k0 (s.toks + 22) sc (s.heap.objs.size + 6) none) :: (s.heap.objs.size + 6, lstE (refs6 s.heap.objs.size) 0) :: rows6 s.heap.objs.size s.toks) rfl rfl (by decide) (by decide)
theorem s1_own {z k0 k1 sc lr e ev : Nat} {Ls V : List Value} {rows : List RowS} {T fs : Led} (S : Sur n (wB w b₁ b₂).params A g) (hn : n + 60 ≤ 700) (hLs : Ls.length ≤ 63) (hints : ∀ v ∈ Ls, ∃ x t, v = .int x t) (hR : RowsAt T V rows) (h6 : ∀ r ∈ rows, r.Six) (hrl : rows.length = 6)
    (D : Own g s.heap ((z, frA (wB w b₁ b₂).params k0 k1 sc lr none) :: (sc, lstE Ls e) :: (lr, lstE V ev) :: (T ++ fs)))
    (h : ∀ (s' : Shared) (V' : List Value) (ev' : Nat) (X' : Option (Nat × Value)) (T' : Led) (rows' : List RowS), RowsAt T' V' rows' → (∀ r ∈ rows', r.Six) → rows'.length ≤ 11 → 6 ≤ rows'.length →
      Own g s'.heap ((z, frA (wB w b₁ b₂).params k0 k1 sc lr X') :: (lr, lstE V' ev') :: (sc, lstE Ls e) :: (T' ++ fs)) → s'.gens = s.gens → s'.drawn = s.drawn → s'.os = s.os → Q .next s') :
    ExP (wB w b₁ b₂) A (anFc z) [anSt 1] (anEnv z) Q E s := by
  refine ex_goodP D ?_
  obtain ⟨cf1, ac1, er1, hp, G⟩ := seg2 (gens := s.gens) (S.par (by omega) (R₀ := fun r s' => match r with | .ok f => Q f s' | .error e => E e s') (d := s.drawn) (os := s.os)) (st1 w b₁ b₂ z k0 k1 sc lr e s.heap.objs.size s.toks Ls ((lr, lstE V ev) :: (T ++ fs))) rfl
  simp only [prB, Prod.mk.injEq] at hp
  obtain ⟨p1, p2, p3⟩ := hp
  generalize s.heap.objs.size = sz at *
  generalize s.toks = tk at *
  refine G (call_segG (ac' := ac1) [] [] cf1.led (fun r sm => ∃ l5, r = .ok (.ret (.ref l5)) ∧ sm = [(l5, lstE (Ls.take 5) 0)]) S (by omega) p1 p2 rfl ?_ ?_)
  · intro A' g' s' R' S' hk hr D' h'
    rw [p3] at hr
    refine lsl_code (t := tk) (D'.keep _ _ (hr (sc, lstE Ls e) (.tail _ (.tail _ (.head _))))) (D'.keep _ _ (hr (sz, slO tk) List.mem_cons_self)) (by omega) ?_
    exact h' _ _ _ (D'.alloc (o := lstE (Ls.take 5) 0) rfl) ⟨_, rfl, rfl⟩ rfl rfl rfl
  · rintro rr sm' sz2 tk2 ⟨l5, rfl, rfl⟩
    rw [p3, ← er1]
    obtain ⟨cf2, ac2, er2, hp, G⟩ := seg2 (gens := s.gens) (S.par (by omega) (R₀ := fun r s' => match r with | .ok f => Q f s' | .error e => E e s') (d := s.drawn) (os := s.os)) (st1b w b₁ b₂ z k0 k1 sc lr e sz tk l5 sz2 tk2 Ls (Ls.take 5) ((lr, lstE V ev) :: (T ++ fs)) ((sz, slO tk) :: (z, frA (wB w b₁ b₂).params k0 k1 sc lr none) :: (sc, lstE Ls e) :: (lr, lstE V ev) :: (T ++ fs))) rfl
    simp only [prB, Prod.mk.injEq] at hp
    obtain ⟨p1, p2, p3⟩ := hp
    refine G (call_segJ (ac' := ac2) [] ([(sz2, liO l5 0), (lr, lstE V ev), (z, frA (wB w b₁ b₂).params k0 k1 sc lr none)] ++ T) ([(l5, lstE (Ls.take 5) 0), (sc, lstE Ls e)] ++ fs) (fun r sm => r = .ok .next ∧ ∃ V' ev' X' T' rows', RowsAt T' V' rows' ∧ (∀ r ∈ rows', r.Six) ∧ rows'.length = rows.length + (Ls.take 5).length ∧ sm = [(lr, lstE V' ev'), (z, frA (wB w b₁ b₂).params k0 k1 sc lr X')] ++ T') S (by omega) p1 p2 (fun H D' => ?_) ?_ ?_)
    · rw [p3] at D'
      refine own_in ?_
      exact D'.pickN (n := 6) (ks := [0, 5, 3, 1, 4]) (sel := [(sz2, liO l5 0), (lr, lstE V ev), (z, frA (wB w b₁ b₂).params k0 k1 sc lr none), (l5, lstE (Ls.take 5) 0), (sc, lstE Ls e)]) rfl rfl (by decide) (by decide)
    · intro A' g' s' R' S' hk hr D' h'
      refine af_loop S' (by omega) (hr (l5, lstE (Ls.take 5) 0) (by simp)) (fun v hv => hints v (List.mem_of_mem_take hv)) (Ls.take 5) 0 ev V none T rows s' rfl ?_ hR h6 D' fun s'' L' e' X' T' rows' a1 a2 a3 D2 e1 e2 e3 => h' s'' _ _ D2 ⟨rfl, L', e', X', T', rows', a1, a2, a3, rfl⟩ e1 e2 e3
      rw [hR.len, hrl, List.length_take]; omega
    · rintro rr sm' sz3 tk3 ⟨rfl, V', ev', X', T', rows', a1, a2, a3, rfl⟩
      rw [← er2]
      obtain ⟨cf3, ac3, er3, hp, G⟩ := seg2 (gens := s.gens) (S.par (by omega) (R₀ := fun r s' => match r with | .ok f => Q f s' | .error e => E e s') (d := s.drawn) (os := s.os)) (st1c w b₁ b₂ z k0 k1 sc lr e sz tk l5 sz2 tk2 sz3 tk3 Ls (Ls.take 5) ((lr, lstE V ev) :: (T ++ fs)) ((sz, slO tk) :: (z, frA (wB w b₁ b₂).params k0 k1 sc lr none) :: (sc, lstE Ls e) :: (lr, lstE V ev) :: (T ++ fs)) ([] ++ ([(lr, lstE V' ev'), (z, frA (wB w b₁ b₂).params k0 k1 sc lr X')] ++ T') ++ ([(l5, lstE (Ls.take 5) 0), (sc, lstE Ls e)] ++ fs))) rfl
      simp only [prA, Prod.mk.injEq] at hp
      obtain ⟨q1, q2, q3⟩ := hp
      refine G (good_done q1 q2 fun H D3 _ => ?_)
      rw [q3] at D3
      have D4 := own_out D3
      refine h ⟨H, s.gens, s.drawn, cf3.tk, s.os⟩ V' ev' X' T' rows' a1 a2 (by rw [a3, hrl, List.length_take]; omega) (by omega) ?_ rfl rfl rfl
      exact D4.pickN (n := 4) (ks := [1, 0, 3]) (sel := [(z, frA (wB w b₁ b₂).params k0 k1 sc lr X'), (lr, lstE V' ev'), (sc, lstE Ls e)]) rfl rfl (by decide) (by decide)
theorem s2_own {z k0 k1 sc lr ev : Nat} {X : Option (Nat × Value)} {V : List Value} {rows : List RowS} {T L : Led} {osc : Obj} (S : Sur n (wB w b₁ b₂).params A g) (hn : n + 80 ≤ 700) (hR : RowsAt T V rows) (h6 : ∀ r ∈ rows, r.Six) (hrl : rows.length ≤ 11) (hr6 : 6 ≤ rows.length)
    (D : Own g s.heap ((z, frA (wB w b₁ b₂).params k0 k1 sc lr X) :: (lr, lstE V ev) :: (sc, osc) :: (T ++ L)))
    (h : ∀ (s' : Shared) (k2 lq : Nat) (QL : List Value) (eq : Nat) (TQ : Led) (qs : List RowS), RowsAt TQ QL qs → QuotedL rows qs →
      Own g s'.heap ((z, frB (wB w b₁ b₂).params k0 k1 k2 sc lr lq X) :: (sc, osc) :: (lq, lstE QL eq) :: (lr, lstE V ev) :: (TQ ++ (T ++ L))) → s'.gens = s.gens → s'.drawn = s.drawn → s'.os = s.os → Q .next s') :
    ExP (wB w b₁ b₂) A (anFc z) [anSt 2] (anEnv z) Q E s := by
  refine ex_goodP D ?_
  obtain ⟨cf1, ac1, er1, hp, G⟩ := seg2 (gens := s.gens) (S.par (by omega) (R₀ := fun r s' => match r with | .ok f => Q f s' | .error e => E e s') (d := s.drawn) (os := s.os)) (st2 w b₁ b₂ z k0 k1 sc lr ev s.heap.objs.size s.toks X V ((sc, osc) :: (T ++ L))) rfl
  simp only [prB, Prod.mk.injEq] at hp
  obtain ⟨p1, p2, p3⟩ := hp
  generalize s.heap.objs.size = sz at *
  generalize s.toks = tk at *
  refine G (call_segG (ac' := ac1) [] [(sz + 2, cD (wB w b₁ b₂).params none), (sz + 1, lstE [] 0), (sz, liO lr 0)] ([(z, frA (wB w b₁ b₂).params k0 k1 sc lr X), (lr, lstE V ev), (sc, osc)] ++ (T ++ L)) (fun r sm => r = .ok .next ∧ ∃ QL eq Y TQ qs, RowsAt TQ QL qs ∧ QuotedL rows qs ∧ sm = [(sz + 2, cD (wB w b₁ b₂).params (some Y)), (sz + 1, lstE QL eq)] ++ TQ) S (by omega) p1 p2 (by rw [p3]; rfl) ?_ ?_)
  · intro A' g' s' R' S' hk hr D' h'
    refine code_good D' ?_
    obtain ⟨cf2, ac2, er2, hp, G⟩ := seg2 (gens := s'.gens) (S'.par (by omega) (R₀ := R') (d := s'.drawn) (os := s'.os)) (lcS w b₁ b₂ z lr sz tk s'.heap.objs.size s'.toks (cD (wB w b₁ b₂).params none) (lstE [] 0) []) rfl
    simp only [prA, Prod.mk.injEq] at hp
    obtain ⟨q1, q2, q3⟩ := hp
    refine G (good_again q1 q2 (lc1_quiet ..) fun H D3 => ?_)
    rw [q3] at D3
    refine lc_loop (TR := T) (rows := rows) S' (by omega) (hr (lr, lstE V ev) (.tail _ (.head _))) (fun p hp => hr p (.tail _ (.tail _ (.tail _ (show p ∈ T ++ L from List.mem_append_left _ hp))))) V rows [] 0 0 [] none [] [] _ rfl hR h6 (by rw [hR.len]; simp; omega) trivial trivial (fun q => ?_) D3 fun s'' L' e' Y T' qs a1 a2 D4 e1 e2 e3 => h' s'' _ _ D4 ⟨rfl, L', e', Y, T', qs, a1, a2, rfl⟩ e1 e2 e3
    have := hR.len
    rw [q] at this
    simp at this
    omega
  · rintro rr sm' sz2 tk2 ⟨rfl, QL, eq, Y, TQ, qs, a1, a2, rfl⟩
    refine after_sub (led' := [(sz + 2, cD (wB w b₁ b₂).params (some Y)), (sz + 1, lstE QL eq)] ++ ([(z, frA (wB w b₁ b₂).params k0 k1 sc lr X), (lr, lstE V ev), (sc, osc)] ++ (TQ ++ (T ++ L)))) (fun H D' => own_out D') ?_ (by simp)
    rw [← er1]
    obtain ⟨cf3, ac3, er3, hp, G⟩ := seg2 (gens := s.gens) (S.par (by omega) (R₀ := fun r s' => match r with | .ok f => Q f s' | .error e => E e s') (d := s.drawn) (os := s.os)) (st2b w b₁ b₂ z k0 k1 sc lr ev eq sz tk sz2 tk2 X V QL Y ((sc, osc) :: (T ++ L)) ((lr, lstE V ev) :: (sc, osc) :: (TQ ++ (T ++ L)))) rfl
    simp only [Prod.mk.injEq] at hp
    obtain ⟨q1, q2, q3⟩ := hp
    refine G (good_done q1 q2 fun H D3 _ => ?_)
    have D4 := D3.drop q3
    refine h ⟨H, s.gens, s.drawn, cf3.tk, s.os⟩ tk2 (sz + 1) QL eq TQ qs a1 a2 ?_ rfl rfl rfl
    exact D4.pickN (n := 4) (ks := [1, 3, 0, 2]) (sel := [(z, frB (wB w b₁ b₂).params k0 k1 tk2 sc lr (sz + 1) X), (sc, osc), (sz + 1, lstE QL eq), (lr, lstE V ev)]) rfl rfl (by decide) (by decide)
end
end Mine
end
section
open PySem PySem.W PyProof.Rows PySem.Builtin PySem.Builtin.Str
set_option Elab.async false
set_option maxRecDepth 100000
set_option maxHeartbeats 1000000
set_option linter.unusedVariables false
namespace Mine
open PySem.W.X (Kont Means aroundOf endOf okMark XV)
section
variable {w : World} {b₁ b₂ : Bool} {A : Around} {g : Heap} {n : Nat} {s : Shared} {Q : Flow → Shared → Prop} {E : Value → Shared → Prop}
theorem s3A_own {z k0 k1 k2 sc lr lq e : Nat} {X : Option (Nat × Value)} {Ls : List Value} {L : Led} (S : Sur n (wB w b₁ b₂).params A g) (hn : n ≤ 700) (hLs : Ls.length ≤ 63) (hm : (Ls.length : Int).fmod 4 = 0)
    (D : Own g s.heap ((z, frB (wB w b₁ b₂).params k0 k1 k2 sc lr lq X) :: (sc, lstE Ls e) :: L))
    (h : ∀ (s' : Shared) (a : AnA) (ca : CmA) (ks : List (Int × Int)), a.z = z → a.sc = sc → a.lr = lr → a.lq = lq → (ks = keysA ∨ ks = keysB ∨ ks = keysC ∨ ks = keysD) → ca.x = a.lo → ca.kl = a.lk →
      Own g s'.heap ([(a.ld, lstE [] 0), (a.lt, lstE [] 0), (a.z, frK (wB w b₁ b₂).params a none none #[])] ++ kRo (wB w b₁ b₂).params ca ks ++ (sc, lstE Ls e) :: L) → s'.gens = s.gens → s'.drawn = s.drawn → s'.os = s.os → Q .next s') :
    ExP (wB w b₁ b₂) A (anFc z) [anSt 3, anSt 4, anSt 5] (anEnv z) Q E s := by
  refine ex_goodP D ?_
  obtain ⟨cf1, ac1, er1, hp, G⟩ := seg2 (gens := s.gens) (S.par hn (R₀ := fun r s' => match r with | .ok f => Q f s' | .error e => E e s') (d := s.drawn) (os := s.os)) (st3A w b₁ b₂ z k0 k1 k2 sc lr lq e s.heap.objs.size s.toks X Ls L) (by rw [hm, Nat.ble_eq_true_of_le (show Ls.length ≤ 65536 by omega)]; rfl)
  simp only [Prod.mk.injEq] at hp
  obtain ⟨q1, q2, q3, q4⟩ := hp
  refine G (good_done q1 q2 fun H D3 _ => ?_)
  have D4 := D3.pickN (n := 24) (ks := [7, 8, 23, 5, 6, 19, 22, 21, 20]) q4 q3 (by decide) (by decide)
  exact h ⟨H, s.gens, s.drawn, cf1.tk, s.os⟩ (anKA z sc lr lq k0 k1 k2 s.heap.objs.size s.toks X) (sAA s.heap.objs.size s.toks) keysA rfl rfl rfl rfl (by simp) rfl rfl D4 rfl rfl rfl
theorem s3B_own {z k0 k1 k2 sc lr lq e : Nat} {X : Option (Nat × Value)} {Ls : List Value} {L : Led} (S : Sur n (wB w b₁ b₂).params A g) (hn : n ≤ 700) (hLs : Ls.length ≤ 63) (hm : (Ls.length : Int).fmod 4 = 1)
    (D : Own g s.heap ((z, frB (wB w b₁ b₂).params k0 k1 k2 sc lr lq X) :: (sc, lstE Ls e) :: L))
    (h : ∀ (s' : Shared) (a : AnA) (ca : CmA) (ks : List (Int × Int)), a.z = z → a.sc = sc → a.lr = lr → a.lq = lq → (ks = keysA ∨ ks = keysB ∨ ks = keysC ∨ ks = keysD) → ca.x = a.lo → ca.kl = a.lk →
      Own g s'.heap ([(a.ld, lstE [] 0), (a.lt, lstE [] 0), (a.z, frK (wB w b₁ b₂).params a none none #[])] ++ kRo (wB w b₁ b₂).params ca ks ++ (sc, lstE Ls e) :: L) → s'.gens = s.gens → s'.drawn = s.drawn → s'.os = s.os → Q .next s') :
    ExP (wB w b₁ b₂) A (anFc z) [anSt 3, anSt 4, anSt 5] (anEnv z) Q E s := by
  refine ex_goodP D ?_
  obtain ⟨cf1, ac1, er1, hp, G⟩ := seg2 (gens := s.gens) (S.par hn (R₀ := fun r s' => match r with | .ok f => Q f s' | .error e => E e s') (d := s.drawn) (os := s.os)) (st3B w b₁ b₂ z k0 k1 k2 sc lr lq e s.heap.objs.size s.toks X Ls L) (by rw [hm, Nat.ble_eq_true_of_le (show Ls.length ≤ 65536 by omega)]; rfl)
  simp only [Prod.mk.injEq] at hp
  obtain ⟨q1, q2, q3, q4⟩ := hp
  refine G (good_done q1 q2 fun H D3 _ => ?_)
  have D4 := D3.pickN (n := 24) (ks := [7, 8, 23, 5, 6, 16, 18, 17]) q4 q3 (by decide) (by decide)
  exact h ⟨H, s.gens, s.drawn, cf1.tk, s.os⟩ (anKB z sc lr lq k0 k1 k2 s.heap.objs.size s.toks X) (sAB s.heap.objs.size s.toks) keysB rfl rfl rfl rfl (by simp) rfl rfl D4 rfl rfl rfl
theorem s3C_own {z k0 k1 k2 sc lr lq e : Nat} {X : Option (Nat × Value)} {Ls : List Value} {L : Led} (S : Sur n (wB w b₁ b₂).params A g) (hn : n ≤ 700) (hLs : Ls.length ≤ 63) (hm : (Ls.length : Int).fmod 4 = 2)
    (D : Own g s.heap ((z, frB (wB w b₁ b₂).params k0 k1 k2 sc lr lq X) :: (sc, lstE Ls e) :: L))
    (h : ∀ (s' : Shared) (a : AnA) (ca : CmA) (ks : List (Int × Int)), a.z = z → a.sc = sc → a.lr = lr → a.lq = lq → (ks = keysA ∨ ks = keysB ∨ ks = keysC ∨ ks = keysD) → ca.x = a.lo → ca.kl = a.lk →
      Own g s'.heap ([(a.ld, lstE [] 0), (a.lt, lstE [] 0), (a.z, frK (wB w b₁ b₂).params a none none #[])] ++ kRo (wB w b₁ b₂).params ca ks ++ (sc, lstE Ls e) :: L) → s'.gens = s.gens → s'.drawn = s.drawn → s'.os = s.os → Q .next s') :
    ExP (wB w b₁ b₂) A (anFc z) [anSt 3, anSt 4, anSt 5] (anEnv z) Q E s := by
  refine ex_goodP D ?_
  obtain ⟨cf1, ac1, er1, hp, G⟩ := seg2 (gens := s.gens) (S.par hn (R₀ := fun r s' => match r with | .ok f => Q f s' | .error e => E e s') (d := s.drawn) (os := s.os)) (st3C w b₁ b₂ z k0 k1 k2 sc lr lq e s.heap.objs.size s.toks X Ls L) (by rw [hm, Nat.ble_eq_true_of_le (show Ls.length ≤ 65536 by omega)]; rfl)
  simp only [Prod.mk.injEq] at hp
  obtain ⟨q1, q2, q3, q4⟩ := hp
  refine G (good_done q1 q2 fun H D3 _ => ?_)
  have D4 := D3.pickN (n := 24) (ks := [7, 8, 23, 5, 6, 12, 15, 14, 13]) q4 q3 (by decide) (by decide)
  exact h ⟨H, s.gens, s.drawn, cf1.tk, s.os⟩ (anKC z sc lr lq k0 k1 k2 s.heap.objs.size s.toks X) (sAC s.heap.objs.size s.toks) keysC rfl rfl rfl rfl (by simp) rfl rfl D4 rfl rfl rfl
theorem s3D_own {z k0 k1 k2 sc lr lq e : Nat} {X : Option (Nat × Value)} {Ls : List Value} {L : Led} (S : Sur n (wB w b₁ b₂).params A g) (hn : n ≤ 700) (hLs : Ls.length ≤ 63) (hm : (Ls.length : Int).fmod 4 = 3)
    (D : Own g s.heap ((z, frB (wB w b₁ b₂).params k0 k1 k2 sc lr lq X) :: (sc, lstE Ls e) :: L))
    (h : ∀ (s' : Shared) (a : AnA) (ca : CmA) (ks : List (Int × Int)), a.z = z → a.sc = sc → a.lr = lr → a.lq = lq → (ks = keysA ∨ ks = keysB ∨ ks = keysC ∨ ks = keysD) → ca.x = a.lo → ca.kl = a.lk →
      Own g s'.heap ([(a.ld, lstE [] 0), (a.lt, lstE [] 0), (a.z, frK (wB w b₁ b₂).params a none none #[])] ++ kRo (wB w b₁ b₂).params ca ks ++ (sc, lstE Ls e) :: L) → s'.gens = s.gens → s'.drawn = s.drawn → s'.os = s.os → Q .next s') :
    ExP (wB w b₁ b₂) A (anFc z) [anSt 3, anSt 4, anSt 5] (anEnv z) Q E s := by
  refine ex_goodP D ?_
  obtain ⟨cf1, ac1, er1, hp, G⟩ := seg2 (gens := s.gens) (S.par hn (R₀ := fun r s' => match r with | .ok f => Q f s' | .error e => E e s') (d := s.drawn) (os := s.os)) (st3D w b₁ b₂ z k0 k1 k2 sc lr lq e s.heap.objs.size s.toks X Ls L) (by rw [hm, Nat.ble_eq_true_of_le (show Ls.length ≤ 65536 by omega)]; rfl)
  simp only [Prod.mk.injEq] at hp
  obtain ⟨q1, q2, q3, q4⟩ := hp
  refine G (good_done q1 q2 fun H D3 _ => ?_)
  have D4 := D3.pickN (n := 24) (ks := [7, 8, 23, 5, 6, 10, 11]) q4 q3 (by decide) (by decide)
  exact h ⟨H, s.gens, s.drawn, cf1.tk, s.os⟩ (anKD z sc lr lq k0 k1 k2 s.heap.objs.size s.toks X) (sAD s.heap.objs.size s.toks) keysD rfl rfl rfl rfl (by simp) rfl rfl D4 rfl rfl rfl
theorem s3_own {z k0 k1 k2 sc lr lq e : Nat} {X : Option (Nat × Value)} {Ls : List Value} {L : Led} (S : Sur n (wB w b₁ b₂).params A g) (hn : n ≤ 700) (hLs : Ls.length ≤ 63)
    (D : Own g s.heap ((z, frB (wB w b₁ b₂).params k0 k1 k2 sc lr lq X) :: (sc, lstE Ls e) :: L))
    (h : ∀ (s' : Shared) (a : AnA) (ca : CmA) (ks : List (Int × Int)), a.z = z → a.sc = sc → a.lr = lr → a.lq = lq → (ks = keysA ∨ ks = keysB ∨ ks = keysC ∨ ks = keysD) → ca.x = a.lo → ca.kl = a.lk →
      Own g s'.heap ([(a.ld, lstE [] 0), (a.lt, lstE [] 0), (a.z, frK (wB w b₁ b₂).params a none none #[])] ++ kRo (wB w b₁ b₂).params ca ks ++ (sc, lstE Ls e) :: L) → s'.gens = s.gens → s'.drawn = s.drawn → s'.os = s.os → Q .next s') :
    ExP (wB w b₁ b₂) A (anFc z) [anSt 3, anSt 4, anSt 5] (anEnv z) Q E s := by
  have h1 : 0 ≤ (Ls.length : Int).fmod 4 := Int.fmod_nonneg_of_pos _ (by decide)
  have h2 : (Ls.length : Int).fmod 4 < 4 := Int.fmod_lt_of_pos _ (by decide)
  have h3 : (Ls.length : Int).fmod 4 = 0 ∨ (Ls.length : Int).fmod 4 = 1 ∨ (Ls.length : Int).fmod 4 = 2 ∨ (Ls.length : Int).fmod 4 = 3 := by omega
  rcases h3 with h3 | h3 | h3 | h3
  · exact s3A_own S hn hLs h3 D h
  · exact s3B_own S hn hLs h3 D h
  · exact s3C_own S hn hLs h3 D h
  · exact s3D_own S hn hLs h3 D h
theorem s6_own {a : AnA} {ca : CmA} {ks : List (Int × Int)} {ev eq : Nat} {V QL : List Value} {rows qs : List RowS} {B fs : Led} {osc : Obj} (S : Sur n (wB w b₁ b₂).params A g) (hn : n + 180 ≤ 700) (hks : ks = keysA ∨ ks = keysB ∨ ks = keysC ∨ ks = keysD) (hx : ca.x = a.lo) (hkl : ca.kl = a.lk)
    (hB : ∀ p ∈ kRo (wB w b₁ b₂).params ca ks, p ∈ B) (hR : RowsAt B V rows) (hQ : RowsAt B QL qs) (hqd : QuotedL rows qs) (h6 : ∀ r ∈ rows, r.Six) (hrl : rows.length ≤ 11) (hr6 : 6 ≤ rows.length)
    (D : Own g s.heap ((a.z, frK (wB w b₁ b₂).params a none none #[]) :: (a.lr, lstE V ev) :: (a.lq, lstE QL eq) :: (a.lt, lstE [] 0) :: (a.ld, lstE [] 0) :: (a.sc, osc) :: (B ++ fs)))
    (h : ∀ (s' : Shared) (I J : Nat × Value) (TL DL : List Value) (et ed : Nat), SameStr TL DL → TL.length ≤ 121 →
      Own g s'.heap ((a.z, frK (wB w b₁ b₂).params a (some I) (some J) #[]) :: (a.lr, lstE V ev) :: (a.lq, lstE QL eq) :: (a.lt, lstE TL et) :: (a.ld, lstE DL ed) :: (a.sc, osc) :: (B ++ fs)) → s'.gens = s.gens → s'.drawn = s.drawn → s'.os = s.os → Q .next s') :
    ExP (wB w b₁ b₂) A (anFc a.z) [anSt 6] (anEnv a.z) Q E s := by
  have hlV : V.length = rows.length := hR.len
  refine ex_goodP D ?_
  obtain ⟨cf1, ac1, er1, hp, G⟩ := seg2 (gens := s.gens) (S.par (by omega) (R₀ := fun r s' => match r with | .ok f => Q f s' | .error e => E e s') (d := s.drawn) (os := s.os)) (st6 w b₁ b₂ a ev s.heap.objs.size s.toks #[] V ((a.lq, lstE QL eq) :: (a.lt, lstE [] 0) :: (a.ld, lstE [] 0) :: (a.sc, osc) :: (B ++ fs))) (by
    rw [Nat.ble_eq_true_of_le (show V.length ≤ 65536 by omega)]
    have : riC V = true := by unfold riC; simp; omega
    rw [this])
  simp only [Prod.mk.injEq] at hp
  obtain ⟨p1, p2, p3, p4⟩ := hp
  generalize s.heap.objs.size = sz at *
  generalize s.toks = tk at *
  refine G (call_segJ (ac' := ac1) [] (oLedK (wB w b₁ b₂).params (sz + 1) a (riO 0 V.length) none none #[] V ev ([(a.lq, lstE QL eq), (a.lt, lstE [] 0), (a.ld, lstE [] 0)] ++ [])) ((a.sc, osc) :: (B ++ fs)) (fun r sm => r = .ok .next ∧ ∃ I J TL DL et ed, SameStr TL DL ∧ TL.length ≤ 121 ∧ sm = [(a.z, frK (wB w b₁ b₂).params a (some I) (some J) #[]), (a.lr, lstE V ev), (a.lq, lstE QL eq), (a.lt, lstE TL et), (a.ld, lstE DL ed)] ++ []) S (by omega) p1 p2 (fun H D' => ?_) ?_ ?_)
  · exact D'.pickN (n := 2) (ks := [0]) (sel := [(sz + 1, riO 0 V.length)]) p4 (by rw [List.map_cons, List.map_nil, p3]; rfl) (by decide) (by decide)
  · intro A' g' s' R' S' hk hr D' h'
    have hb : ∀ p ∈ B, g'.get? p.1 = some p.2 := fun p hp => hr p (.tail _ (List.mem_append_left _ hp))
    have Db : Dbl (wB w b₁ b₂).params g' a ca ks V QL rows qs := ⟨hks, hx, hkl, fun q hq => hb q (hB q hq), fun i r hr => ?_, fun i r hr => ?_, hqd, h6, hlV, hrl⟩
    · refine of_loop S' (by omega) Db rows.length 0 none none [] [] 0 0 s' (by omega) trivial (by simp; omega) (fun _ => rfl) (by rw [hlV] at D'; exact D') fun s'' I J TL DL et ed a1 a2 a3 a4 a5 D2 e1 e2 e3 => ?_
      have hI := a2 (.inr (by omega))
      have hJ := a3 (.inr (by omega))
      obtain ⟨I, rfl⟩ := Option.ne_none_iff_exists'.mp hI
      obtain ⟨J, rfl⟩ := Option.ne_none_iff_exists'.mp hJ
      exact h' s'' _ _ D2 ⟨rfl, I, J, TL, DL, et, ed, a1, by simp at a5; omega, rfl⟩ e1 e2 e3
    · obtain ⟨b, o, e1, e2, e3⟩ := hR.get i r hr
      obtain ⟨t1, t2, t3, rfl⟩ := rowOf_some e3
      exact ⟨b, t1, t2, t3, e1, hb _ e2⟩
    · obtain ⟨b, o, e1, e2, e3⟩ := hQ.get i r hr
      obtain ⟨t1, t2, t3, rfl⟩ := rowOf_some e3
      exact ⟨b, t1, t2, t3, e1, hb _ e2⟩
  · rintro rr sm' sz2 tk2 ⟨rfl, I, J, TL, DL, et, ed, a1, a2, rfl⟩
    rw [← er1]
    obtain ⟨cf3, ac3, er3, hp, G⟩ := seg2 (gens := s.gens) (S.par (by omega) (R₀ := fun r s' => match r with | .ok f => Q f s' | .error e => E e s') (d := s.drawn) (os := s.os)) (st6b w b₁ b₂ a ev sz tk #[] V ((a.lq, lstE QL eq) :: (a.lt, lstE [] 0) :: (a.ld, lstE [] 0) :: (a.sc, osc) :: (B ++ fs)) sz2 tk2 ((a.z, frK (wB w b₁ b₂).params a (some I) (some J) #[]) :: (a.lr, lstE V ev) :: (a.lq, lstE QL eq) :: (a.lt, lstE TL et) :: (a.ld, lstE DL ed) :: (a.sc, osc) :: (B ++ fs))) rfl
    simp only [prA, Prod.mk.injEq] at hp
    obtain ⟨q1, q2, q3⟩ := hp
    refine G (good_done q1 q2 fun H D3 _ => ?_)
    rw [q3] at D3
    exact h ⟨H, s.gens, s.drawn, cf3.tk, s.os⟩ I J TL DL et ed a1 a2 D3 rfl rfl rfl
end
end Mine
end
section
open PySem PySem.W PyProof.Rows PySem.Builtin PySem.Builtin.Str
set_option Elab.async false
set_option maxRecDepth 100000
set_option maxHeartbeats 1000000
set_option linter.unusedVariables false
namespace Mine
open PySem.W.X (Kont Means aroundOf endOf okMark XV)
noncomputable def namesOf (rows : List RowS) : List (List Nat) := rows.map fun x => x.m.cps.toList
theorem names_quoted : ∀ {rows qs : List RowS}, QuotedL rows qs → namesOf qs = (namesOf rows).map quoteL
  | [], [], _ => rfl
  | r :: rs, q :: qs, h => by
    show q.m.cps.toList :: namesOf qs = quoteL r.m.cps.toList :: (namesOf rs).map quoteL
    rw [names_quoted h.2, h.1.m]
  | [], _ :: _, h => h.elim
  | _ :: _, [], h => h.elim
theorem QuotedL.len : ∀ {rows qs : List RowS}, QuotedL rows qs → qs.length = rows.length
  | [], [], _ => rfl
  | r :: rs, q :: qs, h => by rw [List.length_cons, List.length_cons, h.2.len]
  | [], _ :: _, h => h.elim
  | _ :: _, [], h => h.elim
theorem quote_le (l : List Nat) (h : l.length ≤ 6) : (quoteL l).length ≤ 100 := by
  have he : ∀ l : List Nat, (escL l).length ≤ 5 * l.length := by
    intro l
    induction l with
    | nil => simp [escL]
    | cons c l ih =>
      have e : escL (c :: l) = (if c = 39 then [39, 34, 39, 34, 39] else [c]) ++ escL l := rfl
      rw [e, List.length_append, List.length_cons]
      split <;> simp <;> omega
  unfold quoteL
  have := he l
  split
  · simp
  · split
    · omega
    · simp; omega
theorem textOf_le : ∀ (ws : List (List Nat)), (∀ w ∈ ws, w.length ≤ 6) → (textOf ws).length ≤ 101 * ws.length
  | [], _ => by simp [textOf]
  | [w], h => by
    have := quote_le w (h w List.mem_cons_self)
    show (quoteL w).length ≤ _
    simp; omega
  | w :: v :: ws, h => by
    have := quote_le w (h w List.mem_cons_self)
    have ih := textOf_le (v :: ws) fun x hx => h x (List.mem_cons_of_mem _ hx)
    show (quoteL w ++ 32 :: textOf (v :: ws)).length ≤ _
    simp only [List.length_append, List.length_cons] at *
    omega
section
variable {w : World} {b₁ b₂ : Bool} {A : Around} {g : Heap} {n : Nat} {s : Shared} {R : Result → Shared → Prop}
/-- a comprehension of the names, the whole call -/
theorem nm_code {ii z q tk src er : Nat} {V : List Value} {rows : List RowS} (hii : ii = 7 ∨ ii = 8) (S : Sur n (wB w b₁ b₂).params A g) (hn : n + 40 ≤ 700) (hsrc : g.get? src = some (lstE V er)) (hlen : V.length = rows.length)
    (hrow : ∀ (j : Nat) (x : RowS), rows[j]? = some x → ∃ b t1 t2 t3, V.getD j .none = .ref b ∧ g.get? b = some (tup3 x.f t1 x.n t2 x.m t3)) (hrl : rows.length ≤ 11) (hr6 : 6 ≤ rows.length)
    (D : Own g s.heap [(q + 2, nD (wB w b₁ b₂).params none), (q + 1, lstE [] 0), (q, liO src 0)])
    (h : ∀ (s' : Shared) (L' : List Value) (e' : Nat) (Y' : Nat × Value), StrsOf L' (namesOf rows) →
      Own g s'.heap [(q + 2, nD (wB w b₁ b₂).params (some Y')), (q + 1, lstE L' e')] → s'.gens = s.gens → s'.drawn = s.drawn → s'.os = s.os → R (.ok .next) s') :
    codeAny (model pw (wB w b₁ b₂)) A (nc0 ii (wB w b₁ b₂).params z q tk) R s := by
  refine code_good D ?_
  have sg : SegOk (PT (wB w b₁ b₂).params) 30 (⟨nc0 ii (wB w b₁ b₂).params z q tk, .base, (PT (wB w b₁ b₂).params).den (nc0 ii (wB w b₁ b₂).params z q tk), cLed (wB w b₁ b₂).params q (nD (wB w b₁ b₂).params none) (lstE [] 0) (liO src 0) [], s.heap.objs.size, s.toks⟩) (hncs b₂) prA [] []
      (.pure (.again (nc1 ii (wB w b₁ b₂).params z q tk)), .base, cLed (wB w b₁ b₂).params q (nD (wB w b₁ b₂).params none) (lstE [] 0) (liO src 0) []) := by
    rcases hii with rfl | rfl
    · exact nS7 ..
    · exact nS8 ..
  obtain ⟨cf1, ac1, er1, hp, G⟩ := seg2 (gens := s.gens) (S.par (by omega) (R₀ := R) (d := s.drawn) (os := s.os)) sg rfl
  simp only [prA, Prod.mk.injEq] at hp
  obtain ⟨q1, q2, q3⟩ := hp
  refine G (good_again q1 q2 (by rcases hii with rfl | rfl; exact nQ7 ..; exact nQ8 ..) fun H D3 => ?_)
  rw [q3] at D3
  refine nm_loop hii S hn hsrc V rows [] 0 0 [] none ⟨H, s.gens, s.drawn, cf1.tk, s.os⟩ rfl hlen hrow (by simp; omega) trivial (fun q => ?_) D3 fun s' L' e' Y' hS D4 e1 e2 e3 => h s' L' e' Y' hS D4 e1 e2 e3
  subst q
  simp at hlen
  omega
end
theorem own_fr {g H : Heap} {x : Addr × Obj} {l B fs : Led} (D : Own g H (x :: (l ++ (B ++ fs)))) : Own g H ([] ++ (x :: fs) ++ (l ++ B)) := by
  refine D.perm ?_
  rw [List.nil_append, List.cons_append, ← List.append_assoc]
  exact List.Perm.cons _ List.perm_append_comm
theorem own_fr2 {g H : Heap} {x y : Addr × Obj} {l B fs : Led} (D : Own g H ([] ++ (y :: x :: fs) ++ (l ++ B))) : Own g H (x :: y :: (l ++ (B ++ fs))) := by
  refine D.perm ?_
  rw [List.nil_append, List.cons_append, List.cons_append, ← List.append_assoc l B fs]
  exact (List.Perm.swap ..).trans (List.Perm.cons _ (List.Perm.cons _ List.perm_append_comm))
theorem an_kind (z : Nat) : (anEnv z).scope.kind ≠ .module := by
  intro h
  have e : (anEnv z).scope.kind = .function := by kernel_rfl
  rw [e] at h
  cases h
section
variable {w : World} {b₁ b₂ : Bool} {A : Around} {g : Heap} {n : Nat} {s : Shared} {Q : Flow → Shared → Prop} {E : Value → Shared → Prop}
theorem s7_own {a : AnA} {ev eq et ed : Nat} {V QL TL DL : List Value} {rows qs : List RowS} {B fs : Led} {osc : Obj} {es : List Env} {I J : Nat × Value} (S : Sur n (wB w b₁ b₂).params A g) (hn : n + 180 ≤ 700) (hA : A.frames = some es) (hF : FrO es fs)
    (hQ : RowsAt B QL qs) (hqd : QuotedL rows qs) (h6 : ∀ r ∈ rows, r.Six) (hrl : rows.length ≤ 11) (hr6 : 6 ≤ rows.length) (hTL : TL.length ≤ 121)
    (D : Own g s.heap ((a.z, frK (wB w b₁ b₂).params a (some I) (some J) #[]) :: (a.lr, lstE V ev) :: (a.lq, lstE QL eq) :: (a.lt, lstE TL et) :: (a.ld, lstE DL ed) :: (a.sc, osc) :: (B ++ fs)))
    (h : ∀ (s' : Shared) (l : Nat) (L : List Value) (el : Nat) (sl : Array (Option Value)) (fs' : Led), StrsOf L (namesOf rows) → SlO fs fs' →
      Own g s'.heap ((a.z, frK (wB w b₁ b₂).params a (some I) (some J) sl) :: (a.lt, lstE (TL ++ [.ref l]) (et + 1)) :: (l, lstE L el) :: (a.lq, lstE QL eq) :: (a.lr, lstE V ev) :: (a.ld, lstE DL ed) :: (a.sc, osc) :: (B ++ fs')) → s'.gens = s.gens → s'.drawn = s.drawn → s'.os = s.os → Q .next s') :
    ExP (wB w b₁ b₂) A (anFc a.z) [anSt 7] (anEnv a.z) Q E s := by
  have D := D.pickN (n := 6) (ks := [0, 3, 2, 1, 4, 5]) (sel := [(a.z, frK (wB w b₁ b₂).params a (some I) (some J) #[]), (a.lt, lstE TL et), (a.lq, lstE QL eq), (a.lr, lstE V ev), (a.ld, lstE DL ed), (a.sc, osc)]) rfl rfl (by decide) (by decide)
  refine ex_goodP D ?_
  obtain ⟨cf1, ac1, er1, hp, G⟩ := seg2 (gens := s.gens) (S.par (by omega) (R₀ := fun r s' => match r with | .ok f => Q f s' | .error e => E e s') (d := s.drawn) (os := s.os)) (st7 w b₁ b₂ a et eq s.heap.objs.size s.toks I J #[] TL QL ((a.lr, lstE V ev) :: (a.ld, lstE DL ed) :: (a.sc, osc) :: (B ++ fs))) rfl
  simp only [prB, Prod.mk.injEq] at hp
  obtain ⟨p1, p2, p3⟩ := hp
  generalize s.heap.objs.size = sz at *
  generalize s.toks = tk at *
  have hlQ : QL.length = qs.length := hQ.len
  have hlq : qs.length = rows.length := hqd.len
  refine G (call_segG (ac' := ac1) [] [(sz + 2, nD (wB w b₁ b₂).params none), (sz + 1, lstE [] 0), (sz, liO a.lq 0)] ((a.z, frK (wB w b₁ b₂).params a (some I) (some J) #[]) :: (a.lt, lstE TL et) :: (a.lq, lstE QL eq) :: (a.lr, lstE V ev) :: (a.ld, lstE DL ed) :: (a.sc, osc) :: (B ++ fs))
    (fun r sm => r = .ok .next ∧ ∃ NL en Y, StrsOf NL (namesOf qs) ∧ sm = [(sz + 2, nD (wB w b₁ b₂).params (some Y)), (sz + 1, lstE NL en)]) S (by omega) p1 p2 (by rw [p3]; rfl) ?_ ?_)
  · intro A' g' s' R' S' hk hr D' h'
    refine nm_code (rows := qs) (.inl rfl) S' (by omega) (hr (a.lq, lstE QL eq) (.tail _ (.tail _ (.head _)))) hlQ (fun j x hx => ?_) (by omega) (by omega) D' fun s'' L' e' Y' hS D2 e1 e2 e3 => h' s'' _ _ D2 ⟨rfl, L', e', Y', hS, rfl⟩ e1 e2 e3
    obtain ⟨b, o, e1, e2, e3⟩ := hQ.get j x hx
    obtain ⟨t1, t2, t3, rfl⟩ := rowOf_some e3
    exact ⟨b, t1, t2, t3, e1, hr _ (.tail _ (.tail _ (.tail _ (.tail _ (.tail _ (.tail _ (show _ ∈ B ++ fs from List.mem_append_left _ e2)))))))⟩
  · rintro rr sm' sz2 tk2 ⟨rfl, NL, en, Y, hNL, rfl⟩
    rw [← er1]
    obtain ⟨cf2, ac2, er2, hp, G⟩ := seg2 (gens := s.gens) (S.par (by omega) (R₀ := fun r s' => match r with | .ok f => Q f s' | .error e => E e s') (d := s.drawn) (os := s.os)) (st7b w b₁ b₂ a et eq sz tk I J #[] TL QL ((a.lr, lstE V ev) :: (a.ld, lstE DL ed) :: (a.sc, osc) :: (B ++ fs)) en sz2 tk2 NL Y ((a.lq, lstE QL eq) :: (a.lr, lstE V ev) :: (a.ld, lstE DL ed) :: (a.sc, osc) :: (B ++ fs))) rfl
    simp only [Prod.mk.injEq] at hp
    obtain ⟨p1, p2, p3⟩ := hp
    refine G (call_segJ (ac' := ac2) [] [] ((sz + 1, lstE NL en) :: (a.z, frK (wB w b₁ b₂).params a (some I) (some J) #[]) :: (a.lt, lstE TL et) :: (a.lq, lstE QL eq) :: (a.lr, lstE V ev) :: (a.ld, lstE DL ed) :: (a.sc, osc) :: (B ++ fs))
      (fun r sm => (∃ t, r = .ok (.ret (.str (sW (joinL (namesOf qs))) t))) ∧ sm = []) S (by omega) p1 p2 (fun H D' => D'.drop p3) ?_ ?_)
    · intro A' g' s' R' S' hk hr D' h'
      refine join_code hNL (D'.keep _ _ (hr (sz + 1, lstE NL en) (.head _))) (by unfold namesOf; rw [List.length_map]; omega) (fun x hx => ?_) fun t' k => h' _ _ _ D' ⟨⟨t', rfl⟩, rfl⟩ rfl rfl rfl
      rw [names_quoted hqd] at hx
      obtain ⟨y, hy, rfl⟩ := List.mem_map.mp hx
      obtain ⟨r, hr, rfl⟩ := List.mem_map.mp hy
      exact quote_le _ (h6 r hr).2
    · rintro rr sm' sz3 tk3 ⟨⟨t, rfl⟩, rfl⟩
      refine after_sub (led' := (a.z, frK (wB w b₁ b₂).params a (some I) (some J) #[]) :: (a.lt, lstE TL et) :: (a.lq, lstE QL eq) :: (a.lr, lstE V ev) :: (a.ld, lstE DL ed) :: (a.sc, osc) :: (B ++ fs)) (fun H D' => D'.drop (n := 1) rfl) ?_ (by simp)
      rw [← er2]
      obtain ⟨cf3, ac3, er3, hp, G⟩ := seg2 (gens := s.gens) (S.par (by omega) (R₀ := fun r s' => match r with | .ok f => Q f s' | .error e => E e s') (d := s.drawn) (os := s.os)) (st7c w b₁ b₂ a et eq sz tk I J #[] TL QL ((a.lr, lstE V ev) :: (a.ld, lstE DL ed) :: (a.sc, osc) :: (B ++ fs)) en sz2 tk2 sz3 tk3 t NL Y (sW (joinL (namesOf qs))) ((a.lq, lstE QL eq) :: (a.lr, lstE V ev) :: (a.ld, lstE DL ed) :: (a.sc, osc) :: (B ++ fs)) ((a.lq, lstE QL eq) :: (a.lr, lstE V ev) :: (a.ld, lstE DL ed) :: (a.sc, osc) :: (B ++ fs))) rfl
      simp only [Prod.mk.injEq] at hp
      obtain ⟨p1, p2, p3, p4⟩ := hp
      refine G (call_segH (ac' := ac3) [] ((a.z, frK (wB w b₁ b₂).params a (some I) (some J) #[]) :: fs) ([(a.lt, lstE TL et), (a.lq, lstE QL eq), (a.lr, lstE V ev), (a.ld, lstE DL ed), (a.sc, osc)] ++ B)
        (fun r sm => ∃ l L' e' sl fs', StrsOf L' (namesOf rows) ∧ SlO fs fs' ∧ r = .ok (.ret (.ref l)) ∧ sm = (l, lstE L' e') :: (a.z, frK (wB w b₁ b₂).params a (some I) (some J) sl) :: fs') S (by omega) hA p1 p2 (fun H D' => ?_) ?_ ?_)
      · rw [p4] at D'
        exact own_fr (l := [(a.lt, lstE TL et), (a.lq, lstE QL eq), (a.lr, lstE V ev), (a.ld, lstE DL ed), (a.sc, osc)]) D'
      · intro A' g' s' R' S' hA' hk hr D' h'
        rw [p3] at hA'
        have hne : namesOf rows ≠ [] := fun q => by
          have := congrArg List.length q
          unfold namesOf at this
          simp at this
          subst this
          simp at hr6
        have hw6 : ∀ x ∈ namesOf rows, x.length ≤ 6 := fun x hx => by
          obtain ⟨r, hr, rfl⟩ := List.mem_map.mp hx
          exact (h6 r hr).2
        have ht : joinL (namesOf qs) = textOf (namesOf rows) := by rw [names_quoted hqd, join_text]
        have hll : (namesOf rows).length = rows.length := List.length_map ..
        refine split_code (fs := (a.z, frK (wB w b₁ b₂).params a (some I) (some J) #[]) :: fs) (es := anEnv a.z :: es) (ws := namesOf rows) S' (by omega) hA' ⟨an_kind a.z, rfl, (fun vs q => by cases q), hF⟩ ?_ hw6 hne (by omega) ht D' fun s'' l L' e' fs' hL hs D2 e1 e2 e3 => ?_
        · show (joinL (namesOf qs)).length ≤ sizeLine
          rw [ht]
          have := textOf_le _ hw6
          have l3 : 1111 ≤ sizeLine := by decide +kernel
          omega
        · cases fs' with
          | nil => exact hs.elim
          | cons q fs' =>
            obtain ⟨k1, ⟨sl, k2⟩, k3⟩ := hs
            have e : q = (a.z, frK (wB w b₁ b₂).params a (some I) (some J) sl) := Prod.ext k1 k2
            subst e
            exact h' s'' _ _ D2 ⟨l, L', e', sl, fs', hL, k3, rfl, rfl⟩ e1 e2 e3
      · rintro rr sm' sz4 tk4 ⟨l, L', e', sl, fs', hL, hs, rfl, rfl⟩
        refine after_sub (led' := (a.z, frK (wB w b₁ b₂).params a (some I) (some J) sl) :: (a.lt, lstE TL et) :: (l, lstE L' e') :: (a.lq, lstE QL eq) :: (a.lr, lstE V ev) :: (a.ld, lstE DL ed) :: (a.sc, osc) :: (B ++ fs')) (fun H D' => ?_) ?_ (by simp)
        · exact (own_fr2 (l := [(a.lt, lstE TL et), (a.lq, lstE QL eq), (a.lr, lstE V ev), (a.ld, lstE DL ed), (a.sc, osc)]) D').perm (List.Perm.cons _ (List.Perm.swap ..))
        rw [← er3]
        obtain ⟨cf4, ac4, er4, hp, G⟩ := seg2 (gens := s.gens) (S.par (by omega) (R₀ := fun r s' => match r with | .ok f => Q f s' | .error e => E e s') (d := s.drawn) (os := s.os)) (st7d w b₁ b₂ a et eq sz tk I J #[] TL QL ((a.lr, lstE V ev) :: (a.ld, lstE DL ed) :: (a.sc, osc) :: (B ++ fs)) en sz2 tk2 sz3 tk3 sz4 tk4 t l NL Y (sW (joinL (namesOf qs))) sl ((a.lq, lstE QL eq) :: (a.lr, lstE V ev) :: (a.ld, lstE DL ed) :: (a.sc, osc) :: (B ++ fs)) ((a.lq, lstE QL eq) :: (a.lr, lstE V ev) :: (a.ld, lstE DL ed) :: (a.sc, osc) :: (B ++ fs)) ((l, lstE L' e') :: (a.lq, lstE QL eq) :: (a.lr, lstE V ev) :: (a.ld, lstE DL ed) :: (a.sc, osc) :: (B ++ fs'))) (by rw [Nat.ble_eq_true_of_le (show TL.length ≤ 65536 by omega)])
        simp only [prA, Prod.mk.injEq] at hp
        obtain ⟨q1, q2, q3⟩ := hp
        refine G (good_done q1 q2 fun H D3 _ => ?_)
        rw [q3] at D3
        exact h ⟨H, s.gens, s.drawn, cf4.tk, s.os⟩ l L' e' sl fs' hL hs D3 rfl rfl rfl
theorem s8_own {a : AnA} {ev eq et ed l el : Nat} {V QL TL DL L : List Value} {rows : List RowS} {sl : Array (Option Value)} {B fs : Led} {osc : Obj} {I J : Nat × Value} (S : Sur n (wB w b₁ b₂).params A g) (hn : n + 180 ≤ 700)
    (hR : RowsAt B V rows) (hrl : rows.length ≤ 11) (hr6 : 6 ≤ rows.length) (hDL : DL.length ≤ 121)
    (D : Own g s.heap ((a.z, frK (wB w b₁ b₂).params a (some I) (some J) sl) :: (a.lt, lstE TL et) :: (l, lstE L el) :: (a.lq, lstE QL eq) :: (a.lr, lstE V ev) :: (a.ld, lstE DL ed) :: (a.sc, osc) :: (B ++ fs)))
    (h : ∀ (s' : Shared) (l2 : Nat) (L2 : List Value) (el2 : Nat), StrsOf L2 (namesOf rows) →
      Own g s'.heap ((a.z, frK (wB w b₁ b₂).params a (some I) (some J) sl) :: (a.lt, lstE TL et) :: (a.ld, lstE (DL ++ [.ref l2]) (ed + 1)) :: (l, lstE L el) :: (l2, lstE L2 el2) :: (a.sc, osc) :: (B ++ fs)) → s'.gens = s.gens → s'.drawn = s.drawn → s'.os = s.os → Q .next s') :
    ExP (wB w b₁ b₂) A (anFc a.z) [anSt 8] (anEnv a.z) Q E s := by
  have D := D.pickN (n := 7) (ks := [0, 5, 4, 1, 2, 6]) (sel := [(a.z, frK (wB w b₁ b₂).params a (some I) (some J) sl), (a.ld, lstE DL ed), (a.lr, lstE V ev), (a.lt, lstE TL et), (l, lstE L el), (a.sc, osc)]) rfl rfl (by decide) (by decide)
  refine ex_goodP D ?_
  obtain ⟨cf1, ac1, er1, hp, G⟩ := seg2 (gens := s.gens) (S.par (by omega) (R₀ := fun r s' => match r with | .ok f => Q f s' | .error e => E e s') (d := s.drawn) (os := s.os)) (st8 w b₁ b₂ a ed ev s.heap.objs.size s.toks I J sl DL V ((a.lt, lstE TL et) :: (l, lstE L el) :: (a.sc, osc) :: (B ++ fs))) rfl
  simp only [prB, Prod.mk.injEq] at hp
  obtain ⟨p1, p2, p3⟩ := hp
  generalize s.heap.objs.size = sz at *
  generalize s.toks = tk at *
  have hlV : V.length = rows.length := hR.len
  refine G (call_segG (ac' := ac1) [] [(sz + 2, nD (wB w b₁ b₂).params none), (sz + 1, lstE [] 0), (sz, liO a.lr 0)] ((a.z, frK (wB w b₁ b₂).params a (some I) (some J) sl) :: (a.ld, lstE DL ed) :: (a.lr, lstE V ev) :: (a.lt, lstE TL et) :: (l, lstE L el) :: (a.sc, osc) :: (B ++ fs))
    (fun r sm => r = .ok .next ∧ ∃ NL en Y, StrsOf NL (namesOf rows) ∧ sm = [(sz + 2, nD (wB w b₁ b₂).params (some Y)), (sz + 1, lstE NL en)]) S (by omega) p1 p2 (by rw [p3]; rfl) ?_ ?_)
  · intro A' g' s' R' S' hk hr D' h'
    refine nm_code (rows := rows) (.inr rfl) S' (by omega) (hr (a.lr, lstE V ev) (.tail _ (.tail _ (.head _)))) hlV (fun j x hx => ?_) (by omega) (by omega) D' fun s'' L' e' Y' hS D2 e1 e2 e3 => h' s'' _ _ D2 ⟨rfl, L', e', Y', hS, rfl⟩ e1 e2 e3
    obtain ⟨b, o, e1, e2, e3⟩ := hR.get j x hx
    obtain ⟨t1, t2, t3, rfl⟩ := rowOf_some e3
    exact ⟨b, t1, t2, t3, e1, hr _ (.tail _ (.tail _ (.tail _ (.tail _ (.tail _ (.tail _ (show _ ∈ B ++ fs from List.mem_append_left _ e2)))))))⟩
  · rintro rr sm' sz2 tk2 ⟨rfl, NL, en, Y, hNL, rfl⟩
    rw [← er1]
    obtain ⟨cf2, ac2, er2, hp, G⟩ := seg2 (gens := s.gens) (S.par (by omega) (R₀ := fun r s' => match r with | .ok f => Q f s' | .error e => E e s') (d := s.drawn) (os := s.os)) (st8b w b₁ b₂ a ed ev sz tk I J sl DL V ((a.lt, lstE TL et) :: (l, lstE L el) :: (a.sc, osc) :: (B ++ fs)) en sz2 tk2 NL Y ((a.lr, lstE V ev) :: (a.lt, lstE TL et) :: (l, lstE L el) :: (a.sc, osc) :: (B ++ fs))) (by rw [Nat.ble_eq_true_of_le (show DL.length ≤ 65536 by omega)])
    simp only [Prod.mk.injEq] at hp
    obtain ⟨q1, q2, q3⟩ := hp
    refine G (good_done q1 q2 fun H D3 _ => ?_)
    have D4 := D3.drop q3
    refine h ⟨H, s.gens, s.drawn, cf2.tk, s.os⟩ (sz + 1) NL en hNL ?_ rfl rfl rfl
    exact D4.pickN (n := 7) (ks := [1, 4, 2, 5, 0, 6]) (sel := [(a.z, frK (wB w b₁ b₂).params a (some I) (some J) sl), (a.lt, lstE TL et), (a.ld, lstE (DL ++ [.ref (sz + 1)]) (ed + 1)), (l, lstE L el), (sz + 1, lstE NL en), (a.sc, osc)]) rfl rfl (by decide) (by decide)
theorem s9_own {a : AnA} {sl : Array (Option Value)} {L : Led} {I J : Nat × Value} (S : Sur n (wB w b₁ b₂).params A g) (hn : n + 180 ≤ 700)
    (D : Own g s.heap ((a.z, frK (wB w b₁ b₂).params a (some I) (some J) sl) :: L))
    (h : ∀ (s' : Shared) (tp : Nat), Own g s'.heap ((tp, tupO [.ref a.lt, .ref a.ld]) :: L) → s'.gens = s.gens → s'.drawn = s.drawn → s'.os = s.os → Q (.ret (.ref tp)) s') :
    ExP (wB w b₁ b₂) A (anFc a.z) [anSt 9] (anEnv a.z) Q E s := by
  refine ex_goodP D ?_
  obtain ⟨cf1, ac1, er1, hp, G⟩ := seg2 (gens := s.gens) (S.par (by omega) (R₀ := fun r s' => match r with | .ok f => Q f s' | .error e => E e s') (d := s.drawn) (os := s.os)) (st9 w b₁ b₂ a s.heap.objs.size s.toks I J sl L) rfl
  simp only [prA, Prod.mk.injEq] at hp
  obtain ⟨q1, q2, q3⟩ := hp
  refine G (good_done q1 q2 fun H D3 _ => ?_)
  rw [q3] at D3
  refine h ⟨H, s.gens, s.drawn, cf1.tk, s.os⟩ s.heap.objs.size ?_ rfl rfl rfl
  exact D3.pickN (n := 2) (ks := [0]) (sel := [(s.heap.objs.size, tupO [.ref a.lt, .ref a.ld])]) rfl rfl (by decide) (by decide)
end
end Mine
end
section
open PySem PySem.W PyProof.Rows PySem.Builtin PySem.Builtin.Str
set_option Elab.async false
set_option maxRecDepth 100000
set_option maxHeartbeats 1000000
set_option linter.unusedVariables false
namespace Mine
open PySem.W.X (Kont Means aroundOf endOf okMark XV)
theorem fn_body : fnBody (stAt 32) = [anSt 0] ++ ([anSt 1] ++ ([anSt 2] ++ ([anSt 3, anSt 4, anSt 5] ++ ([anSt 6] ++ ([anSt 7] ++ ([anSt 8] ++ [anSt 9])))))) := by kernel_rfl
theorem an_quiet (z : Nat) : (anFc z).quiet = true := by kernel_rfl
theorem func_ownQ {w : World} {A : Around} {env : Env} {s : Shared} {body body' : List Stmt} {R : Result → Shared → Prop} (e : body = body') (h : ExP w A (.func body env) body' env (fun f s' => R (.ok (.ret (match f with | .ret v => v | _ => .none))) s') (fun _ _ => False) s) :
    codeAny (model pw w) A (.func body env) R s := by
  subst e
  exact func_ownP h
theorem exP_next {w : World} {A : Around} {c : Code} {l2 : List Stmt} {env : Env} {E : Value → Shared → Prop} {Q : Flow → Shared → Prop} {s' : Shared} (h : ExP w A c l2 env Q E s') : (fun (f : Flow) s' => match f with | .next => ExP w A c l2 env Q E s' | f => Q f s') .next s' := h
theorem Own.sublist {g h : Heap} {led led' : Led} (D : Own g h led) (hs : led'.Sublist led) : Own g h led' := D.sub (fun p hp => hs.subset hp) (List.Nodup.sublist (hs.map _) D.nodup)
theorem perm4 {α : Type} (d t z c q r : α) (K TQ T fs : List α) : ([d, t, z] ++ K ++ c :: q :: r :: (TQ ++ (T ++ fs))).Perm (z :: r :: q :: t :: d :: c :: ((TQ ++ (T ++ K)) ++ fs)) := by
  letI : DecidableEq α := fun _ _ => Classical.propDecidable _
  refine List.perm_iff_count.mpr fun x => ?_
  simp only [List.count_append, List.count_cons, List.count_nil]
  omega
section
variable {w : World} {b₁ b₂ : Bool} {A : Around} {g : Heap} {n : Nat} {s : Shared} {R : Result → Shared → Prop}
theorem ans_code {sc e : Nat} {Ls : List Value} {fs : Led} {es : List Env} (S : Sur n (wB w b₁ b₂).params A g) (hn : n + 200 ≤ 700) (hA : A.frames = some es) (hF : FrO es fs) (hLs : Ls.length ≤ 63) (hints : ∀ v ∈ Ls, ∃ x t, v = .int x t)
    (D : Own g s.heap ((sc, lstE Ls e) :: fs))
    (h : ∀ (s' : Shared) (tp lt ld l1 l2 et ed e1 e2 : Nat) (TL DL L1 L2 : List Value) (ws : List (List Nat)) (fs' : Led), SameStr TL DL → StrsOf L1 ws → StrsOf L2 ws → SlO fs fs' →
      Own g s'.heap ((tp, tupO [.ref lt, .ref ld]) :: (lt, lstE (TL ++ [.ref l1]) et) :: (ld, lstE (DL ++ [.ref l2]) ed) :: (l1, lstE L1 e1) :: (l2, lstE L2 e2) :: (sc, lstE Ls e) :: fs') → s'.gens = s.gens → s'.drawn = s.drawn → s'.os = s.os → R (.ok (.ret (.ref tp))) s') :
    codeAny (model pw (wB w b₁ b₂)) A (anCode sc) R s := by
  refine code_good D ?_
  obtain ⟨cf1, ac1, er1, hp, G⟩ := seg2 (gens := s.gens) (S.par (by omega) (R₀ := R) (d := s.drawn) (os := s.os)) (stE w b₁ b₂ sc s.heap.objs.size s.toks ((sc, lstE Ls e) :: fs)) rfl
  simp only [prA, Prod.mk.injEq] at hp
  obtain ⟨q1, q2, q3⟩ := hp
  refine G (good_again q1 q2 (an_quiet _) fun H D0 => ?_)
  rw [q3] at D0
  generalize s.heap.objs.size = z at *
  generalize s.toks = tk at *
  refine func_ownQ fn_body ?_
  refine exP_app (s0_own S (by omega) D0 fun s1 k1 lr V0 ev0 T0 hR0 D1 g1 d1 o1 => exP_next ?_)
  have D1 := D1.pickN (n := 2) (ks := [0, 1]) (sel := [(z, frA (wB w b₁ b₂).params tk k1 sc lr none), (lr, lstE V0 ev0)]) rfl rfl (by decide) (by decide)
  have D1' : Own g s1.heap ((z, frA (wB w b₁ b₂).params tk k1 sc lr none) :: (sc, lstE Ls e) :: (lr, lstE V0 ev0) :: (T0 ++ fs)) := by
    refine D1.perm ?_
    exact List.Perm.cons _ ((List.Perm.cons _ List.perm_middle).trans (List.Perm.swap ..))
  refine exP_app (s1_own S (by omega) hLs hints hR0 lawRows_six rfl D1' fun s2 V ev X T rows hR h6 hrl hr6 D2 g2 d2 o2 => exP_next ?_)
  refine exP_app (s2_own S (by omega) hR h6 hrl hr6 D2 fun s3 k2 lq QL eq TQ qs hQ hqd D3 g3 d3 o3 => exP_next ?_)
  refine exP_app (s3_own S (by omega) hLs D3 fun s4 a ca ks az asc alr alq hks hx hkl D4 g4 d4 o4 => exP_next ?_)
  subst az asc alr alq
  have hB1 : ∀ p ∈ kRo (wB w b₁ b₂).params ca ks, p ∈ TQ ++ (T ++ kRo (wB w b₁ b₂).params ca ks) := fun p hp => List.mem_append_right _ (List.mem_append_right _ hp)
  have hR' : RowsAt (TQ ++ (T ++ kRo (wB w b₁ b₂).params ca ks)) V rows := hR.mono fun p hp => List.mem_append_right _ (List.mem_append_left _ hp)
  have hQ' : RowsAt (TQ ++ (T ++ kRo (wB w b₁ b₂).params ca ks)) QL qs := hQ.mono fun p hp => List.mem_append_left _ hp
  generalize hB : TQ ++ (T ++ kRo (wB w b₁ b₂).params ca ks) = B at *
  have D4' : Own g s4.heap ((a.z, frK (wB w b₁ b₂).params a none none #[]) :: (a.lr, lstE V ev) :: (a.lq, lstE QL eq) :: (a.lt, lstE [] 0) :: (a.ld, lstE [] 0) :: (a.sc, lstE Ls e) :: (B ++ fs)) := by
    rw [← hB]
    exact D4.perm (perm4 ..)
  refine exP_app (s6_own S (by omega) hks hx hkl hB1 hR' hQ' hqd h6 hrl hr6 D4' fun s5 I J TL DL et ed hS hTL D5 g5 d5 o5 => exP_next ?_)
  refine exP_app (s7_own S (by omega) hA hF hQ' hqd h6 hrl hr6 hTL D5 fun s6 l L el sl fs' hL hs D6 g6 d6 o6 => exP_next ?_)
  refine exP_app (s8_own S (by omega) hR' hrl hr6 (by rw [hS.len]; exact hTL) D6 fun s7 l2 L2 el2 hL2 D7 g7 d7 o7 => exP_next ?_)
  refine s9_own S (by omega) D7 fun s8 tp D8 g8 d8 o8 => ?_
  refine h s8 tp a.lt a.ld l l2 (et + 1) (ed + 1) el el2 TL DL L L2 (namesOf rows) fs' hS hL hL2 hs ?_ (by rw [g8, g7, g6, g5, g4, g3, g2, g1]) (by rw [d8, d7, d6, d5, d4, d3, d2, d1]) (by rw [o8, o7, o6, o5, o4, o3, o2, o1])
  exact Own.sublist D8 ((((((List.sublist_append_right _ _).cons_cons _).cons_cons _).cons_cons _).cons_cons _).cons_cons _ |>.cons_cons _)
end
end Mine
end
section
open PySem PySem.W PyProof.Rows PySem.Builtin PySem.Builtin.Str
set_option Elab.async false
set_option maxRecDepth 1000000
set_option maxHeartbeats 1000000
set_option linter.unusedVariables false
namespace Mine
open PySem.W.X (Kont Means aroundOf endOf okMark XV)
noncomputable abbrev lawCode (sc : Addr) : Code := .call (.ref 818) ⟨[.ref sc], []⟩
noncomputable def lwEnv (z : Nat) : Env := { scope := fnScope (stAt 33), locals := z, globals := 3, cells := [], qual := "law.<locals>.", func := some 818, code := .ref 817, frame := some z }
noncomputable def lwSt (i : Nat) : Stmt := match (fnBody (stAt 33))[i]? with
  | some s => s
  | none => .Pass default
noncomputable abbrev lwFc (z : Nat) : Code := .func (fnBody (stAt 33)) (lwEnv z)
noncomputable def lwParts : Option (Expr × Expr × Pos × Pos) := match lwSt 1 with
  | .Return (some (.Compare l _ [r] p2)) p1 => some (l, r, p1, p2)
  | _ => none
noncomputable def lwL : Expr := match lwParts with | some (l, _, _, _) => l | none => default
noncomputable def lwR : Expr := match lwParts with | some (_, r, _, _) => r | none => default
noncomputable def lwPos (n : Nat) : Pos := match lwParts with | some (_, _, p1, p2) => (match n with | 1 => p1 | _ => p2) | none => default
theorem lw_body : fnBody (stAt 33) = [lwSt 0] ++ [.Return (some (.Compare lwL [.Eq] [lwR] (lwPos 2))) (lwPos 1)] := by kernel_rfl
theorem lw_quiet (z : Nat) : (lwFc z).quiet = true := by kernel_rfl
theorem lw_kind (z : Nat) : (lwEnv z).scope.kind ≠ .module := by
  intro h
  have e : (lwEnv z).scope.kind = .function := by kernel_rfl
  rw [e] at h
  cases h
theorem lw_marks : behindInMarks .Eq lwR = false := by kernel_rfl
noncomputable def lwF (p : Params) (k0 sc : Nat) (sl : Array (Option Value)) : Obj := { cls := .type "frame", data := .dict [dE p "script" k0 (.ref sc)].toArray 1, slots := sl }
noncomputable def lwF2 (p : Params) (k0 sc k1 tp : Nat) (sl : Array (Option Value)) : Obj := { cls := .type "frame", data := .dict [dE p "script" k0 (.ref sc), dE p "answers" k1 (.ref tp)].toArray 2, slots := sl }
noncomputable def hle : List Nat := [0, 0, 1, 1, 0, 9]
noncomputable def hl0 : List Nat := [0, 1, 0, 1]
noncomputable def hl0b : List Nat := [1, 1]
noncomputable def hl1 : List Nat := [1, 2, 2, 2, 0, 2, 0, 2]
noncomputable abbrev prX (cf : Cf) := (callOf cf.t, lowC cf, envsC cf, cf.led)
theorem lwE (w : World) (b₁ b₂ : Bool) (sc z tk : Nat) (Q : Led) : SegOk (PT (wB w b₁ b₂).params) 30 (⟨lawCode sc, .base, (PT (wB w b₁ b₂).params).den (lawCode sc), Q, z, tk⟩) hle prA [] []
    (.pure (.again (lwFc z)), .base, (z, lwF (wB w b₁ b₂).params tk sc #[]) :: Q) := by
  kernel_rfl
noncomputable abbrev lw0Cf (p : Params) (z k0 sc : Nat) (Q : Led) (sz tk : Nat) : Cf := ⟨lwFc z, .base, tF (exT [lwSt 0] (lwEnv z)), (z, lwF p k0 sc #[]) :: Q, sz, tk⟩
theorem lw0 (w : World) (b₁ b₂ : Bool) (sc z k0 sz tk : Nat) (Q : Led) : SegOk (PT (wB w b₁ b₂).params) 30 (lw0Cf (wB w b₁ b₂).params z k0 sc Q sz tk) hl0 prX [] []
    (some (anCode sc, none), true, [lwEnv z], (z, lwF (wB w b₁ b₂).params k0 sc #[]) :: Q) := by
  kernel_rfl
theorem lw0b (w : World) (b₁ b₂ : Bool) (sc z k0 sz tk tp sz2 tk2 : Nat) (sl : Array (Option Value)) (Q Q2 : Led) : SegOk (PT (wB w b₁ b₂).params) 20 (after (runC (PT (wB w b₁ b₂).params) 30 (lw0Cf (wB w b₁ b₂).params z k0 sc Q sz tk) { hs := hl0 }) (.ok (.ret (.ref tp))) (fun _ => (z, lwF (wB w b₁ b₂).params k0 sc sl) :: Q2) sz2 tk2) hl0b prA [] []
    (.pure (.done .next), .base, (z, lwF2 (wB w b₁ b₂).params k0 sc tk2 tp sl) :: Q2) := by
  kernel_rfl
theorem lw1 (w : World) (b₁ b₂ : Bool) (sc z k0 k1 tp lt ld sz tk : Nat) (sl : Array (Option Value)) (Q : Led) : SegOk (PT (wB w b₁ b₂).params) 30 ⟨lwFc z, .base, tV (evT lwL (lwEnv z)), (z, lwF2 (wB w b₁ b₂).params k0 sc k1 tp sl) :: (tp, tupO [.ref lt, .ref ld]) :: Q, sz, tk⟩ hl1 prA [] []
    (.pure (.done (.ret (.ref lt))), .base, (z, lwF2 (wB w b₁ b₂).params k0 sc k1 tp sl) :: (tp, tupO [.ref lt, .ref ld]) :: Q) := by
  kernel_rfl
theorem lw2 (w : World) (b₁ b₂ : Bool) (sc z k0 k1 tp lt ld sz tk : Nat) (sl : Array (Option Value)) (Q : Led) : SegOk (PT (wB w b₁ b₂).params) 30 ⟨lwFc z, .base, tV (evT lwR (lwEnv z)), (z, lwF2 (wB w b₁ b₂).params k0 sc k1 tp sl) :: (tp, tupO [.ref lt, .ref ld]) :: Q, sz, tk⟩ hl1 prA [] []
    (.pure (.done (.ret (.ref ld))), .base, (z, lwF2 (wB w b₁ b₂).params k0 sc k1 tp sl) :: (tp, tupO [.ref lt, .ref ld]) :: Q) := by
  kernel_rfl
/-- two lists of the same texts, and a list of the same texts behind each -/
theorem same_at : ∀ {vs us : List Value} {l1 l2 : Nat} (j : Nat) {v u : Value}, SameStr vs us → (vs ++ [.ref l1])[j]? = some v → (us ++ [.ref l2])[j]? = some u → (∃ x t t', v = .str x t ∧ u = .str x t') ∨ (v = .ref l1 ∧ u = .ref l2)
  | [], [], l1, l2, 0, v, u, _, h1, h2 => by simp at h1 h2; exact .inr ⟨h1.symm, h2.symm⟩
  | [], [], l1, l2, j + 1, v, u, _, h1, h2 => by simp at h1
  | v :: vs, u :: us, l1, l2, 0, v', u', h, h1, h2 => by
    simp at h1 h2
    subst h1 h2
    exact .inl h.1
  | v :: vs, u :: us, l1, l2, j + 1, v', u', h, h1, h2 => same_at j h.2 (by simpa using h1) (by simpa using h2)
  | [], _ :: _, _, _, _, _, _, h, _, _ => h.elim
  | _ :: _, [], _, _, _, _, _, h, _, _ => h.elim
theorem strs_at : ∀ {vs us : List Value} {ws : List (List Nat)} (j : Nat) {v u : Value}, StrsOf vs ws → StrsOf us ws → vs[j]? = some v → us[j]? = some u → ∃ x t t', v = .str x t ∧ u = .str x t'
  | v :: vs, u :: us, w :: ws, 0, v', u', h, k, h1, h2 => by
    simp at h1 h2
    subst h1 h2
    obtain ⟨⟨t, e1⟩, _⟩ := h
    obtain ⟨⟨t', e2⟩, _⟩ := k
    exact ⟨_, t, t', e1, e2⟩
  | v :: vs, u :: us, w :: ws, j + 1, v', u', h, k, h1, h2 => strs_at j h.2 k.2 (by simpa using h1) (by simpa using h2)
  | [], _, _, _, _, _, _, _, h1, _ => by simp at h1
  | _ :: _, [], _, _, _, _, _, _, _, h2 => by simp at h2
  | _ :: _, _ :: _, [], _, _, _, h, _, _, _ => h.elim
theorem str_same (A : Around) (s : Shared) (x : Str) (t t' : Nat) : SeqAt.EqAt A s (.str x t) (.str x t') true := by
  have := (SeqRoads2.EqGives.str x x t t').at A s
  rw [show (x.cps.toList == x.cps.toList) = true from by simp] at this
  exact this
theorem all_tt (n : Nat) : ((List.range n).all fun _ => true) = true := List.all_eq_true.mpr fun _ _ => rfl
theorem told_same {A : Around} {s : Shared} {lt ld l1 l2 et ed e1 e2 : Nat} {TL DL L1 L2 : List Value} {ws : List (List Nat)} {prog : Program} {w : World} {Q : Value → Shared → Prop} {E : Value → Shared → Prop} (hS : SameStr TL DL) (h1 : StrsOf L1 ws) (h2 : StrsOf L2 ws) (hne : l1 ≠ l2) (hu : A.units < cLine) (hu1 : A.in1.units < cLine)
    (a1 : s.heap.get? lt = some (lstE (TL ++ [.ref l1]) et)) (a2 : s.heap.get? ld = some (lstE (DL ++ [.ref l2]) ed)) (a3 : s.heap.get? l1 = some (lstE L1 e1)) (a4 : s.heap.get? l2 = some (lstE L2 e2))
    (h : Q (.bool true) s) : wpAny (model prog w) A (compareOp .Eq (.ref lt) (.ref ld)) Q E s := by
  refine SeqAt.eq_listAt (items := ⟨TL ++ [.ref l1]⟩) (items2 := ⟨DL ++ [.ref l2]⟩) (e := fun _ => true) ⟨_, a1, rfl, _, rfl⟩ ⟨_, a2, rfl, _, rfl⟩ (by simp [hS.len]) hu (fun j k1 k2 => ?_) (by rw [all_tt]; exact h)
  have q1 : (TL ++ [.ref l1])[j]? = some (⟨TL ++ [.ref l1]⟩ : Array Value)[j] := by simp at k1 ⊢
  have q2 : (DL ++ [.ref l2])[j]? = some (⟨DL ++ [.ref l2]⟩ : Array Value)[j] := by simp at k2 ⊢
  rcases same_at j hS q1 q2 with ⟨x, t, t', r1, r2⟩ | ⟨r1, r2⟩
  · rw [r1, r2]
    exact str_same _ _ x t t'
  · rw [r1, r2]
    refine SeqAt.EqAt.of_refs hne ?_
    have := SeqAt.RcAt.lists (A := A.in1) (s := s) (l := l1) (b := l2) (items := ⟨L1⟩) (items2 := ⟨L2⟩) (e := fun _ => true) ⟨_, a3, rfl, _, rfl⟩ ⟨_, a4, rfl, _, rfl⟩ (by simp [h1.len, h2.len]) hu1 (fun i m1 m2 => ?_)
    · rw [all_tt] at this
      exact this
    · obtain ⟨x, t, t', r1, r2⟩ := strs_at i h1 h2 (v := (⟨L1⟩ : Array Value)[i]) (u := (⟨L2⟩ : Array Value)[i]) (by simp) (by simp)
      rw [r1, r2]
      exact str_same _ _ x t t'
section
variable {w : World} {b₁ b₂ : Bool} {A : Around} {g : Heap} {n : Nat} {s : Shared} {R : Result → Shared → Prop}
theorem law_code {sc e : Nat} {Ls : List Value} (S : Sur n (wB w b₁ b₂).params A g) (hn : n + 240 ≤ 700) (hA : A.frames = some []) (hLs : Ls.length ≤ 63) (hints : ∀ v ∈ Ls, ∃ x t, v = .int x t)
    (D : Own g s.heap [(sc, lstE Ls e)])
    (h : ∀ (s' : Shared), Own g s'.heap [(sc, lstE Ls e)] → s'.gens = s.gens → s'.drawn = s.drawn → s'.os = s.os → R (.ok (.ret (.bool true))) s') :
    codeAny (model pw (wB w b₁ b₂)) A (lawCode sc) R s := by
  refine code_good D ?_
  obtain ⟨cf0, ac0, er0, hp, G⟩ := seg2 (gens := s.gens) (S.par (by omega) (R₀ := R) (d := s.drawn) (os := s.os)) (lwE w b₁ b₂ sc s.heap.objs.size s.toks [(sc, lstE Ls e)]) rfl
  simp only [prA, Prod.mk.injEq] at hp
  obtain ⟨q1, q2, q3⟩ := hp
  refine G (good_again q1 q2 (lw_quiet _) fun H D0 => ?_)
  rw [q3] at D0
  generalize s.heap.objs.size = z at *
  generalize s.toks = k0 at *
  refine func_ownQ lw_body (exP_app (Q := fun f s' => R (.ok (.ret (match f with | .ret v => v | _ => .none))) s') ?_)
  refine ex_goodP D0 ?_
  obtain ⟨cf1, ac1, er1, hp, G⟩ := seg2 (gens := s.gens) (S.par (by omega) (R₀ := fun r s' => match r with | .ok f => (match f with | .next => ExP (wB w b₁ b₂) A (lwFc z) [.Return (some (.Compare lwL [.Eq] [lwR] (lwPos 2))) (lwPos 1)] (lwEnv z) (fun f s' => R (.ok (.ret (match f with | .ret v => v | _ => .none))) s') (fun _ _ => False) s' | f => R (.ok (.ret (match f with | .ret v => v | _ => .none))) s') | .error e => False) (d := s.drawn) (os := s.os)) (lw0 w b₁ b₂ sc z k0 H.objs.size cf0.tk [(sc, lstE Ls e)]) rfl
  simp only [prX, Prod.mk.injEq] at hp
  obtain ⟨p1, p2, p3, p4⟩ := hp
  generalize H.objs.size = sz at *
  generalize cf0.tk = tk at *
  refine G (call_segH (ac' := ac1) [] [(sc, lstE Ls e), (z, lwF (wB w b₁ b₂).params k0 sc #[])] []
    (fun r sm => ∃ tp lt ld l1 l2 et ed e1 e2 TL DL L1 L2 ws sl, SameStr TL DL ∧ StrsOf L1 ws ∧ StrsOf L2 ws ∧ r = .ok (.ret (.ref tp)) ∧ sm = [(tp, tupO [.ref lt, .ref ld]), (lt, lstE (TL ++ [.ref l1]) et), (ld, lstE (DL ++ [.ref l2]) ed), (l1, lstE L1 e1), (l2, lstE L2 e2), (sc, lstE Ls e), (z, lwF (wB w b₁ b₂).params k0 sc sl)]) S (by omega) hA p1 p2 (fun H D' => ?_) ?_ ?_)
  · rw [p4] at D'
    exact D'.perm (List.Perm.swap ..)
  · intro A' g' s' R' S' hA' hk hr D' h'
    rw [p3] at hA'
    refine ans_code (fs := [(z, lwF (wB w b₁ b₂).params k0 sc #[])]) (es := [lwEnv z]) S' (by omega) hA' ⟨lw_kind z, rfl, (fun vs q => by cases q), trivial⟩ hLs hints D' fun s'' tp lt ld l1 l2 et ed e1 e2 TL DL L1 L2 ws fs' a1 a2 a3 a4 D2 g1 d1 o1 => ?_
    match fs', a4, D2 with
    | [], a4, _ => exact a4.elim
    | [q], a4, D2 =>
      obtain ⟨k1, ⟨sl, k2⟩, _⟩ := a4
      have e : q = (z, lwF (wB w b₁ b₂).params k0 sc sl) := Prod.ext k1 k2
      subst e
      exact h' s'' _ _ D2 ⟨tp, lt, ld, l1, l2, et, ed, e1, e2, TL, DL, L1, L2, ws, sl, a1, a2, a3, rfl, rfl⟩ g1 d1 o1
    | _ :: _ :: _, a4, _ => exact a4.2.2.elim
  · rintro rr sm' sz2 tk2 ⟨tp, lt, ld, l1, l2, et, ed, e1, e2, TL, DL, L1, L2, ws, sl, a1, a2, a3, rfl, rfl⟩
    refine after_sub (led' := (z, lwF (wB w b₁ b₂).params k0 sc sl) :: [(tp, tupO [Value.ref lt, Value.ref ld]), (lt, lstE (TL ++ [Value.ref l1]) et), (ld, lstE (DL ++ [Value.ref l2]) ed), (l1, lstE L1 e1), (l2, lstE L2 e2), (sc, lstE Ls e)]) (fun H D' => ?_) ?_ (by simp)
    · exact D'.perm (List.perm_append_comm (l₁ := [(tp, tupO [Value.ref lt, Value.ref ld]), (lt, lstE (TL ++ [Value.ref l1]) et), (ld, lstE (DL ++ [Value.ref l2]) ed), (l1, lstE L1 e1), (l2, lstE L2 e2), (sc, lstE Ls e)]) (l₂ := [(z, lwF (wB w b₁ b₂).params k0 sc sl)]))
    rw [← er1]
    obtain ⟨cf2, ac2, er2, hp, G⟩ := seg2 (gens := s.gens) (S.par (by omega) (R₀ := fun r s' => match r with | .ok f => (match f with | .next => ExP (wB w b₁ b₂) A (lwFc z) [.Return (some (.Compare lwL [.Eq] [lwR] (lwPos 2))) (lwPos 1)] (lwEnv z) (fun f s' => R (.ok (.ret (match f with | .ret v => v | _ => .none))) s') (fun _ _ => False) s' | f => R (.ok (.ret (match f with | .ret v => v | _ => .none))) s') | .error e => False) (d := s.drawn) (os := s.os)) (lw0b w b₁ b₂ sc z k0 sz tk tp sz2 tk2 sl [(sc, lstE Ls e)] [(tp, tupO [.ref lt, .ref ld]), (lt, lstE (TL ++ [.ref l1]) et), (ld, lstE (DL ++ [.ref l2]) ed), (l1, lstE L1 e1), (l2, lstE L2 e2), (sc, lstE Ls e)]) rfl
    simp only [prA, Prod.mk.injEq] at hp
    obtain ⟨q1, q2, q3⟩ := hp
    refine G (good_done q1 q2 fun H2 D2 _ => ?_)
    rw [q3] at D2
    refine ⟨own_return (own_compare1 (ev_good D2 ?_) lw_marks)⟩
    obtain ⟨cf3, _, _, hp, G⟩ := seg2 (gens := s.gens) (S.par (by omega) (d := s.drawn) (os := s.os)) (lw1 w b₁ b₂ sc z k0 tk2 tp lt ld H2.objs.size cf2.tk sl [(lt, lstE (TL ++ [.ref l1]) et), (ld, lstE (DL ++ [.ref l2]) ed), (l1, lstE L1 e1), (l2, lstE L2 e2), (sc, lstE Ls e)]) rfl
    simp only [prA, Prod.mk.injEq] at hp
    obtain ⟨q1, q2, q3⟩ := hp
    refine G (good_ret q1 q2 fun H3 D3 _ => ?_)
    rw [q3] at D3
    refine ev_good D3 ?_
    obtain ⟨cf4, _, _, hp, G⟩ := seg2 (gens := s.gens) (S.par (by omega) (d := s.drawn) (os := s.os)) (lw2 w b₁ b₂ sc z k0 tk2 tp lt ld H3.objs.size cf3.tk sl [(lt, lstE (TL ++ [.ref l1]) et), (ld, lstE (DL ++ [.ref l2]) ed), (l1, lstE L1 e1), (l2, lstE L2 e2), (sc, lstE Ls e)]) rfl
    simp only [prA, Prod.mk.injEq] at hp
    obtain ⟨q1, q2, q3⟩ := hp
    refine G (good_ret q1 q2 fun H4 D4 _ => wpOwn_of_wpAny ?_)
    rw [q3] at D4
    have hu : (A.under (lwFc z)).units + 1 < cLine := by
      have l1 := S.unit
      have l2 : (lwFc z).cUnits = 3 := rfl
      have l3 : cLine = 9900 := rfl
      show A.units + (lwFc z).cUnits + 1 < cLine
      omega
    have hne : l1 ≠ l2 := fun q => by
      have this : [z, tp, lt, ld, l1, l2, sc].Nodup := D4.nodup
      simp only [List.nodup_cons, List.mem_cons] at this
      exact this.2.2.2.2.1 (.inl q)
    refine told_same a1 a2 a3 hne (by omega) (by exact hu) (D4.has (lt, lstE (TL ++ [Value.ref l1]) et) (by simp)) (D4.has (ld, lstE (DL ++ [Value.ref l2]) ed) (by simp)) (D4.has (l1, lstE L1 e1) (by simp)) (D4.has (l2, lstE L2 e2) (by simp)) ?_
    exact h ⟨H4, s.gens, s.drawn, cf4.tk, s.os⟩ (D4.drop (n := 6) rfl) rfl rfl rfl
end
end Mine
end
section
open PySem PySem.W PyProof.Rows PySem.Builtin PySem.Builtin.Str
set_option Elab.async false
set_option maxRecDepth 1000000
set_option maxHeartbeats 4000000
set_option linter.unusedVariables false
namespace Mine
theorem kGet_of : ∀ (l : List (Nat × Obj)) (h : Heap), (l.map (·.1)).map h.get? = l.map (fun x => some x.2) → ∀ a o, kGet l a = some o → h.get? a = some o
  | [], _, _, a, o, e => by cases e
  | x :: l, h, q, a, o, e => by
    simp only [List.map_cons, List.cons.injEq] at q
    unfold kGet at e
    cases hx : Nat.beq x.1 a with
    | true => rw [hx] at e; cases e; rw [← Nat.eq_of_beq_eq_true hx]; exact q.1
    | false => rw [hx] at e; exact kGet_of l h q.2 a o e
theorem kAddrs_is (p : Params) : kAddrs = (kList p).map (·.1) := by kernel_rfl
theorem kin_of {w : World} {h : Heap} (e : kAddrs.map h.get? = (kList w.params).map fun x => some x.2) : KIn w.params h := by
  rw [kAddrs_is w.params] at e
  exact kGet_of _ _ e
noncomputable def notList (o : Obj) : Bool := match o.cls with
  | .type t => t != "list"
  | _ => true
theorem kGet_all (f : Obj → Bool) : ∀ (l : List (Nat × Obj)), l.all (fun x => f x.2) = true → ∀ a o, kGet l a = some o → f o = true
  | [], _, a, o, e => by cases e
  | x :: l, q, a, o, e => by
    simp only [List.all_cons, Bool.and_eq_true] at q
    unfold kGet at e
    cases hx : Nat.beq x.1 a with
    | true => rw [hx] at e; cases e; exact q.1
    | false => rw [hx] at e; exact kGet_all f l q.2 a o e
theorem k_notList (p : Params) : (kList p).all (fun x => notList x.2) = true := by kernel_rfl
theorem law_at {p : Params} {h : Heap} {mg : Str → Option Value} (K : KIn p h) (G : h.Ns mainGlobals mg) : mg "law" = some (.ref 818) := by
  obtain ⟨o, es, ep, h1, h2, _, h4⟩ := G
  have k : h.get? 3 = some (k3 p) := K 3 _ (by kernel_rfl)
  have e : mainGlobals = 3 := rfl
  rw [e, k] at h1
  obtain rfl := Option.some.inj h1
  rw [← h4]
  have e2 : (k3 p).data = .dict es ep := h2
  have : nsFind es "law" = (match (k3 p).data with | .dict es _ => nsFind es "law" | _ => none) := by rw [e2]
  rw [this]
  kernel_rfl
theorem ints_of {R : WRecords} {cl : Str → Option Addr} {h : Heap} : ∀ {xs : List WData} {vs : List Value} {as : List Addr}, WShape.hasItems R xs .int = true → ReadsAllW R cl h vs xs as → ∀ v ∈ vs, ∃ x t, v = .int x t
  | [], _, _, _, .nil, v, hv => by cases hv
  | x :: xs, v :: vs, _, hx, .cons r1 r2, u, hu => by
    have hx' : (WShape.has R x .int && WShape.hasItems R xs .int) = true := hx
    obtain ⟨h1, h2⟩ := Bool.and_eq_true_iff.mp hx'
    rcases List.mem_cons.mp hu with rfl | hu
    · obtain ⟨i, rfl⟩ := hasW_int h1
      obtain ⟨t, e, _⟩ := readsW_int_inv r1
      exact ⟨i, t, e⟩
    · exact ints_of h2 r2 u hu
theorem caller_sur {p : Params} {g : Heap} (k : KIn p g) (l : g.NoLimit) : Sur 301 p callerA g := ⟨k, l, by decide +kernel, by decide +kernel, rfl⟩

theorem pre_len {R : WRecords} {xs : List WData} (h : WTm.holds R (.and (.not (.lt (.lit (.int 63)) (.len (.arg 0)))) (.lit (.bool true))) { args := [.list xs] } = true) : xs.length ≤ 63 := by
  by_cases hc : xs.length ≤ 63
  · exact hc
  · exfalso
    unfold WTm.holds at h
    have e : less? (WData.int 63) (WData.int (xs.length : Int)) = some true := by
      show some (decide ((63 : Int) < (xs.length : Int))) = some true
      rw [decide_eq_true (by omega)]
    simp [WTm.value, e] at h
theorem post_ok (xs : List WData) : PySem.Challenge.rw_nq0216_01.row.toRowW.claim.post [.list xs] (.bool true) [.list xs] = true := by kernel_rfl
theorem law_walk {w : World} {s₀ s₁ : Shared} {vals : List Value} {args : List WData} {as : List Addr} (K : KIn w.params s₁.heap) (L : s₁.heap.NoLimit) (hg : s₁.gens = #[])
    (hpre : PySem.Challenge.rw_nq0216_01.row.toRowW.claim.pre args = true) (hrd : ReadsAllW PySem.Challenge.rw_nq0216_01.row.toRowW.records (classAt s₀.heap) s₁.heap vals args as) (hwl : WellAll w.params s₁.heap vals args) :
    wpAny (model pw w) callerA (PySem.call (.ref 818) vals) (fun v s' => GoodWG PySem.Challenge.rw_nq0216_01.row.toRowW.claim (classAt s₀.heap) (ExcName.means s₀.heap) args s₁ (.ok (.ret v)) s')
      (fun e s' => GoodWG PySem.Challenge.rw_nq0216_01.row.toRowW.claim (classAt s₀.heap) (ExcName.means s₀.heap) args s₁ (.error e) s') s₁ := by
  obtain ⟨hp1, hp2⟩ := pre_splitW hpre
  obtain ⟨d, r, rfl, hx, hr⟩ := hasAllW_cons hp1
  obtain rfl := hasAllW_nil hr
  obtain ⟨xs, rfl, hall⟩ := hasW_list hx
  have hlen : xs.length ≤ 63 := pre_len hp2
  cases hwl with
  | cons hw1 hw2 =>
  cases hw2
  cases hw1 with
  | @list sc vs _ ho hwa =>
  cases hrd with
  | cons r1 r2 =>
  obtain ⟨a, vs', as', e, ⟨o, ho', _, n, hd⟩, hra, _⟩ := readsW_list_inv r1
  cases e
  rw [ho] at ho'
  obtain rfl := Option.some.inj ho'
  cases hd
  have hints := ints_of hall hra
  have hlv : vs.length ≤ 63 := by
    have := hra.length
    simp at this
    omega
  refine enter_call ?_
  have hno : ∀ a o, kLook w.params a = some o → a ≠ sc := fun a o e q => by
    subst q
    have h1 := K _ _ e
    rw [ho] at h1
    obtain rfl := Option.some.inj h1
    have h2 := kGet_all notList _ (k_notList w.params) _ _ e
    simp [notList] at h2
  have K' : KIn w.params (hide s₁.heap [sc]) := fun a o e => by
    rw [get_hide, if_neg (by simpa using hno a o e)]
    exact K a o e
  have hst : sc ≠ cStatics := fun q => by
    obtain ⟨_, ⟨o, es, ep, h1, h2, _⟩, _⟩ := L
    rw [← q, ho] at h1
    obtain rfl := Option.some.inj h1
    cases h2
  have L' : (hide s₁.heap [sc]).NoLimit := L.at fun o e => by
    rw [get_hide, if_neg (by simpa using (Ne.symm hst))]
    exact e
  have D : Own (hide s₁.heap [sc]) s₁.heap [(sc, lstE vs 0)] := by
    refine ⟨fun b o e => ?_, fun p hp => ?_, fun p hp => ?_, by simp⟩
    · rw [get_hide] at e
      split at e
      · cases e
      · exact e
    · rw [List.mem_singleton] at hp
      subst hp
      exact ho
    · rw [List.mem_singleton] at hp
      subst hp
      rw [get_hide, if_pos (by simp)]
  have W := wB_self w
  generalize (w.withFollow "special-get-raises" (w.params.followText "special-get-raises")).params.followText "special-get-raises" = b1 at W
  generalize w.params.followText "comprehension-iter-twice" = b2 at W
  rw [← W] at K' ⊢
  refine law_code (caller_sur K' L') (by omega) rfl hlv hints D fun s' D' g1 d1 o1 => ?_
  refine ⟨.inl ⟨.bool true, .bool true, [], rfl, fun _ => rfl, .bool true, post_ok xs, fun _ => ⟨.nil, fun _ h => by cases h⟩⟩, .of_keep fun b o e => ?_, o1, .of_eq (g1.trans hg)⟩
  by_cases hb : b = sc
  · subst hb
    rw [ho] at e
    obtain rfl := Option.some.inj e
    exact D'.has _ List.mem_cons_self
  · refine D'.keep b o ?_
    rw [get_hide, if_neg (by simpa using hb)]
    exact e
theorem holds : PySem.Challenge.rw_nq0216_01.Holds := by
  refine holds_law law_said fun said => ?_
  refine holds_open (q := q0) (loose := loose0) (Xt := fun _ => true) (XP := fun _ _ => True) (YP := fun w h => KIn w.params h) (N := 10748) left0 (fun w s e => kin_of e) (fun w h h' k st => k.keeps st) (fun _ _ => trivial) (fun _ _ _ _ _ => trivial)
    (by rfl) (by rfl) (by rfl) (fun s _ => recFacts_of (by rfl)) (by rfl) said (by decide +kernel) ⟨rfl, rfl, rfl, rfl, rfl, by decide +kernel⟩ ⟨[.list []], by decide +kernel, by decide +kernel⟩ ?_
  intro w s₀ s₁ mg mb G Y a o pm cd doc dV kV ho hd hcd hD hmg hg args vals as hpre hlay hrd hwl hlo
  have h818 := law_at Y G.T.g
  have e : mg "law" = some (.ref a) := hmg
  rw [h818] at e
  cases e
  exact law_walk Y G.T.nolimit hg hpre hrd hwl
end Mine
end
theorem PySem.Challenge.cw_nq0216_01_holds : PySem.Challenge.rw_nq0216_01.Holds := by
  exact Mine.holds
