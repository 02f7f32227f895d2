import PyProof.Rows.All
import Wide.All
import OpenK.AllK
import Wide.FinOn
import Lean
import PySem.Challenge.RW_wo0075_01
set_option Elab.async false
set_option maxRecDepth 100000
set_option maxHeartbeats 0
set_option pp.maxSteps 1500
set_option pp.deepTerms false
set_option compiler.extract_closed false
namespace Mine
local macro_rules | `(tactic| omega) => `(tactic| first | with_reducible assumption | lia | omega +splitNatSub)
section
open PySem PySem.W PyProof.Rows PySem.Calls
section
variable {tb : String → Option Builtin} {p : Program} {w : World}
noncomputable def endsT (tb : String → Option Builtin) (p : Program) (w : World) : Nat → SharedT → Thread → Option SharedT
  | 0, _, _ => none
  | n + 1, s, t => match t.atExitBegin with
    | some [] => some s
    | some (_ :: _) => none
    | none => match PySem.W.Fast.tw10156331382660048174 (PySem.W.Fast.tw11892475500146522536 tb) p w s t with
      | some (s', t') => endsT tb p w n s' t'
      | none => none
theorem ends_of : ∀ {n : Nat} {s s' : SharedT} {t : Thread}, endsT tb p w n s t = some s' → importEnds tb p w n s.abs t = some s'.abs
  | 0, _, _, _, h => by cases h
  | n + 1, s, s', t, h => by
    unfold endsT at h
    rw [← PySem.W.Fast.te10156331382660048174, ← PySem.W.Fast.te11892475500146522536] at h
    unfold importEnds
    cases he : t.atExitBegin with
    | some l =>
      rw [he] at h
      cases l with
      | nil => cases h; rfl
      | cons => cases h
    | none =>
      rw [he] at h
      cases hs : stepT (denote tb) p w s t with
      | none => rw [hs] at h; cases h
      | some r => obtain ⟨s₂, t₂⟩ := r; rw [hs] at h; dsimp only; rw [stepT_spec hs]; exact ends_of h
noncomputable def runT (tb : String → Option Builtin) (p : Program) (w : World) (n₀ : Nat) (ann : Option Value) : Nat → SharedT → Thread → Option SharedT
  | 0, _, _ => none
  | n + 1, s, t => match through t with
    | true => some s
    | false => match stepOk n₀ ann t with
      | false => none
      | true => match PySem.W.Fast.tw10156331382660048174 (PySem.W.Fast.tw11892475500146522536 tb) p w s t with
        | some (s', t') => runT tb p w n₀ ann n s' t'
        | none => none
theorem run_of {n₀ : Nat} {ann : Option Value} : ∀ {n : Nat} {s s' : SharedT} {t : Thread}, runT tb p w n₀ ann n s t = some s' → topRun tb p w n₀ ann n s.abs t = some s'.abs
  | 0, _, _, _, h => by cases h
  | n + 1, s, s', t, h => by
    unfold runT at h
    rw [← PySem.W.Fast.te10156331382660048174, ← PySem.W.Fast.te11892475500146522536] at h
    unfold topRun
    cases he : through t with
    | true => rw [he] at h; cases h; rfl
    | false =>
      rw [he] at h
      cases hk : stepOk n₀ ann t with
      | false => rw [hk] at h; cases h
      | true =>
        rw [hk] at h
        cases hs : stepT (denote tb) p w s t with
        | none => rw [hs] at h; cases h
        | some r => obtain ⟨s₂, t₂⟩ := r; rw [hs] at h; rw [stepT_spec hs]; exact run_of h
noncomputable def treeOf : List Obj → Nat → BT → Option BT
  | [], _, t => some t
  | o :: r, n, t => match ((t.ins n o).get n).isSome with
    | true => treeOf r (n + 1) (t.ins n o)
    | false => none
theorem tree_of (life : Life) : ∀ {l : List Obj} {n : Nat} {t t' : BT}, treeOf l n t = some t' → (absHeap t' (n + l.length) life).objs = (absHeap t n life).objs ++ l.toArray
  | [], n, t, t', h => by cases h; simp
  | o :: r, n, t, t', h => by
    unfold treeOf at h
    cases hi : ((t.ins n o).get n).isSome with
    | false => rw [hi] at h; cases h
    | true =>
      rw [hi] at h
      have ih := tree_of life h
      rw [absHeap_ins hi] at ih
      rw [show n + (o :: r).length = n + 1 + r.length by simp only [List.length_cons]; omega, ih]
      show (absHeap t n life).objs.push o ++ _ = _
      simp
noncomputable def toT (s : Shared) : Option SharedT := (treeOf s.heap.objs.toList 0 .nil).map fun t => ⟨t, s.heap.objs.toList.length, s.heap.life, s.gens, s.drawn, s.toks, s.os⟩
theorem toT_of {s : Shared} {t : SharedT} (h : toT s = some t) : t.abs = s := by
  obtain ⟨x, hx, rfl⟩ := Option.map_eq_some_iff.mp h
  have e := tree_of s.heap.life hx
  obtain ⟨⟨objs, life⟩, gens, drawn, toks, os⟩ := s
  unfold SharedT.abs
  dsimp only at e ⊢
  rw [Nat.zero_add] at e
  have : absHeap x objs.toList.length life = ⟨objs, life⟩ := by
    show Heap.mk (absHeap x objs.toList.length life).objs life = _
    rw [e]
    have z : (absHeap BT.nil 0 life).objs = #[] := rfl
    rw [z]
    simp
  rw [this]
noncomputable def R0 (tb : String → Option Builtin) (p : Program) (w : World) (N : Nat) : Option Shared :=
  (toT (start (opening p)).1).bind fun a => (endsT tb (opening p) w N a (start (opening p)).2).bind fun e => PySem.W.Fast.tw14289696077712309145 p e.abs
noncomputable def R1 (tb : String → Option Builtin) (p : Program) (w : World) (N : Nat) : Option Shared := (R0 tb p w N).bind fun s₀ =>
  match s₀.heap.isNs mainGlobals && s₀.gens.size == 0 with
  | true => (toT s₀).bind fun a => (runT tb p w s₀.heap.objs.size (s₀.heap.nsMap mainGlobals "__annotations__") N a (topStub p)).bind fun e =>
    match staticsOk (importedModules p.main.body) s₀.heap e.abs.heap && namesBound p e.abs.heap && gensDone e.abs && laidKept s₀.heap e.abs.heap with
    | true => some e.abs
    | false => none
  | false => none
theorem r0_of {N : Nat} {s : Shared} (h : R0 tb p w N = some s) : fencedOpening tb p w N = some s := by
  obtain ⟨a, ha, h⟩ := Option.bind_eq_some_iff.mp h
  obtain ⟨e, he, h⟩ := Option.bind_eq_some_iff.mp h
  unfold fencedOpening
  rw [← toT_of ha, ends_of he, PySem.W.Fast.te14289696077712309145]
  exact h
theorem r1_of {N : Nat} {s : Shared} (h : R1 tb p w N = some s) : openEnds tb p w N = some s := by
  obtain ⟨s₀, h0, h⟩ := Option.bind_eq_some_iff.mp h
  unfold openEnds
  rw [r0_of h0]
  show topFrom tb p w N s₀ = _
  unfold topFrom
  cases hg : (s₀.heap.isNs mainGlobals && s₀.gens.size == 0) with
  | false => rw [hg] at h; cases h
  | true =>
    rw [hg] at h
    obtain ⟨a, ha, h⟩ := Option.bind_eq_some_iff.mp h
    obtain ⟨e, he, h⟩ := Option.bind_eq_some_iff.mp h
    have r := run_of he
    rw [toT_of ha] at r
    show (topRun tb p w _ _ N s₀ (topStub p)).bind _ = _
    rw [r]
    exact h
end
end
section
open PySem PySem.W PyProof.Rows PySem.Calls
noncomputable abbrev pw := PySem.Challenge.pw_wo0075_01
noncomputable abbrev P0 := PySem.Challenge.rw_wo0075_01.row.prog
noncomputable def hTp (i : Nat) : Stmt := (pw.main.body[i]?).getD (.Pass default)
noncomputable def hMt (i : Nat) : Stmt := match hTp 25 with
  | .ClassDef _ _ _ b .. => (b[i]?).getD (.Pass default)
  | s => s
noncomputable def partsD : Stmt → Arguments × List Stmt × Scope × Pos
  | .FunctionDef _ a b _ _ _ s _ _ p => (a, b, s, p)
  | _ => default
noncomputable abbrev fO (n q : String) (st : Stmt) (a : Arguments) (b : List Stmt) (s : Scope) {p : Pos} (_h : partsD st = (a, b, s, p)) (d m c : Value) : Obj :=
  ⟨.type "function", none, .func ⟨Str.ofString n, Str.ofString q, a, .stmts b, s, 3, [], d, .none, .none, m, none, c, .none, 0⟩, #[]⟩
noncomputable def hd.view_39 : Program := view pw [0,1,3,4,5,6,7,9,10,11,12,13,15,16,17,18,19,21,22,23,25,27,28,29,30,31,32,33,34,35,36]
noncomputable def hd.heap_39 (P : Params) : Frag :=
  (nat_lit 2, Obj.mk Value.none none (Data.dict #[DictEntry.mk (PyData.keyHash P (Str.ofString "im\x70ort.loaded._sre")) (Value.str (Str.ofString "im\x70ort.loaded._sre") 183) (Value.bool true), DictEntry.mk (PyData.keyHash P (Str.ofString "class._frozen_importlib.BuiltinImporter")) (Value.str (Str.ofString "class._frozen_importlib.BuiltinImporter") 185) (Value.ref 14), DictEntry.mk (PyData.keyHash P (Str.ofString "watched.im\x70ort")) (Value.str (Str.ofString "watched.im\x70ort") 206) (Value.ref 18), DictEntry.mk (PyData.keyHash P (Str.ofString "class._frozen_importlib.ModuleSpec")) (Value.str (Str.ofString "class._frozen_importlib.ModuleSpec") 216) (Value.ref 22), DictEntry.mk (PyData.keyHash P (Str.ofString "sys.modules.booked-epoch")) (Value.str (Str.ofString "sys.modules.booked-epoch") 245) (Value.int 3 0), DictEntry.mk (PyData.keyHash P (Str.ofString "im\x70ort.later-laid._sre")) (Value.str (Str.ofString "im\x70ort.later-laid._sre") 270) (Value.bool true), DictEntry.mk (PyData.keyHash P (Str.ofString "watched.library")) (Value.str (Str.ofString "watched.library") 272) (Value.ref 27), DictEntry.mk (PyData.keyHash P (Str.ofString "watched.library-objects")) (Value.str (Str.ofString "watched.library-objects") 0) (Value.str (Str.ofString "\x0c") 0), DictEntry.mk (PyData.keyHash P (Str.ofString "watched.library-deep._sre")) (Value.str (Str.ofString "watched.library-deep._sre") 273) (Value.str (Str.ofString "\x04\x00\x00\x0b\x04\x00\x00\x0b\x04\x00\x00\x03\x04\x00\x00\x0b\x08\x04dict\x02") 0), DictEntry.mk (PyData.keyHash P (Str.ofString "type.__subclasses__.Exception.0")) (Value.str (Str.ofString "type.__subclasses__.Exception.0") 307) (Value.int 48 0), DictEntry.mk (PyData.keyHash P (Str.ofString "type.__subclasses__.Exception.n")) (Value.str (Str.ofString "type.__subclasses__.Exception.n") 308) (Value.int 1 0)] 11) #[]) ::
  (nat_lit 3, Obj.mk (Value.type "dict") none (Data.dict #[DictEntry.mk (PyData.keyHash P (Str.ofString "__name__")) (Value.str (Str.ofString "__name__") 165) (Value.str (Str.ofString "law_wo0075_01") 709), DictEntry.mk (PyData.keyHash P (Str.ofString "__doc__")) (Value.str (Str.ofString "__doc__") 166) Value.none, DictEntry.mk (PyData.keyHash P (Str.ofString "__package__")) (Value.str (Str.ofString "__package__") 167) Value.none, DictEntry.mk (PyData.keyHash P (Str.ofString "__loader__")) (Value.str (Str.ofString "__loader__") 168) (Value.builtin "__main__.__loader__#opaque"), DictEntry.mk (PyData.keyHash P (Str.ofString "__spec__")) (Value.str (Str.ofString "__spec__") 169) Value.none, DictEntry.mk (PyData.keyHash P (Str.ofString "__annotations__")) (Value.str (Str.ofString "__annotations__") 170) (Value.ref 6), DictEntry.mk (PyData.keyHash P (Str.ofString "__builtins__")) (Value.str (Str.ofString "__builtins__") 171) (Value.ref 4), DictEntry.mk (PyData.keyHash P (Str.ofString "__file__")) (Value.str (Str.ofString "__file__") 173) (Value.str (Str.ofString "/claim/cut.py") 172), DictEntry.mk (PyData.keyHash P (Str.ofString "__cached__")) (Value.str (Str.ofString "__cached__") 174) Value.none, DictEntry.mk (PyData.keyHash P (Str.ofString "_sre")) (Value.str (Str.ofString "_sre") 275) (Value.ref 12), DictEntry.mk (PyData.keyHash P (Str.ofString "_wall")) (Value.str (Str.ofString "_wall") 288) (Value.ref 38), DictEntry.mk (PyData.keyHash P (Str.ofString "Error")) (Value.str (Str.ofString "Error") 310) (Value.ref 48), DictEntry.mk (PyData.keyHash P (Str.ofString "error_reply")) (Value.str (Str.ofString "error_reply") 326) (Value.ref 61), DictEntry.mk (PyData.keyHash P (Str.ofString "error_proto")) (Value.str (Str.ofString "error_proto") 342) (Value.ref 73), DictEntry.mk (PyData.keyHash P (Str.ofString "parse229")) (Value.str (Str.ofString "parse229") 355) (Value.ref 82), DictEntry.mk (PyData.keyHash P (Str.ofString "parse257")) (Value.str (Str.ofString "parse257") 366) (Value.ref 89), DictEntry.mk (PyData.keyHash P (Str.ofString "lt")) (Value.str (Str.ofString "lt") 376) (Value.ref 96), DictEntry.mk (PyData.keyHash P (Str.ofString "add")) (Value.str (Str.ofString "add") 384) (Value.ref 103), DictEntry.mk (PyData.keyHash P (Str.ofString "sub")) (Value.str (Str.ofString "sub") 392) (Value.ref 110), DictEntry.mk (PyData.keyHash P (Str.ofString "getitem")) (Value.str (Str.ofString "getitem") 400) (Value.ref 117), DictEntry.mk (PyData.keyHash P (Str.ofString "setitem")) (Value.str (Str.ofString "setitem") 409) (Value.ref 124), DictEntry.mk (PyData.keyHash P (Str.ofString "_MAX_STRING_SIZE")) (Value.str (Str.ofString "_MAX_STRING_SIZE") 413) (Value.int 40 412), DictEntry.mk (PyData.keyHash P (Str.ofString "_MOVE_COST")) (Value.str (Str.ofString "_MOVE_COST") 415) (Value.int 2 414), DictEntry.mk (PyData.keyHash P (Str.ofString "_CASE_COST")) (Value.str (Str.ofString "_CASE_COST") 417) (Value.int 1 416), DictEntry.mk (PyData.keyHash P (Str.ofString "_substitution_cost")) (Value.str (Str.ofString "_substitution_cost") 425) (Value.ref 131), DictEntry.mk (PyData.keyHash P (Str.ofString "_levenshtein_distance")) (Value.str (Str.ofString "_levenshtein_distance") 445) (Value.ref 138), DictEntry.mk (PyData.keyHash P (Str.ofString "tspecials")) (Value.str (Str.ofString "tspecials") 481) (Value.ref 143), DictEntry.mk (PyData.keyHash P (Str.ofString "_name_disallowed_re")) (Value.str (Str.ofString "_name_disallowed_re") 507) (Value.ref 148), DictEntry.mk (PyData.keyHash P (Str.ofString "_value_disallowed_re")) (Value.str (Str.ofString "_value_disallowed_re") 541) (Value.ref 153), DictEntry.mk (PyData.keyHash P (Str.ofString "_formatparam")) (Value.str (Str.ofString "_formatparam") 551) (Value.ref 161), DictEntry.mk (PyData.keyHash P (Str.ofString "Headers")) (Value.str (Str.ofString "Headers") 708) (Value.ref 282), DictEntry.mk (PyData.keyHash P (Str.ofString "_law_cells")) (Value.str (Str.ofString "_law_cells") 719) (Value.ref 293), DictEntry.mk (PyData.keyHash P (Str.ofString "_law_words")) (Value.str (Str.ofString "_law_words") 731) (Value.ref 300), DictEntry.mk (PyData.keyHash P (Str.ofString "_law_price")) (Value.str (Str.ofString "_law_price") 743) (Value.ref 307), DictEntry.mk (PyData.keyHash P (Str.ofString "_law_far")) (Value.str (Str.ofString "_law_far") 749) (Value.ref 312), DictEntry.mk (PyData.keyHash P (Str.ofString "_law_reply")) (Value.str (Str.ofString "_law_reply") 758) (Value.ref 319), DictEntry.mk (PyData.keyHash P (Str.ofString "_law_round")) (Value.str (Str.ofString "_law_round") 780) (Value.ref 326), DictEntry.mk (PyData.keyHash P (Str.ofString "_law_least")) (Value.str (Str.ofString "_law_least") 786) (Value.ref 331), DictEntry.mk (PyData.keyHash P (Str.ofString "_law_rest")) (Value.str (Str.ofString "_law_rest") 792) (Value.ref 336), DictEntry.mk (PyData.keyHash P (Str.ofString "_law_refused")) (Value.str (Str.ofString "_law_refused") 798) (Value.ref 341), DictEntry.mk (PyData.keyHash P (Str.ofString "law")) (Value.str (Str.ofString "law") 804) (Value.ref 346)] 41) #[]) ::
  (nat_lit 39, Obj.mk (Value.type "tuple") none (Data.seq #[Value.type "Exception"]) #[]) ::
  (nat_lit 46, Obj.mk (Value.type "tuple") none (Data.seq #[]) #[]) ::
  (nat_lit 47, Obj.mk (Value.type "dict") none (Data.dict #[DictEntry.mk (PyData.keyHash P (Str.ofString "__module__")) (Value.str (Str.ofString "__module__") 298) (Value.str (Str.ofString "cpy313.ftplib") 289), DictEntry.mk (PyData.keyHash P (Str.ofString "__firstlineno__")) (Value.str (Str.ofString "__firstlineno__") 302) (Value.int 6 301), DictEntry.mk (PyData.keyHash P (Str.ofString "__static_attributes__")) (Value.str (Str.ofString "__static_attributes__") 303) (Value.ref 46), DictEntry.mk (PyData.keyHash P (Str.ofString "__weakref__")) (Value.str (Str.ofString "__weakref__") 305) (Value.ref 49), DictEntry.mk (PyData.keyHash P (Str.ofString "__doc__")) (Value.str (Str.ofString "__doc__") 306) Value.none] 3) #[]) ::
  (nat_lit 48, Obj.mk (Value.type "type") none (Data.cls (ClassData.mk (Str.ofString "Error") [Value.type "Exception"] [Value.ref 48, Value.type "Exception", Value.type "BaseException", Value.type "object"] 47 (Str.ofString "Error") true [] [Value.ref 61, Value.ref 73] false none false)) #[Option.some (Value.ref 39), none, Option.some (Value.str (Str.ofString "Error") 291), Option.some (Value.str (Str.ofString "Error") 299), Option.some (Value.builtin "Exception.__new__"), Option.some (Value.bool true)]) ::
  (nat_lit 52, Obj.mk (Value.type "tuple") none (Data.seq #[Value.ref 48]) #[]) ::
  (nat_lit 59, Obj.mk (Value.type "tuple") none (Data.seq #[]) #[]) ::
  (nat_lit 60, Obj.mk (Value.type "dict") none (Data.dict #[DictEntry.mk (PyData.keyHash P (Str.ofString "__module__")) (Value.str (Str.ofString "__module__") 318) (Value.str (Str.ofString "cpy313.ftplib") 289), DictEntry.mk (PyData.keyHash P (Str.ofString "__firstlineno__")) (Value.str (Str.ofString "__firstlineno__") 322) (Value.int 8 321), DictEntry.mk (PyData.keyHash P (Str.ofString "__static_attributes__")) (Value.str (Str.ofString "__static_attributes__") 323) (Value.ref 59), DictEntry.mk (PyData.keyHash P (Str.ofString "__doc__")) (Value.str (Str.ofString "__doc__") 324) Value.none] 2) #[]) ::
  (nat_lit 61, Obj.mk (Value.type "type") none (Data.cls (ClassData.mk (Str.ofString "error_reply") [Value.ref 48] [Value.ref 61, Value.ref 48, Value.type "Exception", Value.type "BaseException", Value.type "object"] 60 (Str.ofString "error_reply") true [] [] false none false)) #[Option.some (Value.ref 52), none, Option.some (Value.str (Str.ofString "error_reply") 311), Option.some (Value.str (Str.ofString "error_reply") 319), Option.some (Value.builtin "Exception.__new__"), Option.some (Value.bool true)]) ::
  (nat_lit 64, Obj.mk (Value.type "tuple") none (Data.seq #[Value.ref 48]) #[]) ::
  (nat_lit 71, Obj.mk (Value.type "tuple") none (Data.seq #[]) #[]) ::
  (nat_lit 72, Obj.mk (Value.type "dict") none (Data.dict #[DictEntry.mk (PyData.keyHash P (Str.ofString "__module__")) (Value.str (Str.ofString "__module__") 334) (Value.str (Str.ofString "cpy313.ftplib") 289), DictEntry.mk (PyData.keyHash P (Str.ofString "__firstlineno__")) (Value.str (Str.ofString "__firstlineno__") 338) (Value.int 10 337), DictEntry.mk (PyData.keyHash P (Str.ofString "__static_attributes__")) (Value.str (Str.ofString "__static_attributes__") 339) (Value.ref 71), DictEntry.mk (PyData.keyHash P (Str.ofString "__doc__")) (Value.str (Str.ofString "__doc__") 340) Value.none] 2) #[]) ::
  (nat_lit 73, Obj.mk (Value.type "type") none (Data.cls (ClassData.mk (Str.ofString "error_proto") [Value.ref 48] [Value.ref 73, Value.ref 48, Value.type "Exception", Value.type "BaseException", Value.type "object"] 72 (Str.ofString "error_proto") true [] [] false none false)) #[Option.some (Value.ref 64), none, Option.some (Value.str (Str.ofString "error_proto") 327), Option.some (Value.str (Str.ofString "error_proto") 335), Option.some (Value.builtin "Exception.__new__"), Option.some (Value.bool true)]) ::
  (nat_lit 81, Obj.mk (Value.type "code") none (Data.fields #[Value.str (Str.ofString "parse229") 343, Value.str (Str.ofString "parse229") 344, Value.str (Str.ofString "/claim/cut.py") 345, Value.int 12 0, Value.int 2 0, Value.int 0 0, Value.int 0 0, Value.int 3 0, Value.ref 76, Value.bool true, Value.int 276 0, Value.ref 77, Value.none, Value.ref 78, Value.ref 79, Value.ref 80, Value.int 353 0, Value.int 12 0, Value.str (Str.ofString "/claim/cut.py") 354]) #[]) ::
  (nat_lit 82, fO "parse229" "parse229" (hTp 6) _ _ _ rfl Value.none (Value.str (Str.ofString "cpy313.ftplib") 289) (Value.ref 81)) ::
  (nat_lit 88, Obj.mk (Value.type "code") none (Data.fields #[Value.str (Str.ofString "parse257") 356, Value.str (Str.ofString "parse257") 357, Value.str (Str.ofString "/claim/cut.py") 358, Value.int 29 0, Value.int 1 0, Value.int 0 0, Value.int 0 0, Value.int 3 0, Value.ref 83, Value.bool true, Value.int 276 0, Value.ref 84, Value.none, Value.ref 85, Value.ref 86, Value.ref 87, Value.int 364 0, Value.int 29 0, Value.str (Str.ofString "/claim/cut.py") 365]) #[]) ::
  (nat_lit 89, fO "parse257" "parse257" (hTp 7) _ _ _ rfl Value.none (Value.str (Str.ofString "cpy313.ftplib") 289) (Value.ref 88)) ::
  (nat_lit 95, Obj.mk (Value.type "code") none (Data.fields #[Value.str (Str.ofString "lt") 369, Value.str (Str.ofString "lt") 370, Value.str (Str.ofString "/claim/cut.py") 371, Value.int 47 0, Value.int 2 0, Value.int 0 0, Value.int 0 0, Value.int 3 0, Value.ref 90, Value.bool true, Value.int 276 0, Value.ref 91, Value.none, Value.ref 92, Value.ref 93, Value.ref 94, Value.int 374 0, Value.int 47 0, Value.str (Str.ofString "/claim/cut.py") 375]) #[]) ::
  (nat_lit 96, fO "lt" "lt" (hTp 9) _ _ _ rfl Value.none (Value.str (Str.ofString "cpy313.operator") 367) (Value.ref 95)) ::
  (nat_lit 102, Obj.mk (Value.type "code") none (Data.fields #[Value.str (Str.ofString "add") 377, Value.str (Str.ofString "add") 378, Value.str (Str.ofString "/claim/cut.py") 379, Value.int 49 0, Value.int 2 0, Value.int 0 0, Value.int 0 0, Value.int 3 0, Value.ref 97, Value.bool true, Value.int 276 0, Value.ref 98, Value.none, Value.ref 99, Value.ref 100, Value.ref 101, Value.int 382 0, Value.int 49 0, Value.str (Str.ofString "/claim/cut.py") 383]) #[]) ::
  (nat_lit 103, fO "add" "add" (hTp 10) _ _ _ rfl Value.none (Value.str (Str.ofString "cpy313.operator") 367) (Value.ref 102)) ::
  (nat_lit 109, Obj.mk (Value.type "code") none (Data.fields #[Value.str (Str.ofString "sub") 385, Value.str (Str.ofString "sub") 386, Value.str (Str.ofString "/claim/cut.py") 387, Value.int 51 0, Value.int 2 0, Value.int 0 0, Value.int 0 0, Value.int 3 0, Value.ref 104, Value.bool true, Value.int 276 0, Value.ref 105, Value.none, Value.ref 106, Value.ref 107, Value.ref 108, Value.int 390 0, Value.int 51 0, Value.str (Str.ofString "/claim/cut.py") 391]) #[]) ::
  (nat_lit 110, fO "sub" "sub" (hTp 11) _ _ _ rfl Value.none (Value.str (Str.ofString "cpy313.operator") 367) (Value.ref 109)) ::
  (nat_lit 116, Obj.mk (Value.type "code") none (Data.fields #[Value.str (Str.ofString "getitem") 393, Value.str (Str.ofString "getitem") 394, Value.str (Str.ofString "/claim/cut.py") 395, Value.int 53 0, Value.int 2 0, Value.int 0 0, Value.int 0 0, Value.int 3 0, Value.ref 111, Value.bool true, Value.int 276 0, Value.ref 112, Value.none, Value.ref 113, Value.ref 114, Value.ref 115, Value.int 398 0, Value.int 53 0, Value.str (Str.ofString "/claim/cut.py") 399]) #[]) ::
  (nat_lit 117, fO "getitem" "getitem" (hTp 12) _ _ _ rfl Value.none (Value.str (Str.ofString "cpy313.operator") 367) (Value.ref 116)) ::
  (nat_lit 123, Obj.mk (Value.type "code") none (Data.fields #[Value.str (Str.ofString "setitem") 401, Value.str (Str.ofString "setitem") 402, Value.str (Str.ofString "/claim/cut.py") 403, Value.int 55 0, Value.int 3 0, Value.int 0 0, Value.int 0 0, Value.int 3 0, Value.ref 118, Value.bool true, Value.int 276 0, Value.ref 119, Value.none, Value.ref 120, Value.ref 121, Value.ref 122, Value.int 407 0, Value.int 55 0, Value.str (Str.ofString "/claim/cut.py") 408]) #[]) ::
  (nat_lit 124, fO "setitem" "setitem" (hTp 13) _ _ _ rfl Value.none (Value.str (Str.ofString "cpy313.operator") 367) (Value.ref 123)) ::
  (nat_lit 130, Obj.mk (Value.type "code") none (Data.fields #[Value.str (Str.ofString "_substitution_cost") 418, Value.str (Str.ofString "_substitution_cost") 419, Value.str (Str.ofString "/claim/cut.py") 420, Value.int 61 0, Value.int 2 0, Value.int 0 0, Value.int 0 0, Value.int 3 0, Value.ref 125, Value.bool true, Value.int 276 0, Value.ref 126, Value.none, Value.ref 127, Value.ref 128, Value.ref 129, Value.int 423 0, Value.int 61 0, Value.str (Str.ofString "/claim/cut.py") 424]) #[]) ::
  (nat_lit 131, fO "_substitution_cost" "_substitution_cost" (hTp 18) _ _ _ rfl Value.none (Value.str (Str.ofString "cpy313.traceback") 410) (Value.ref 130)) ::
  (nat_lit 137, Obj.mk (Value.type "code") none (Data.fields #[Value.str (Str.ofString "_levenshtein_distance") 426, Value.str (Str.ofString "_levenshtein_distance") 427, Value.str (Str.ofString "/claim/cut.py") 428, Value.int 67 0, Value.int 3 0, Value.int 0 0, Value.int 0 0, Value.int 3 0, Value.ref 132, Value.bool true, Value.int 276 0, Value.ref 133, Value.none, Value.ref 134, Value.ref 135, Value.ref 136, Value.int 443 0, Value.int 67 0, Value.str (Str.ofString "/claim/cut.py") 444]) #[]) ::
  (nat_lit 138, fO "_levenshtein_distance" "_levenshtein_distance" (hTp 19) _ _ _ rfl Value.none (Value.str (Str.ofString "cpy313.traceback") 410) (Value.ref 137)) ::
  (nat_lit 147, Obj.mk (Value.type "tuple") none (Data.seq #[Value.int 14 0, Value.int 10 0, Value.int 4 0, Value.int 1 0, Value.int 1 0, Value.int 22 0, Value.int 0 0, Value.int 31 0, Value.int 16 0, Value.int 127 0, Value.int 0 0, Value.int 13 0, Value.int 7 0, Value.int 22 0, Value.int 0 0, Value.int 31 0, Value.int 16 0, Value.int 127 0, Value.int 0 0, Value.int 1 0]) #[]) ::
  (nat_lit 148, Obj.mk (Value.type "re.Pattern") none (Data.fields #[Value.str (Str.ofString "[\\x00-\\x1F\\x7F]") 483, Value.int 32 506, Value.int 0 0, Value.none, Value.none, Value.ref 147, Value.int 0 0]) #[]) ::
  (nat_lit 152, Obj.mk (Value.type "tuple") none (Data.seq #[Value.int 14 0, Value.int 14 0, Value.int 4 0, Value.int 1 0, Value.int 1 0, Value.int 9 0, Value.int 4294966783 0, Value.int 0 0, Value.int 0 0, Value.int 2147483648 0, Value.int 0 0, Value.int 0 0, Value.int 0 0, Value.int 0 0, Value.int 0 0, Value.int 13 0, Value.int 11 0, Value.int 9 0, Value.int 4294966783 0, Value.int 0 0, Value.int 0 0, Value.int 2147483648 0, Value.int 0 0, Value.int 0 0, Value.int 0 0, Value.int 0 0, Value.int 0 0, Value.int 1 0]) #[]) ::
  (nat_lit 153, Obj.mk (Value.type "re.Pattern") none (Data.fields #[Value.str (Str.ofString "[\\x00-\\x08\\x0A-\\x1F\\x7F]") 509, Value.int 32 540, Value.int 0 0, Value.none, Value.none, Value.ref 152, Value.int 0 0]) #[]) ::
  (nat_lit 169, Obj.mk (Value.type "tuple") none (Data.seq #[Value.none]) #[]) ::
  (nat_lit 175, Obj.mk (Value.type "code") none (Data.fields #[Value.str (Str.ofString "__init__") 564, Value.str (Str.ofString "Headers.__init__") 565, Value.str (Str.ofString "/claim/cut.py") 566, Value.int 120 0, Value.int 2 0, Value.int 0 0, Value.int 0 0, Value.int 3 0, Value.ref 170, Value.bool true, Value.int 276 0, Value.ref 171, Value.none, Value.ref 172, Value.ref 173, Value.ref 174, Value.int 571 0, Value.int 120 0, Value.str (Str.ofString "/claim/cut.py") 572]) #[]) ::
  (nat_lit 176, fO "__init__" "Headers.__init__" (hMt 0) _ _ _ rfl (Value.ref 169) (Value.str (Str.ofString "cpy313.wsgiref.headers") 446) (Value.ref 175)) ::
  (nat_lit 182, Obj.mk (Value.type "code") none (Data.fields #[Value.str (Str.ofString "_convert_string_type") 574, Value.str (Str.ofString "Headers._convert_string_type") 575, Value.str (Str.ofString "/claim/cut.py") 576, Value.int 130 0, Value.int 2 0, Value.int 0 0, Value.int 1 0, Value.int 3 0, Value.ref 177, Value.bool true, Value.int 276 0, Value.ref 178, Value.none, Value.ref 179, Value.ref 180, Value.ref 181, Value.int 581 0, Value.int 130 0, Value.str (Str.ofString "/claim/cut.py") 582]) #[]) ::
  (nat_lit 183, fO "_convert_string_type" "Headers._convert_string_type" (hMt 1) _ _ _ rfl Value.none (Value.str (Str.ofString "cpy313.wsgiref.headers") 446) (Value.ref 182)) ::
  (nat_lit 196, Obj.mk (Value.type "code") none (Data.fields #[Value.str (Str.ofString "__setitem__") 591, Value.str (Str.ofString "Headers.__setitem__") 592, Value.str (Str.ofString "/claim/cut.py") 593, Value.int 141 0, Value.int 3 0, Value.int 0 0, Value.int 0 0, Value.int 3 0, Value.ref 191, Value.bool true, Value.int 276 0, Value.ref 192, Value.none, Value.ref 193, Value.ref 194, Value.ref 195, Value.int 597 0, Value.int 141 0, Value.str (Str.ofString "/claim/cut.py") 598]) #[]) ::
  (nat_lit 197, fO "__setitem__" "Headers.__setitem__" (hMt 3) _ _ _ rfl Value.none (Value.str (Str.ofString "cpy313.wsgiref.headers") 446) (Value.ref 196)) ::
  (nat_lit 201, Obj.mk (Value.type "code") none (Data.fields #[Value.str (Str.ofString "__delitem__") 600, Value.str (Str.ofString "Headers.__delitem__") 601, Value.str (Str.ofString "/claim/cut.py") 602, Value.int 145 0, Value.int 2 0, Value.int 0 0, Value.int 0 0, Value.int 3 0, Value.ref 198, Value.bool true, Value.int 276 0, Value.ref 199, Value.none, Value.none, Value.none, Value.ref 200, Value.int 603 0, Value.int 145 0, Value.str (Str.ofString "/claim/cut.py") 604]) #[]) ::
  (nat_lit 202, fO "__delitem__" "Headers.__delitem__" (hMt 4) _ _ _ rfl Value.none (Value.str (Str.ofString "cpy313.wsgiref.headers") 446) (Value.ref 201)) ::
  (nat_lit 208, Obj.mk (Value.type "code") none (Data.fields #[Value.str (Str.ofString "__getitem__") 606, Value.str (Str.ofString "Headers.__getitem__") 607, Value.str (Str.ofString "/claim/cut.py") 608, Value.int 149 0, Value.int 2 0, Value.int 0 0, Value.int 0 0, Value.int 3 0, Value.ref 203, Value.bool true, Value.int 276 0, Value.ref 204, Value.none, Value.ref 205, Value.ref 206, Value.ref 207, Value.int 611 0, Value.int 149 0, Value.str (Str.ofString "/claim/cut.py") 612]) #[]) ::
  (nat_lit 209, fO "__getitem__" "Headers.__getitem__" (hMt 5) _ _ _ rfl Value.none (Value.str (Str.ofString "cpy313.wsgiref.headers") 446) (Value.ref 208)) ::
  (nat_lit 220, Obj.mk (Value.type "code") none (Data.fields #[Value.str (Str.ofString "get_all") 622, Value.str (Str.ofString "Headers.get_all") 623, Value.str (Str.ofString "/claim/cut.py") 624, Value.int 155 0, Value.int 2 0, Value.int 0 0, Value.int 0 0, Value.int 3 0, Value.ref 217, Value.bool true, Value.int 276 0, Value.ref 218, Value.none, Value.none, Value.none, Value.ref 219, Value.int 625 0, Value.int 155 0, Value.str (Str.ofString "/claim/cut.py") 626]) #[]) ::
  (nat_lit 221, fO "get_all" "Headers.get_all" (hMt 7) _ _ _ rfl Value.none (Value.str (Str.ofString "cpy313.wsgiref.headers") 446) (Value.ref 220)) ::
  (nat_lit 222, Obj.mk (Value.type "tuple") none (Data.seq #[Value.none]) #[]) ::
  (nat_lit 228, Obj.mk (Value.type "code") none (Data.fields #[Value.str (Str.ofString "get") 628, Value.str (Str.ofString "Headers.get") 629, Value.str (Str.ofString "/claim/cut.py") 630, Value.int 159 0, Value.int 3 0, Value.int 0 0, Value.int 0 0, Value.int 3 0, Value.ref 223, Value.bool true, Value.int 276 0, Value.ref 224, Value.none, Value.ref 225, Value.ref 226, Value.ref 227, Value.int 636 0, Value.int 159 0, Value.str (Str.ofString "/claim/cut.py") 637]) #[]) ::
  (nat_lit 229, fO "get" "Headers.get" (hMt 8) _ _ _ rfl (Value.ref 222) (Value.str (Str.ofString "cpy313.wsgiref.headers") 446) (Value.ref 228)) ::
  (nat_lit 245, Obj.mk (Value.type "code") none (Data.fields #[Value.str (Str.ofString "items") 651, Value.str (Str.ofString "Headers.items") 652, Value.str (Str.ofString "/claim/cut.py") 653, Value.int 172 0, Value.int 1 0, Value.int 0 0, Value.int 0 0, Value.int 3 0, Value.ref 240, Value.bool true, Value.int 276 0, Value.ref 241, Value.none, Value.ref 242, Value.ref 243, Value.ref 244, Value.int 655 0, Value.int 172 0, Value.str (Str.ofString "/claim/cut.py") 656]) #[]) ::
  (nat_lit 246, fO "items" "Headers.items" (hMt 11) _ _ _ rfl Value.none (Value.str (Str.ofString "cpy313.wsgiref.headers") 446) (Value.ref 245)) ::
  (nat_lit 278, Obj.mk (Value.type "code") none (Data.fields #[Value.str (Str.ofString "add_header") 687, Value.str (Str.ofString "Headers.add_header") 688, Value.str (Str.ofString "/claim/cut.py") 689, Value.int 187 0, Value.int 3 0, Value.int 0 0, Value.int 0 0, Value.int 11 0, Value.ref 273, Value.bool true, Value.int 276 0, Value.ref 274, Value.none, Value.ref 275, Value.ref 276, Value.ref 277, Value.int 697 0, Value.int 187 0, Value.str (Str.ofString "/claim/cut.py") 698]) #[]) ::
  (nat_lit 279, fO "add_header" "Headers.add_header" (hMt 16) _ _ _ rfl Value.none (Value.str (Str.ofString "cpy313.wsgiref.headers") 446) (Value.ref 278)) ::
  (nat_lit 280, Obj.mk (Value.type "tuple") none (Data.seq #[Value.str (Str.ofString "_headers") 700]) #[]) ::
  (nat_lit 281, Obj.mk (Value.type "dict") none (Data.dict #[DictEntry.mk (PyData.keyHash P (Str.ofString "__module__")) (Value.str (Str.ofString "__module__") 559) (Value.str (Str.ofString "cpy313.wsgiref.headers") 446), DictEntry.mk (PyData.keyHash P (Str.ofString "__firstlineno__")) (Value.str (Str.ofString "__firstlineno__") 563) (Value.int 118 562), DictEntry.mk (PyData.keyHash P (Str.ofString "__init__")) (Value.str (Str.ofString "__init__") 573) (Value.ref 176), DictEntry.mk (PyData.keyHash P (Str.ofString "_convert_string_type")) (Value.str (Str.ofString "_convert_string_type") 583) (Value.ref 183), DictEntry.mk (PyData.keyHash P (Str.ofString "__len__")) (Value.str (Str.ofString "__len__") 590) (Value.ref 190), DictEntry.mk (PyData.keyHash P (Str.ofString "__setitem__")) (Value.str (Str.ofString "__setitem__") 599) (Value.ref 197), DictEntry.mk (PyData.keyHash P (Str.ofString "__delitem__")) (Value.str (Str.ofString "__delitem__") 605) (Value.ref 202), DictEntry.mk (PyData.keyHash P (Str.ofString "__getitem__")) (Value.str (Str.ofString "__getitem__") 613) (Value.ref 209), DictEntry.mk (PyData.keyHash P (Str.ofString "__contains__")) (Value.str (Str.ofString "__contains__") 621) (Value.ref 216), DictEntry.mk (PyData.keyHash P (Str.ofString "get_all")) (Value.str (Str.ofString "get_all") 627) (Value.ref 221), DictEntry.mk (PyData.keyHash P (Str.ofString "get")) (Value.str (Str.ofString "get") 638) (Value.ref 229), DictEntry.mk (PyData.keyHash P (Str.ofString "keys")) (Value.str (Str.ofString "keys") 644) (Value.ref 234), DictEntry.mk (PyData.keyHash P (Str.ofString "values")) (Value.str (Str.ofString "values") 650) (Value.ref 239), DictEntry.mk (PyData.keyHash P (Str.ofString "items")) (Value.str (Str.ofString "items") 657) (Value.ref 246), DictEntry.mk (PyData.keyHash P (Str.ofString "__repr__")) (Value.str (Str.ofString "__repr__") 664) (Value.ref 253), DictEntry.mk (PyData.keyHash P (Str.ofString "__str__")) (Value.str (Str.ofString "__str__") 670) (Value.ref 258), DictEntry.mk (PyData.keyHash P (Str.ofString "__bytes__")) (Value.str (Str.ofString "__bytes__") 677) (Value.ref 265), DictEntry.mk (PyData.keyHash P (Str.ofString "setdefault")) (Value.str (Str.ofString "setdefault") 686) (Value.ref 272), DictEntry.mk (PyData.keyHash P (Str.ofString "add_header")) (Value.str (Str.ofString "add_header") 699) (Value.ref 279), DictEntry.mk (PyData.keyHash P (Str.ofString "__static_attributes__")) (Value.str (Str.ofString "__static_attributes__") 701) (Value.ref 280), DictEntry.mk (PyData.keyHash P (Str.ofString "__dict__")) (Value.str (Str.ofString "__dict__") 703) (Value.ref 283), DictEntry.mk (PyData.keyHash P (Str.ofString "__weakref__")) (Value.str (Str.ofString "__weakref__") 705) (Value.ref 284), DictEntry.mk (PyData.keyHash P (Str.ofString "__doc__")) (Value.str (Str.ofString "__doc__") 706) Value.none] 4) #[]) ::
  (nat_lit 282, Obj.mk (Value.type "type") none (Data.cls (ClassData.mk (Str.ofString "Headers") [Value.type "object"] [Value.ref 282, Value.type "object"] 281 (Str.ofString "Headers") true [] [] false none false)) #[none, none, Option.some (Value.str (Str.ofString "Headers") 552), Option.some (Value.str (Str.ofString "Headers") 560), Option.some (Value.builtin "object.__new__"), Option.some (Value.bool true)]) ::
  (nat_lit 292, Obj.mk (Value.type "code") none (Data.fields #[Value.str (Str.ofString "_law_cells") 711, Value.str (Str.ofString "_law_cells") 712, Value.str (Str.ofString "/claim/cut.py") 713, Value.int 201 0, Value.int 1 0, Value.int 0 0, Value.int 0 0, Value.int 3 0, Value.ref 287, Value.bool true, Value.int 276 0, Value.ref 288, Value.none, Value.ref 289, Value.ref 290, Value.ref 291, Value.int 717 0, Value.int 201 0, Value.str (Str.ofString "/claim/cut.py") 718]) #[]) ::
  (nat_lit 293, fO "_law_cells" "_law_cells" (hTp 27) _ _ _ rfl Value.none (Value.str (Str.ofString "law_wo0075_01") 709) (Value.ref 292)) ::
  (nat_lit 299, Obj.mk (Value.type "code") none (Data.fields #[Value.str (Str.ofString "_law_words") 720, Value.str (Str.ofString "_law_words") 721, Value.str (Str.ofString "/claim/cut.py") 722, Value.int 206 0, Value.int 1 0, Value.int 0 0, Value.int 0 0, Value.int 3 0, Value.ref 294, Value.bool true, Value.int 276 0, Value.ref 295, Value.none, Value.ref 296, Value.ref 297, Value.ref 298, Value.int 729 0, Value.int 206 0, Value.str (Str.ofString "/claim/cut.py") 730]) #[]) ::
  (nat_lit 300, fO "_law_words" "_law_words" (hTp 28) _ _ _ rfl Value.none (Value.str (Str.ofString "law_wo0075_01") 709) (Value.ref 299)) ::
  (nat_lit 306, Obj.mk (Value.type "code") none (Data.fields #[Value.str (Str.ofString "_law_price") 732, Value.str (Str.ofString "_law_price") 733, Value.str (Str.ofString "/claim/cut.py") 734, Value.int 217 0, Value.int 2 0, Value.int 0 0, Value.int 0 0, Value.int 3 0, Value.ref 301, Value.bool true, Value.int 276 0, Value.ref 302, Value.none, Value.ref 303, Value.ref 304, Value.ref 305, Value.int 741 0, Value.int 217 0, Value.str (Str.ofString "/claim/cut.py") 742]) #[]) ::
  (nat_lit 307, fO "_law_price" "_law_price" (hTp 29) _ _ _ rfl Value.none (Value.str (Str.ofString "law_wo0075_01") 709) (Value.ref 306)) ::
  (nat_lit 311, Obj.mk (Value.type "code") none (Data.fields #[Value.str (Str.ofString "_law_far") 744, Value.str (Str.ofString "_law_far") 745, Value.str (Str.ofString "/claim/cut.py") 746, Value.int 224 0, Value.int 1 0, Value.int 0 0, Value.int 0 0, Value.int 3 0, Value.ref 308, Value.bool true, Value.int 276 0, Value.ref 309, Value.none, Value.none, Value.none, Value.ref 310, Value.int 747 0, Value.int 224 0, Value.str (Str.ofString "/claim/cut.py") 748]) #[]) ::
  (nat_lit 312, fO "_law_far" "_law_far" (hTp 30) _ _ _ rfl Value.none (Value.str (Str.ofString "law_wo0075_01") 709) (Value.ref 311)) ::
  (nat_lit 318, Obj.mk (Value.type "code") none (Data.fields #[Value.str (Str.ofString "_law_reply") 750, Value.str (Str.ofString "_law_reply") 751, Value.str (Str.ofString "/claim/cut.py") 752, Value.int 233 0, Value.int 3 0, Value.int 0 0, Value.int 0 0, Value.int 3 0, Value.ref 313, Value.bool true, Value.int 276 0, Value.ref 314, Value.none, Value.ref 315, Value.ref 316, Value.ref 317, Value.int 756 0, Value.int 233 0, Value.str (Str.ofString "/claim/cut.py") 757]) #[]) ::
  (nat_lit 319, fO "_law_reply" "_law_reply" (hTp 31) _ _ _ rfl Value.none (Value.str (Str.ofString "law_wo0075_01") 709) (Value.ref 318)) ::
  (nat_lit 325, Obj.mk (Value.type "code") none (Data.fields #[Value.str (Str.ofString "_law_round") 759, Value.str (Str.ofString "_law_round") 760, Value.str (Str.ofString "/claim/cut.py") 761, Value.int 235 0, Value.int 7 0, Value.int 0 0, Value.int 0 0, Value.int 3 0, Value.ref 320, Value.bool true, Value.int 276 0, Value.ref 321, Value.none, Value.ref 322, Value.ref 323, Value.ref 324, Value.int 778 0, Value.int 235 0, Value.str (Str.ofString "/claim/cut.py") 779]) #[]) ::
  (nat_lit 326, fO "_law_round" "_law_round" (hTp 32) _ _ _ rfl Value.none (Value.str (Str.ofString "law_wo0075_01") 709) (Value.ref 325)) ::
  (nat_lit 330, Obj.mk (Value.type "code") none (Data.fields #[Value.str (Str.ofString "_law_least") 781, Value.str (Str.ofString "_law_least") 782, Value.str (Str.ofString "/claim/cut.py") 783, Value.int 252 0, Value.int 2 0, Value.int 0 0, Value.int 0 0, Value.int 3 0, Value.ref 327, Value.bool true, Value.int 276 0, Value.ref 328, Value.none, Value.none, Value.none, Value.ref 329, Value.int 784 0, Value.int 252 0, Value.str (Str.ofString "/claim/cut.py") 785]) #[]) ::
  (nat_lit 331, fO "_law_least" "_law_least" (hTp 33) _ _ _ rfl Value.none (Value.str (Str.ofString "law_wo0075_01") 709) (Value.ref 330)) ::
  (nat_lit 335, Obj.mk (Value.type "code") none (Data.fields #[Value.str (Str.ofString "_law_rest") 787, Value.str (Str.ofString "_law_rest") 788, Value.str (Str.ofString "/claim/cut.py") 789, Value.int 261 0, Value.int 4 0, Value.int 0 0, Value.int 0 0, Value.int 3 0, Value.ref 332, Value.bool true, Value.int 276 0, Value.ref 333, Value.none, Value.none, Value.none, Value.ref 334, Value.int 790 0, Value.int 261 0, Value.str (Str.ofString "/claim/cut.py") 791]) #[]) ::
  (nat_lit 336, fO "_law_rest" "_law_rest" (hTp 34) _ _ _ rfl Value.none (Value.str (Str.ofString "law_wo0075_01") 709) (Value.ref 335)) ::
  (nat_lit 340, Obj.mk (Value.type "code") none (Data.fields #[Value.str (Str.ofString "_law_refused") 793, Value.str (Str.ofString "_law_refused") 794, Value.str (Str.ofString "/claim/cut.py") 795, Value.int 277 0, Value.int 1 0, Value.int 0 0, Value.int 0 0, Value.int 3 0, Value.ref 337, Value.bool true, Value.int 276 0, Value.ref 338, Value.none, Value.none, Value.none, Value.ref 339, Value.int 796 0, Value.int 277 0, Value.str (Str.ofString "/claim/cut.py") 797]) #[]) ::
  (nat_lit 341, fO "_law_refused" "_law_refused" (hTp 35) _ _ _ rfl Value.none (Value.str (Str.ofString "law_wo0075_01") 709) (Value.ref 340)) ::
  (nat_lit 345, Obj.mk (Value.type "code") none (Data.fields #[Value.str (Str.ofString "law") 799, Value.str (Str.ofString "law") 800, Value.str (Str.ofString "/claim/cut.py") 801, Value.int 294 0, Value.int 1 0, Value.int 0 0, Value.int 0 0, Value.int 3 0, Value.ref 342, Value.bool true, Value.int 276 0, Value.ref 343, Value.none, Value.none, Value.none, Value.ref 344, Value.int 802 0, Value.int 294 0, Value.str (Str.ofString "/claim/cut.py") 803]) #[]) ::
  (nat_lit 346, fO "law" "law" (hTp 36) _ _ _ rfl Value.none (Value.str (Str.ofString "law_wo0075_01") 709) (Value.ref 345)) :: []
noncomputable abbrev LS : List PySem.Str := [Str.ofString "tspecials", Str.ofString "_name_disallowed_re", Str.ofString "_value_disallowed_re", Str.ofString "_formatparam"]
noncomputable abbrev AS : List Addr := [2, 3, 39, 46, 47, 48, 52, 59, 60, 61, 64, 71, 72, 73, 81, 82, 88, 89, 95, 96, 102, 103, 109, 110, 116, 117, 123, 124, 130, 131, 137, 138, 147, 148, 152, 153, 169, 175, 176, 182, 183, 196, 197, 201, 202, 208, 209, 220, 221, 222, 228, 229, 245, 246, 278, 279, 280, 281, 282, 292, 293, 299, 300, 306, 307, 311, 312, 318, 319, 325, 326, 330, 331, 335, 336, 340, 341, 345, 346]
theorem asOk : ∀ P, AS = (hd.heap_39 P).map (·.1) := fun _ => by kernel_rfl
end
section
open PySem PySem.W PyProof.Rows PySem.Calls
abbrev rr := PySem.Challenge.rw_wo0075_01
noncomputable abbrev Xt0 (s : Shared) : Bool := xlAt hd.view_39 [] s && recOk (RowW.records rr.row.toRowW) s
theorem lft : ∀ w : World, (R1 PySem.W.Fast.tw14364793385576792824 rr.row.prog w 4726).map (fun s => (PySem.W.Fast.tw4187177175401517315 hd.view_39 LS (importedModules rr.row.prog.main.body) Xt0 true s, (kHook hd.heap_39 AS asOk).obs s)) = some (openGood hd.view_39 LS, (kHook hd.heap_39 AS asOk).val w) := fun w => by
  kernel_rfl
theorem lfO : LeftO rr.row.prog hd.view_39 LS Xt0 (kHook hd.heap_39 AS asOk).obs (kHook hd.heap_39 AS asOk).val 4726 := fun w => by
  obtain ⟨s, h, e⟩ := Option.map_eq_some_iff.mp (lft w)
  rw [PySem.W.Fast.te14364793385576792824, r1_of h]
  rw [← PySem.W.Fast.te4187177175401517315] at e
  exact congrArg some e
theorem saidT : PySem.W.Fast.tw9446332074065402090 rr = true := by
  delta PySem.W.Fast.tw9446332074065402090 PySem.W.Fast.tw17960256430627541270 PySem.W.Fast.tw2436336058641802641 PySem.W.Fast.tw12908688711261696721
  repeat' (with_reducible refine Bool.and_eq_true_iff.mpr ⟨?_, ?_⟩)
  all_goals decide +kernel
theorem said : rr.wellSaid = true := (congrFun PySem.W.Fast.te9446332074065402090 rr).trans saidT
end
section
open PySem PySem.W PyProof.Rows PySem.Calls
theorem pm0 : rr.row.toRowW.promised := by w_witness2
theorem hd {a : Arguments} {b : List Stmt} {s : Scope} {p : Pos} (hq : partsD (hTp 36) = (a, b, s, p)) (hc : WalkO hd.view_39 LS (XL hd.view_39 []) (kHook hd.heap_39 AS asOk).says rr.row.toRowW ⟨Str.ofString "law", a, b, s, p⟩ [] fun f vs => PySem.call f vs) : rr.Holds := by
  have e1 : defOf hd.view_39 rr.row.name = some (⟨Str.ofString "law", (partsD (hTp 36)).1, (partsD (hTp 36)).2.1, (partsD (hTp 36)).2.2.1, (partsD (hTp 36)).2.2.2⟩, []) := by kernel_rfl
  have e2 : rr.row.prog.theDef rr.row.name = some ((partsD (hTp 36)).1, (partsD (hTp 36)).2.1, (partsD (hTp 36)).2.2.1) := by kernel_rfl
  have e3 : kwWritten? (partsD (hTp 36)).1.kwonlyargs (partsD (hTp 36)).1.kw_defaults = some [] := by kernel_rfl
  have e4 : (chainsOk hd.view_39 && opensWell rr.row.prog && (frees rr.row.toRowW && rr.row.within.isEmpty)) = true := by kernel_rfl
  rw [hq] at e1 e2 e3
  exact ⟨said, holds_open lfO (Hook.of (kHook hd.heap_39 AS asOk)) (Hook.keeps _) (fun s e => xl_of s (Bool.and_eq_true_iff.mp e).1) XL.keeps e1 e2 e3 (fun s e => recFacts_of (Bool.and_eq_true_iff.mp e).2) (by kernel_rfl) (row_said said) e4 ⟨rfl, rfl, rfl, rfl, rfl, by decide +kernel⟩ pm0 hc⟩
end
section
open PySem PySem.W PyProof.Rows PySem.Calls PySem.Spec
abbrev LLed := List (Addr × Obj)
inductive Ex1 {α1 : Type} (P : α1 → Prop) : Prop
  | mk (a1 : α1) (h : P a1)
inductive Ex2 {α1 α2 : Type} (P : α1 → α2 → Prop) : Prop
  | mk (a1 : α1) (a2 : α2) (h : P a1 a2)
inductive Ex3 {α1 α2 α3 : Type} (P : α1 → α2 → α3 → Prop) : Prop
  | mk (a1 : α1) (a2 : α2) (a3 : α3) (h : P a1 a2 a3)
inductive Ex4 {α1 α2 α3 α4 : Type} (P : α1 → α2 → α3 → α4 → Prop) : Prop
  | mk (a1 : α1) (a2 : α2) (a3 : α3) (a4 : α4) (h : P a1 a2 a3 a4)
inductive Ex5 {α1 α2 α3 α4 α5 : Type} (P : α1 → α2 → α3 → α4 → α5 → Prop) : Prop
  | mk (a1 : α1) (a2 : α2) (a3 : α3) (a4 : α4) (a5 : α5) (h : P a1 a2 a3 a4 a5)
inductive Ex7 {α1 α2 α3 α4 α5 α6 α7 : Type} (P : α1 → α2 → α3 → α4 → α5 → α6 → α7 → Prop) : Prop
  | mk (a1 : α1) (a2 : α2) (a3 : α3) (a4 : α4) (a5 : α5) (a6 : α6) (a7 : α7) (h : P a1 a2 a3 a4 a5 a6 a7)
inductive Ex8 {α1 α2 α3 α4 α5 α6 α7 α8 : Type} (P : α1 → α2 → α3 → α4 → α5 → α6 → α7 → α8 → Prop) : Prop
  | mk (a1 : α1) (a2 : α2) (a3 : α3) (a4 : α4) (a5 : α5) (a6 : α6) (a7 : α7) (a8 : α8) (h : P a1 a2 a3 a4 a5 a6 a7 a8)
inductive Ex9 {α1 α2 α3 α4 α5 α6 α7 α8 α9 : Type} (P : α1 → α2 → α3 → α4 → α5 → α6 → α7 → α8 → α9 → Prop) : Prop
  | mk (a1 : α1) (a2 : α2) (a3 : α3) (a4 : α4) (a5 : α5) (a6 : α6) (a7 : α7) (a8 : α8) (a9 : α9) (h : P a1 a2 a3 a4 a5 a6 a7 a8 a9)
inductive An2 (p1 p2 : Prop) : Prop
  | mk (h1 : p1) (h2 : p2)
inductive An3 (p1 p2 p3 : Prop) : Prop
  | mk (h1 : p1) (h2 : p2) (h3 : p3)
inductive An4 (p1 p2 p3 p4 : Prop) : Prop
  | mk (h1 : p1) (h2 : p2) (h3 : p3) (h4 : p4)
inductive An5 (p1 p2 p3 p4 p5 : Prop) : Prop
  | mk (h1 : p1) (h2 : p2) (h3 : p3) (h4 : p4) (h5 : p5)
inductive An6 (p1 p2 p3 p4 p5 p6 : Prop) : Prop
  | mk (h1 : p1) (h2 : p2) (h3 : p3) (h4 : p4) (h5 : p5) (h6 : p6)
inductive An7 (p1 p2 p3 p4 p5 p6 p7 : Prop) : Prop
  | mk (h1 : p1) (h2 : p2) (h3 : p3) (h4 : p4) (h5 : p5) (h6 : p6) (h7 : p7)
inductive An8 (p1 p2 p3 p4 p5 p6 p7 p8 : Prop) : Prop
  | mk (h1 : p1) (h2 : p2) (h3 : p3) (h4 : p4) (h5 : p5) (h6 : p6) (h7 : p7) (h8 : p8)
inductive An9 (p1 p2 p3 p4 p5 p6 p7 p8 p9 : Prop) : Prop
  | mk (h1 : p1) (h2 : p2) (h3 : p3) (h4 : p4) (h5 : p5) (h6 : p6) (h7 : p7) (h8 : p8) (h9 : p9)
inductive An10 (p1 p2 p3 p4 p5 p6 p7 p8 p9 p10 : Prop) : Prop
  | mk (h1 : p1) (h2 : p2) (h3 : p3) (h4 : p4) (h5 : p5) (h6 : p6) (h7 : p7) (h8 : p8) (h9 : p9) (h10 : p10)
inductive An12 (p1 p2 p3 p4 p5 p6 p7 p8 p9 p10 p11 p12 : Prop) : Prop
  | mk (h1 : p1) (h2 : p2) (h3 : p3) (h4 : p4) (h5 : p5) (h6 : p6) (h7 : p7) (h8 : p8) (h9 : p9) (h10 : p10) (h11 : p11) (h12 : p12)
def Kept (P : Prop) : Prop := P
inductive TEnd (h₀ : Heap) (L I : Addr) (oI : Obj) (s s' : Shared) (J : (PySem.Str → Option Value) → LLed → Prop) : Prop
  | mk (h' : Heap) (tk' : Nat) (m' : PySem.Str → Option Value) (news' : LLed) (e : s' = { s with heap := h', toks := tk' }) (F : Fr h₀ L h' m') (N : News h₀ L h' ((I, oI) :: news')) (k : Kept (J m' news'))
inductive DEnd (h₀ : Heap) (L : Addr) (s s' : Shared) (J : (PySem.Str → Option Value) → LLed → Prop) : Prop
  | mk (h' : Heap) (tk' : Nat) (m' : PySem.Str → Option Value) (news' : LLed) (e : s' = { s with heap := h', toks := tk' }) (F : Fr h₀ L h' m') (N : News h₀ L h' news') (k : Kept (J m' news'))
inductive WEnd (h₀ : Heap) (L : Addr) (s s' : Shared) (n : Nat) (J : Nat → (PySem.Str → Option Value) → LLed → Prop) : Prop
  | mk (h' : Heap) (tk' : Nat) (m' : PySem.Str → Option Value) (news' : LLed) (n' : Nat) (e : s' = { s with heap := h', toks := tk' }) (F : Fr h₀ L h' m') (N : News h₀ L h' news') (lt : n' < n) (k : Kept (J n' m' news'))
inductive CEnd (h₀ : Heap) (L : Addr) (m : PySem.Str → Option Value) (nw : LLed) (s s' : Shared) (J : Prop) : Prop
  | mk (h' : Heap) (tk' : Nat) (e : s' = { s with heap := h', toks := tk' }) (F : Fr h₀ L h' m) (N : News h₀ L h' nw) (k : J)
inductive GEnd (L I : Addr) (oI : Obj) (s s' : Shared) (B X T D : Heap → Prop) (J : (PySem.Str → Option Value) → LLed → Prop) : Prop
  | mk (h' : Heap) (tk' : Nat) (m' : PySem.Str → Option Value) (news' : LLed) (g' : Heap) (e : s' = { s with heap := h', toks := tk' }) (F : Fr g' L h' m') (N : News g' L h' ((I, oI) :: news')) (b : B g') (x : X g') (t : T g') (d : D g') (k : Kept (J m' news'))
inductive UEnd (h₀ : Heap) (L I C D : Addr) (m : PySem.Str → Option Value) (oI oC oD : Obj) (s s' : Shared) (J : LLed → Prop) : Prop
  | mk (h' : Heap) (tk' : Nat) (news' : LLed) (e : s' = { s with heap := h', toks := tk' }) (F : Fr h₀ L h' m) (N : News h₀ L h' ((I, oI) :: (C, oC) :: (D, oD) :: news')) (o : LCg.Off3 I C D news') (k : Kept (J news'))
noncomputable def at3 {α : Type} (a b c : α) (k : Int) : α := if k = 0 then a else if k = 1 then b else c
theorem all_cons {x : Addr × Obj} {l : LLed} {P : Addr × Obj → Prop} (h : P x) (t : ∀ p ∈ l, P p) : ∀ p ∈ x :: l, P p := List.forall_mem_cons.mpr ⟨h, t⟩
theorem dm0 {d a c : Nat} (h : d + a < c) : d < c := Nat.lt_of_le_of_lt (Nat.le_add_right d a) h
theorem dm1 {d a b c : Nat} (h : d + a < c) (e : Nat.ble (b + 1) a = true) : d + 1 + b < c := by
  have := Nat.le_of_ble_eq_true e
  omega
theorem um1 {u a b c : Nat} (h : u + 8 * a < c) (e : Nat.ble (b + 1) a = true) : u + 3 + 8 * b < c := by
  have := Nat.le_of_ble_eq_true e
  omega
theorem or3 {k : Int} (h0 : 0 ≤ k) (h1 : k < 3) : k = 0 ∨ k = 1 ∨ k = 2 := by omega
theorem or3n {i : Nat} (h : i < 3) : i = 0 ∨ i = 1 ∨ i = 2 := by omega
theorem or6n {i : Nat} (h : i < 6) : i = 0 ∨ i = 1 ∨ i = 2 ∨ i = 3 ∨ i = 4 ∨ i = 5 := by omega
theorem kk0 {k : Int} {i : Nat} (h : k = 0 + (i : Int)) : 0 ≤ k := by omega
theorem kk1 {k : Int} {i n : Nat} (h : k = 0 + (i : Int)) (hi : i < n) : k < (n : Int) := by omega
theorem ixl {k c : Int} {n m : Nat} (h : n = m) (h2 : k < c) (e : c ≤ (m : Int)) : k < (n : Int) := by omega
theorem tnl {k : Int} {n : Nat} (h0 : 0 ≤ k) (h1 : k < (n : Int)) : k.toNat < n := by omega
theorem i30 {k : Int} (h : 0 ≤ k) : 0 ≤ 3 + k := by omega
theorem i36 {k : Int} (h : k < 3) : 3 + k < 6 := by omega
theorem i3n {k : Int} {n : Nat} (h : k < 3) (e : n = 6) : 3 + k < (n : Int) := by omega
theorem i3b {k : Int} (h : k < 3) : 3 + k < 2 ^ 63 := by omega
theorem k63 {k : Int} (h : k < 3) : k < 2 ^ 63 := by omega
theorem kn3 {k : Int} (h : 0 ≤ k) : -((3 : Nat) : Int) ≤ k := by omega
theorem k3n {k : Int} {n : Nat} (h : k < 3) (e : n = 3) : k < (n : Int) := by omega
theorem t3n {k : Int} {n : Nat} (h0 : 0 ≤ k) (h : k < 3) (e : n = 3) : k.toNat < n := by omega
theorem sle {n a b c : Nat} (e : n = a - b) (h : a ≤ c) : n ≤ c := e ▸ Nat.le_trans (Nat.sub_le a b) h
theorem klt {n a k : Nat} (e : n = a - k) (h : (n : Int) ≠ 0) : k < a := by omega
theorem kdec {a k : Nat} (h : k < a) : a - (k + 1) < a - k := by omega
theorem l63 {n : Nat} (h : n ≤ 30) : (n : Int) < 9223372036854775808 := by omega
theorem nl63 {n : Nat} (h : n ≤ 30) : ¬ (2 : Int) ^ 63 ≤ (n : Int) := by omega
theorem nl40 {n : Nat} (h : n ≤ 30) : ¬ (40 : Int) < (n : Int) := by omega
theorem l24 {n : Nat} (h : n ≤ 30) : n ≤ 16777216 := Nat.le_trans h (by decide)
theorem kn1 {k a : Nat} (h : k < a) : -(a : Int) ≤ -(k : Int) - 1 := by omega
theorem kn2 {k a : Nat} (h : k ≤ a) (ha : a ≤ 30) : -9223372036854775808 < -(k : Int) - 1 := by omega
theorem kle {n a k : Nat} (e : n = a - k) (h : (n : Int) = 0) : a ≤ k := by omega
theorem c63 {i n : Nat} (h : i ≤ n) (hn : n ≤ 30) : (i : Int) < 9223372036854775808 := by omega
theorem ncl {i : Nat} {c : Int} (e : c ≤ 0) : c ≤ (i : Int) := by omega
theorem ik_lt {i k n : Nat} (h : i + (k + 1) = n) : i < n := h ▸ Nat.lt_add_of_pos_right (Nat.succ_pos k)
theorem ik_s {i k n : Nat} (h : i + (k + 1) = n) : i + 1 + k = n := by rw [← h, Nat.add_assoc, Nat.add_comm 1 k]
theorem storeF {M : Model} {A : Around} {E : Value → Shared → Prop} {s : Shared} {h₀ : Heap} {L a : Addr} {m : PySem.Str → Option Value} {cn : PySem.Str} {cs : Scope} {ccd : Value} {cl : List (PySem.Str × Addr)} {x : PySem.Str} {v : Value} {Q : Unit → Shared → Prop} {news : LLed} (F : Fr h₀ L s.heap m) (N : News h₀ L s.heap news)
    (h : let m1 := fun y => if y = x then some v else m y; ∀ h', Fr h₀ L h' m1 → News h₀ L h' news → Q () { s with heap := h', toks := s.toks + 1 })
    (hk : cs.kind = .function) (hx : (envX cn cs L a ccd cl).kindOf x = some .local) : wpAny M A (storeName (envX cn cs L a ccd cl) x v) Q E s := storeX_L F N h hk hx
abbrev JT6 := (PySem.Str → Option Value) → LLed → Addr → Nat → (PySem.Str → Option Value) → LLed → Prop
abbrev JTc := LLed → Nat → List Value → LLed → Prop
abbrev JTw := (PySem.Str → Option Value) → LLed → Nat → (PySem.Str → Option Value) → LLed → Prop
abbrev JTd := (PySem.Str → Option Value) → LLed → (PySem.Str → Option Value) → LLed → Prop
theorem sub_cons {x : Addr × Obj} {l L : LLed} (h : x ∈ L) (t : ∀ p ∈ l, p ∈ L) : ∀ p ∈ x :: l, p ∈ L := List.forall_mem_cons.mpr ⟨h, t⟩
theorem sub_tail {x : Addr × Obj} {l L : LLed} (t : ∀ p ∈ l, p ∈ L) : ∀ p ∈ l, p ∈ x :: L := fun p hp => .tail _ (t p hp)
theorem nex_cons {a : Addr × Obj} {x : Addr} {l : LLed} (h : a.1 ≠ x) (t : ∀ p ∈ l, p.1 ≠ x) : ∀ p ∈ a :: l, p.1 ≠ x := List.forall_mem_cons.mpr ⟨h, t⟩
theorem len_cons {α : Type} {l : List α} {n : Nat} (h : l.length = n + 1) : Ex2 fun (a : α) (r : List α) => An2 (l = a :: r) (r.length = n) := by
  cases l with
  | nil => cases h
  | cons a r => exact ⟨a, r, rfl, Nat.succ.inj h⟩
theorem list_three {α : Type} {l : List α} (h : l.length = 3) : Ex3 fun a b c : α => l = [a, b, c] := by
  obtain ⟨a, r1, e1, h1⟩ := len_cons h
  obtain ⟨b, r2, e2, h2⟩ := len_cons h1
  obtain ⟨c, r3, e3, h3⟩ := len_cons h2
  exact ⟨a, b, c, by rw [e1, e2, e3, List.eq_nil_of_length_eq_zero h3]⟩
theorem list_six {α : Type} {l : List α} (h : l.length = 6) : ∃ a b c d e f : α, l = [a, b, c, d, e, f] := by
  obtain ⟨a, r1, e1, h1⟩ := len_cons h
  obtain ⟨b, r2, e2, h2⟩ := len_cons h1
  obtain ⟨c, r3, e3, h3⟩ := len_cons h2
  obtain ⟨d, e, f, e4⟩ := list_three h3
  exact ⟨a, b, c, d, e, f, by rw [e1, e2, e3, e4]⟩
theorem foldE {M : Model} {A : Around} {e : Env} {b : List Stmt} {Q : Flow → Shared → Prop} {E : Value → Shared → Prop} {s : Shared}
    (h : let e1 := e; let A1 := A.deeper e1; wpAny M A1 (execs b e1) Q E s) : wpAny M (A.deeper e) (execs b e) Q E s := h
theorem foldQS {α : Type} {M : Model} {A : Around} {c : Sem α} {Q : α → Shared → Prop} {E : Value → Shared → Prop} {s : Shared} (h : let q := Q; let s1 := s; wpAny M A c q E s1) : wpAny M A c Q E s := h
theorem letF {g : Heap} {L : Addr} {h : Heap} {m : PySem.Str → Option Value} {G : Prop} (F : Fr g L h m) (k : let m1 := m; Fr g L h m1 → G) : G := k F
theorem foldG {P : Prop} (h : let G1 := P; G1) : P := h
def Ctr (w : World) (f : Addr) (vs : List Value) (kw : List (PySem.Str × Value)) (dep : Nat) (news : LLed)
    (R : (Heap → LLed → Prop) → (Value → Heap → Nat → Prop) → Prop) : Prop :=
  ∀ (loose : List PySem.Str) (mean : ExcName → Option Value) (mg mb : PySem.Str → Option Value) (dp un : Nat) (gd : Option (List Code)) (cn : PySem.Str) (cs : Scope) (a : Addr) (ccd : Value) (cl : List (PySem.Str × Addr)) (outer : List Env)
    (A₀ : Around) (base h₀ : Heap) (L : Addr) (m : PySem.Str → Option Value) (s : Shared) (Q E : Value → Shared → Prop),
    Below A₀ base outer h₀ → Fr h₀ L s.heap m → (hd.heap_39 w.params).In h₀ → News h₀ L s.heap news → Top hd.view_39 loose mean mg mb h₀ → cs.kind = .function →
    dp + dep < recursionLimit → un + 8 * dep < cLine →
    R (fun h' news' => Fr h₀ L h' m ∧ News h₀ L h' news') (fun v h' tk' => Q v { s with heap := h', toks := tk' }) →
    wpAny (model P0 w) (ktrTop dp un gd cn cs L a ccd cl outer) (call (.ref f) vs kw) Q E s
theorem Ctr.use {w : World} {f : Addr} {vs : List Value} {kw : List (PySem.Str × Value)} {dep : Nat} {news : LLed} {R : (Heap → LLed → Prop) → (Value → Heap → Nat → Prop) → Prop} (C : Ctr w f vs kw dep news R)
    {loose : List PySem.Str} {mean : ExcName → Option Value} {mg mb : PySem.Str → Option Value} {dp un : Nat} {gd : Option (List Code)} {cn : PySem.Str} {cs : Scope} {a : Addr} {ccd : Value} {cl : List (PySem.Str × Addr)} {outer : List Env}
    {A₀ : Around} {base h₀ : Heap} {L : Addr} {m : PySem.Str → Option Value} {s : Shared} {Q E : Value → Shared → Prop}
    (B : Below A₀ base outer h₀) (F : Fr h₀ L s.heap m) (X : (hd.heap_39 w.params).In h₀) (N : News h₀ L s.heap news) (T : Top hd.view_39 loose mean mg mb h₀) (hk : cs.kind = .function)
    (hd : dp + dep < recursionLimit) (hu : un + 8 * dep < cLine)
    (h : R (fun h' news' => Fr h₀ L h' m ∧ News h₀ L h' news') (fun v h' tk' => Q v { s with heap := h', toks := tk' })) :
    wpAny (model P0 w) (ktrTop dp un gd cn cs L a ccd cl outer) (call (.ref f) vs kw) Q E s := C _ _ _ _ _ _ _ _ _ _ _ _ _ _ _ _ _ _ _ _ _ B F X N T hk hd hu h
def replyS (m wd : PySem.Str) (p : Int) : PySem.Str :=
  PySem.Str.ofString "229 (" ++ m ++ PySem.Str.ofString "1" ++ m ++ wd ++ m ++ PySem.Str.ofString (toString p) ++ m ++ PySem.Str.ofString ")"
theorem reply_c (w : World) (news : LLed) (m wd : PySem.Str) (p : Int) (t1 t2 t3 : Tok) (hm : m.length ≤ 1) (hw : wd.length ≤ 3) (h0 : 0 ≤ p) (h1 : p < 1000) :
    Ctr w 319 [.str m t1, .str wd t2, .int p t3] [] 1 news fun N Q => ∀ t h' tk', N h' news → Q (.str (replyS m wd p) t) h' tk' := by
  unfold Ctr
  have hdummy : PySem.Challenge.rw_wo0075_01 = PySem.Challenge.rw_wo0075_01 ∧ hd.heap_39 w.params = hd.heap_39 w.params := by k_fill; exact ⟨rfl, rfl⟩
  clear hdummy
  intros
  rename_i hret
  refine wpAny_call ?_
  k_dflt cell_enter
  k_steps
  exact hret _ _ _ ⟨by k_asm, by k_asm⟩
end
open PySem PySem.W PyProof.Rows PySem.Calls PySem.Spec
local macro_rules | `(tactic| k_mem) => `(tactic| (k_dflt assumption))
local macro_rules | `(tactic| k_all) => `(tactic| assumption)
local macro_rules | `(tactic| k_in) => `(tactic| (first | with_reducible assumption | exact Frag.In.keeps (by k_asm) (Fr.keep (by k_asm))))
local macro_rules | `(tactic| kaf_pre) => `(tactic| first | with_reducible assumption | (refine' And.left ?_; (iterate 14 (try (first | (with_reducible assumption) | refine' And.right ?_))); done))
local macro_rules | `(tactic| k_ne) => `(tactic| (refine neN ?_; (try dsimp only); first | kaf_pre | (refine' Ne.symm ?_; kaf_pre) | (refine' Nat.ne_of_lt ?_; kaf_pre) | (refine' Nat.ne_of_gt ?_; kaf_pre) | omega))
local macro_rules | `(tactic| k_room) => `(tactic| ((try dsimp +zetaDelta only); (try simp only [depth_mark, depth_under_make, depth_under_kw, depth_in1, depth_deeper]); (try dsimp only [ktrTop]); first | exact dm0 (by with_reducible assumption) | omega))
local macro_rules | `(tactic| walk_at "my_use") => `(tactic| ((case k1 => k_asm); (case k2 => k_asm); (case k3 => k_asm); (case k4 => k_asm); (case k5 => k_asm); (case kK => first | exact rfl | assumption); (case kd => ((try dsimp +zetaDelta only); first | exact dm1 (by with_reducible assumption) rfl | ktr_room)); (case ku => ((try dsimp +zetaDelta only); first | exact um1 (by with_reducible assumption) rfl | ktr_units))))
local macro_rules | `(tactic| walk_at "TEnd") => `(tactic| (refine ⟨_, _, _, _, rfl, by k_asm, by k_asm, ?_⟩))
set_option hygiene false in
local macro_rules | `(tactic| walk_at "fq") => `(tactic| (first | (fail_if_success k_fold) | (refine foldQS ?_; intro qk ek)))
set_option hygiene false in
local macro_rules | `(tactic| walk_at "fg") => `(tactic| (refine foldG ?_; intro zG))
set_option hygiene false in
local macro_rules | `(tactic| walk_at "ug") => `(tactic| (show zG; k_unfold))
local macro_rules | `(tactic| walk_at "SE") => `(tactic| ((fail_if_success (with_reducible show Exists _)); (fail_if_success (with_reducible show Ex4 _)); (fail_if_success (with_reducible show Ex5 _)); (fail_if_success (with_reducible show TEnd _ _ _ _ _ _ _)); (fail_if_success (with_reducible show DEnd _ _ _ _ _)); (fail_if_success (with_reducible show WEnd _ _ _ _ _ _)); (fail_if_success (with_reducible show UEnd _ _ _ _ _ _ _ _ _ _ _ _)); (fail_if_success (with_reducible show CEnd _ _ _ _ _ _ _)); (fail_if_success (with_reducible show GEnd _ _ _ _ _ _ _ _ _ _))))
local macro_rules | `(tactic| walk_at "S0") => `(tactic| ((fail_if_success (with_reducible show wpAny _ _ (exec (Stmt.For _ _ _ _ _) _) _ _ _)); (fail_if_success (with_reducible show wpAny _ _ (exec (Stmt.While _ _ _ _) _) _ _ _)); (fail_if_success (with_reducible show wpAny _ _ (pyIter _) _ _ _)); walk_at "SE"))
local macro_rules | `(tactic| walk_at "S") => `(tactic| ((fail_if_success (with_reducible show LCg.CompRest _ _ _ _ _ _ _ _ _ _ _ _ _ _ _ _ _ _ _)); walk_at "S0"))
local macro_rules | `(tactic| tb_start) => `(tactic| ((first | ((fail_if_success (fail_if_success k_unfold)); refine (?_ : wpAny _ _ _ _ _ _)) | k_unfold); (try dsimp only [List.cons_append, List.nil_append])))
local macro_rules | `(tactic| tb_rel) => `(tactic| ((with_reducible show wpAny _ _ (storeName _ _ _) _ _ _); k_here; k_dflt (refine' storeF ?F ?N ?_ ?a ?b; (case F => k_asm); (case N => k_asm); (case a => rfl); (case b => rfl); k_whole; intro m' h' F' N'; (try k_sweep))))
local macro_rules | `(tactic| walk_at "Z") => `(tactic| (first | tb_start | ((first | tb_rel | walk1); all_goals (try walk_at "fq")) | (dsimp only; walk_at "SE"; ((first | tb_rel | walk1); all_goals (try walk_at "fq"))) | (leave1; try dsimp only)))
local macro_rules | `(tactic| walk_at "en") => `(tactic| repeat' ((fail_if_success (with_reducible show wpAny _ _ (execs _ _) _ _ _)); walk_at "Z"))
local macro_rules | `(tactic| walk_at "fe") => `(tactic| (walk_at "en"; refine foldE ?_; intro e1 A1; all_goals (try walk_at "fq")))
local macro_rules | `(tactic| walk_at "fd") => `(tactic| (walk_at "fe"; with_reducible rename Fr _ _ _ _ => FF; refine letF FF ?_; clear FF; intro m1 FF))
local macro_rules | `(tactic| walk_at "Y0") => `(tactic| (first | (k_unfold; (try dsimp only)) | (k_end; kc_close) | walk1 | (dsimp only; walk1) | (leave1; (try dsimp only)) | fail "no step"))
local macro_rules | `(tactic| walk_at "Y") => `(tactic| (first | (k_unfold; (try dsimp only)) | (k_end; kc_close) | ((first | tb_rel | walk1); all_goals (try walk_at "fq")) | (dsimp only; walk1; all_goals (try walk_at "fq")) | (leave1; (try dsimp only)) | fail "no step"))
section
open PySem PySem.W PyProof.Rows PySem.Calls PySem.Spec
theorem gm_val (P : Params) (pl : Sem Bool) : peek (hd.heap_39 P) ⟨P0, P⟩ (getMethod (.ref 153) (PySem.Str.ofString "search") pl) = some (Value.builtin "re.Pattern.search", [Value.ref 153]) := by kernel_rfl
theorem tgt_val (P : Params) (v : PySem.Str) (t : Tok) : peek (hd.heap_39 P) ⟨P0, P⟩ (PySem.Builtin.Re.reTarget "re.Pattern.search" "search" ⟨[.ref 153, .str v t], []⟩) =
   some { pattern := .ref 153, string := .str v t, code := #[14, 14, 4, 1, 1, 9, 4294966783, 0, 0, 2147483648, 0, 0, 0, 0, 0, 13, 11, 9, 4294966783, 0, 0, 2147483648, 0, 0, 0, 0, 0, 1], text := v.cps, kind := 0, groups := 0, pos := min (0:Int).toNat v.cps.size, lim := min (9223372036854775807:Int).toNat v.cps.size } := by kernel_rfl
end
section
open PySem PySem.W PyProof.Rows PySem.Calls PySem.Spec
theorem ps_plain : plainId "re.Pattern.search" = true := by decide +kernel
theorem ps_entry : entryFor table "re.Pattern.search" = some PySem.Builtin.«re.Pattern.search» := entryFor_of_fast (by kernel_rfl)
theorem ps_chk (P : Params) (v : PySem.Str) (t : Tok) : peek (hd.heap_39 P) ⟨P0, P⟩ (checkBuiltinCall "re.Pattern.search" ⟨[.ref 153, .str v t], []⟩) = some () := by kernel_rfl
theorem call_peek {K : Frag} {prog : Program} {w : World} {A : Around} {E Q : Value → Shared → Prop} {s : Shared} {id : String} {b : Builtin} {vs : List Value} {kw : List (PySem.Str × Value)}
    (hp : plainId id = true) (hb : entryFor table id = some b) (X : K.In s.heap) (hc : peek K ⟨prog, w.params⟩ (checkBuiltinCall id ⟨vs, kw⟩) = some ())
    (h : wpAny (model prog w) A.in1 (b ⟨vs, kw⟩) (fun fin s' => ∃ v, fin = .done (.ret v) ∧ Q v s') E s) : wpAny (model prog w) A (call (.builtin id) vs kw) Q E s := by
  refine wpAny_call (codeAny_call_builtin hp hb ?_)
  refine (Looks.of_peek (M := model prog w) X hc).here ?_
  exact wpAny_mono h (fun fin s' h' => by obtain ⟨v, rfl, hv⟩ := h'; exact hv) fun _ _ h' => h'
theorem wp_forIn_unit {α : Type} {M : Model} {A : Around} {E : Value → Shared → Prop} {s : Shared} {Q : PUnit → Shared → Prop} (f : α → PUnit → Sem (ForInStep PUnit))
    (hf : ∀ a (Q' : ForInStep PUnit → Shared → Prop), Q' (.yield ⟨⟩) s → wpAny M A (f a ⟨⟩) Q' E s) :
    ∀ l : List α, Q ⟨⟩ s → wpAny M A (forIn l PUnit.unit f) Q E s := by
  intro l hq
  induction l with
  | nil => rw [List.forIn_nil]; exact wpAny_pure hq
  | cons a r ih =>
    rw [List.forIn_cons]
    refine wpAny_bind (hf a _ ?_)
    exact ih
theorem say_end (m : Sre.M) (h1 : m.outcome = none) (h2 : m.frames = []) (h3 : m.answer = some false) : m.runFor PySem.Builtin.Re.reTurnSteps = { m with outcome := some .failed } := by
  unfold PySem.Builtin.Re.reTurnSteps
  obtain ⟨⟩ := m
  simp only at h1 h2 h3
  subst h1 h2 h3
  rfl
theorem runToEnd_none {M : Model} {A : Around} {E : Value → Shared → Prop} {s : Shared} {Q : Option Sre.M → Shared → Prop} (m : Sre.M) (h1 : m.outcome = none) (h2 : m.frames = []) (h3 : m.answer = some false) (h : Q none s) :
    wpAny M A (PySem.Builtin.Re.reRunToEnd m) Q E s := by
  unfold PySem.Builtin.Re.reRunToEnd
  refine wpAny_bind ?_
  have e : PySem.Builtin.Re.reDrive (2 ^ 64) m = pure { m with outcome := some .failed } := by
    rw [show (2 ^ 64 : Nat) = (2 ^ 64 - 1) + 1 from rfl]
    unfold PySem.Builtin.Re.reDrive
    rw [say_end m h1 h2 h3]
    rfl
  rw [e]
  refine wpAny_pure ?_
  refine wpAny_bind ?_
  refine wp_forIn_unit _ ?_ _ ?_
  · intro a Q' hq
    dsimp only
    split
    · exact wpAny_bind (wpAny_rule (wpAny_pure hq))
    · exact wpAny_pure hq
  · exact wpAny_pure h
theorem admitted_none (m : Sre.M) (h : ∀ (c : Nat), c ∈ m.text.toList → ∀ seen, ∃ seen', Sre.inSet m.code c m.code.size 5 true seen = .ok (false, seen')) (hl : m.lim = m.text.size) :
    ∀ fuel st seen, ∃ seen', Sre.M.admitted m fuel st seen = .ok (none, seen') := by
  intro fuel
  induction fuel with
  | zero => intro st seen; exact ⟨seen, rfl⟩
  | succ n ih =>
    intro st seen
    unfold Sre.M.admitted
    by_cases hs : st ≥ m.lim
    · rw [if_pos hs]; exact ⟨seen, rfl⟩
    · rw [if_neg hs]
      have hlt : st < m.text.size := by omega
      have hc : m.text.getD st 0 ∈ m.text.toList := by
        rw [show m.text.getD st 0 = m.text[st] from by simp [Array.getD, hlt]]
        exact Array.mem_toList_iff.mpr (Array.getElem_mem hlt)
      obtain ⟨seen', e⟩ := h _ hc seen
      rw [e]
      exact ih _ _
end
section
open PySem PySem.W PyProof.Rows PySem.Calls PySem.Spec
def Plain (v : PySem.Str) : Prop := ∀ c ∈ v.cps.toList, 32 ≤ c ∧ c < 127
def valCode : Array Nat := #[14, 14, 4, 1, 1, 9, 4294966783, 0, 0, 2147483648, 0, 0, 0, 0, 0, 13, 11, 9, 4294966783, 0, 0, 2147483648, 0, 0, 0, 0, 0, 1]
def nameCode : Array Nat := #[14, 10, 4, 1, 1, 22, 0, 31, 16, 127, 0, 13, 7, 22, 0, 31, 16, 127, 0, 1]
theorem val_bit : ∀ k : Fin 95, (valCode.getD (5 + (1 + (k.val + 32) / 32)) 0).testBit ((k.val + 32) % 32) = false := by decide +kernel
theorem val_set (c : Nat) (h : 32 ≤ c ∧ c < 127) (seen : Sre.Seen) : ∃ seen', Sre.inSet valCode c valCode.size 5 true seen = .ok (false, seen') := by
  have hb := val_bit ⟨c - 32, by omega⟩
  have e : c - 32 + 32 = c := by omega
  simp only [e] at hb
  refine ⟨((seen.add 9).add 0), ?_⟩
  show (if (decide (c < 256) && (valCode.getD (5 + (1 + c / 32)) 0).testBit (c % 32)) = true then (.ok (true, seen.add 9) : Except String (Bool × Sre.Seen)) else Sre.inSet valCode c 27 (5 + 9) true (seen.add 9)) = _
  rw [hb, Bool.and_false, if_neg Bool.false_ne_true]
  rfl
theorem name_set (c : Nat) (h : 32 ≤ c ∧ c < 127) (seen : Sre.Seen) : ∃ seen', Sre.inSet nameCode c nameCode.size 5 true seen = .ok (false, seen') := by
  refine ⟨(((seen.add 22).add 16).add 0), ?_⟩
  show (if (decide (0 ≤ c) && decide (c ≤ 31)) = true then (.ok (true, seen.add 22) : Except String (Bool × Sre.Seen)) else Sre.inSet nameCode c 19 (5 + 3) true (seen.add 22)) = _
  rw [show decide (c ≤ 31) = false from by simp; omega, Bool.and_false, if_neg Bool.false_ne_true]
  show (if (c == 127) = true then (.ok (true, (seen.add 22).add 16) : Except String (Bool × Sre.Seen)) else Sre.inSet nameCode c 18 (8 + 2) true ((seen.add 22).add 16)) = _
  rw [show (c == 127) = false from by simp; omega, if_neg Bool.false_ne_true]
  rfl
theorem attempt_no (m : Sre.M) (ho : m.outcome = none) (hf : m.frames = []) (hh : m.hasFirstSet = true) (hl : m.lim = m.text.size)
    (hs : ∀ c ∈ m.text.toList, ∀ seen, ∃ seen', Sre.inSet m.code c m.code.size 5 true seen = .ok (false, seen')) (n : Nat) (b : Bool) :
    (m.attemptFrom n b).outcome = none ∧ (m.attemptFrom n b).frames = [] ∧ (m.attemptFrom n b).answer = some false := by
  obtain ⟨seen', e⟩ := admitted_none m hs hl (m.lim + 1 - n) n m.seen
  unfold Sre.M.attemptFrom
  rw [hh, e]
  exact ⟨ho, hf, rfl⟩
theorem forSearch_no {code : Array Nat} (hh : Sre.header code = (1, 1 + code.getD 1 0)) (hf : ∀ m : Sre.M, m.code = code → m.hasFirstSet = true) (text : Array Nat)
    (hs : ∀ c ∈ text.toList, ∀ seen, ∃ seen', Sre.inSet code c code.size 5 true seen = .ok (false, seen')) (lim : Nat) (hl : lim = text.size) :
    (Sre.forSearch code text 0 0 lim false).outcome = none ∧ (Sre.forSearch code text 0 0 lim false).frames = [] ∧ (Sre.forSearch code text 0 0 lim false).answer = some false := by
  unfold Sre.forSearch
  rw [hh]
  dsimp only
  split
  · exact ⟨rfl, rfl, rfl⟩
  · exact attempt_no _ rfl rfl (hf _ rfl) hl hs _ _
theorem val_hasSet (m : Sre.M) (h : m.code = valCode) : m.hasFirstSet = true := by unfold Sre.M.hasFirstSet; rw [h]; rfl
theorem name_hasSet (m : Sre.M) (h : m.code = nameCode) : m.hasFirstSet = true := by unfold Sre.M.hasFirstSet; rw [h]; rfl
theorem tgt_name (P : Params) (v : PySem.Str) (t : Tok) : peek (hd.heap_39 P) ⟨P0, P⟩ (PySem.Builtin.Re.reTarget "re.Pattern.search" "search" ⟨[.ref 148, .str v t], []⟩) =
   some { pattern := .ref 148, string := .str v t, code := nameCode, text := v.cps, kind := 0, groups := 0, pos := min (0:Int).toNat v.cps.size, lim := min (9223372036854775807:Int).toNat v.cps.size } := by kernel_rfl
theorem gm_name (P : Params) (pl : Sem Bool) : peek (hd.heap_39 P) ⟨P0, P⟩ (getMethod (.ref 148) (PySem.Str.ofString "search") pl) = some (Value.builtin "re.Pattern.search", [Value.ref 148]) := by kernel_rfl
theorem ps_chkN (P : Params) (v : PySem.Str) (t : Tok) : peek (hd.heap_39 P) ⟨P0, P⟩ (checkBuiltinCall "re.Pattern.search" ⟨[.ref 148, .str v t], []⟩) = some () := by kernel_rfl
section
variable {w : World} {A : Around} {E Q : Value → Shared → Prop} {s : Shared} {v : PySem.Str} {t : Tok}
theorem answer_no {tg : PySem.Builtin.Re.ReTarget} {Q : Fin → Shared → Prop} {M : Model} (m : Sre.M) (h : m.outcome = none ∧ m.frames = [] ∧ m.answer = some false) (hq : Q (.done (.ret .none)) s) : wpAny M A (PySem.Builtin.Re.reAnswer tg m) Q E s := by
  unfold PySem.Builtin.Re.reAnswer
  refine wpAny_bind (runToEnd_none m h.1 h.2.1 h.2.2 ?_)
  exact wpAny_pure hq
theorem search_val (X : (hd.heap_39 w.params).In s.heap) (hv : Plain v) (hz : v.cps.size ≤ 9223372036854775807) (hq : Q .none s) : wpAny (model P0 w) A (call (.builtin "re.Pattern.search") [.ref 153, .str v t]) Q E s := by
  refine call_peek ps_plain ps_entry X (ps_chk _ _ _) ?_
  unfold PySem.Builtin.«re.Pattern.search»
  refine wpAny_bind ((Looks.of_peek (M := model P0 w) X (tgt_val _ _ _)).here ?_)
  refine answer_no _ (forSearch_no (code := valCode) rfl val_hasSet v.cps (fun c hc => val_set c (hv c hc)) _ (by have e : (9223372036854775807:Int).toNat = 9223372036854775807 := rfl; dsimp only; omega)) ⟨_, rfl, hq⟩
theorem search_name (X : (hd.heap_39 w.params).In s.heap) (hv : Plain v) (hz : v.cps.size ≤ 9223372036854775807) (hq : Q .none s) : wpAny (model P0 w) A (call (.builtin "re.Pattern.search") [.ref 148, .str v t]) Q E s := by
  refine call_peek ps_plain ps_entry X (ps_chkN _ _ _) ?_
  unfold PySem.Builtin.«re.Pattern.search»
  refine wpAny_bind ((Looks.of_peek (M := model P0 w) X (tgt_name _ _ _)).here ?_)
  refine answer_no _ (forSearch_no (code := nameCode) rfl name_hasSet v.cps (fun c hc => name_set c (hv c hc)) _ (by have e : (9223372036854775807:Int).toNat = 9223372036854775807 := rfl; dsimp only; omega)) ⟨_, rfl, hq⟩
end
end
section
open PySem PySem.W PyProof.Rows PySem.Calls PySem.Spec
theorem lk_use {K : Frag} {prog : Program} {w : World} {A : Around} {α : Type} {Q : α → Shared → Prop} {E : Value → Shared → Prop} {s : Shared} {h₀ : Heap} {L : Addr} {m : PySem.Str → Option Value} {t : Sem α} {r : α}
    (F : Fr h₀ L s.heap m) (X : K.In h₀) (e : peek K ⟨prog, w.params⟩ t = some r) (q : Q r s) : wpAny (model prog w) A t Q E s :=
  (Looks.of_peek (M := model prog w) (X.keeps F.keep) e).here q
theorem search_val' {w : World} {A : Around} {Q E : Value → Shared → Prop} {s : Shared} {h₀ : Heap} {L : Addr} {m : PySem.Str → Option Value} {v : PySem.Str} {t : Tok}
    (F : Fr h₀ L s.heap m) (X : (hd.heap_39 w.params).In h₀) (hv : Plain v) (hz : v.length ≤ 1000) (hq : Q .none s) : wpAny (model P0 w) A (call (.builtin "re.Pattern.search") [.ref 153, .str v t]) Q E s :=
  search_val (X.keeps F.keep) hv (by have : v.cps.size = v.length := rfl; omega) hq
theorem search_name' {w : World} {A : Around} {Q E : Value → Shared → Prop} {s : Shared} {h₀ : Heap} {L : Addr} {m : PySem.Str → Option Value} {v : PySem.Str} {t : Tok}
    (F : Fr h₀ L s.heap m) (X : (hd.heap_39 w.params).In h₀) (hv : Plain v) (hz : v.length ≤ 1000) (hq : Q .none s) : wpAny (model P0 w) A (call (.builtin "re.Pattern.search") [.ref 148, .str v t]) Q E s :=
  search_name (X.keeps F.keep) hv (by have : v.cps.size = v.length := rfl; omega) hq
local macro_rules | `(tactic| walk_at "call builtin:re.Pattern.search") => `(tactic| ((with_reducible show wpAny _ _ (call _ _ _) _ _ _); k_dflt (first
  | (refine' search_val' ?F ?X ?v ?z ?_; (case F => k_asm); (case X => k_asm); (case v => k_asm); (case z => k_asm))
  | (refine' search_name' ?F ?X ?v ?z ?_; (case F => k_asm); (case X => k_asm); (case v => k_asm); (case z => k_asm)))))
theorem conv_c (w : World) (news : LLed) (x : Addr) (v : PySem.Str) (t : Tok) (b : Bool) (hv : Plain v) (hz : v.length ≤ 1000) :
    Ctr w 183 [.ref x, .str v t] [(PySem.Str.ofString "name", .bool b)] 3 news fun N Q => ∀ h' tk', N h' news → Q (.str v t) h' tk' := by
  unfold Ctr
  have hdummy : PySem.Challenge.rw_wo0075_01 = PySem.Challenge.rw_wo0075_01 ∧ hd.heap_39 w.params = hd.heap_39 w.params := by k_fill; exact ⟨rfl, rfl⟩
  clear hdummy
  intros
  rename_i hret
  refine wpAny_call ?_
  k_dflt cell_enter
  repeat' (first | ((first | ((with_reducible show wpAny _ _ (getMethod (Value.ref 148) _ _) _ _ _); k_dflt (refine' lk_use ?Fy1 ?Xy1 (gm_name _ _) ?_; (case Fy1 => k_asm); (case Xy1 => k_asm))) | ((with_reducible show wpAny _ _ (getMethod (Value.ref 153) _ _) _ _ _); k_dflt (refine' lk_use ?Fy2 ?Xy2 (gm_val _ _) ?_; (case Fy2 => k_asm); (case Xy2 => k_asm)))); all_goals (try walk_at "fq")) | walk_at "Y")
  all_goals exact hret _ _ ⟨by k_asm, by k_asm⟩
end
section
open PySem PySem.W PyProof.Rows PySem.Calls PySem.Spec
abbrev tup2 (a b : Value) : Obj := { cls := .type "tuple", data := .seq #[a, b] }
abbrev hdict (w : World) (tk : Tok) (la : Addr) : Obj := dictOf [{ hash := PyData.keyHash w.params (PySem.Str.ofString "_headers"), key := .str (PySem.Str.ofString "_headers") tk, val := .ref la }] 1
theorem allLt_all {d : Nat} : ∀ {l : LLed}, AllLt d l → ∀ p ∈ l, p.1 < d
  | [], _, _, h => nomatch h
  | _ :: _, h, q, hq => by
    rcases List.mem_cons.mp hq with rfl | hq
    · exact h.1
    · exact allLt_all h.2 q hq
theorem append_pick {prog : Program} {w : World} {A : Around} {E : Value → Shared → Prop} {s : Shared} {h₀ : Heap} {L D : Addr} {m : PySem.Str → Option Value} {news : LLed} {its : Array Value} {n : Nat} {x : Value} {Q : Value → Shared → Prop} (keep : LLed)
    (F : Fr h₀ L s.heap m) (N : News h₀ L s.heap news) (hm : (D, W.listOf its n) ∈ news) (hk : ∀ p ∈ keep, p ∈ news ∧ p.1 ≠ D) (hsz : its.size ≤ sizeLine)
    (h : ∀ h', Fr h₀ L h' m → News h₀ L h' ((D, W.listOf (its.push x) (n + 1)) :: keep) → Q .none { s with heap := h' }) : wpAny (model prog w) A (call (.builtin "list.append") [.ref D, x]) Q E s := by
  have N2 : News h₀ L s.heap ((D, W.listOf its n) :: keep) := fun p hp => by
    (first | (revert p; refine all_cons ?_ (fun p hp => ?_)) | rcases List.mem_cons.mp hp with rfl | hp)
    · exact N _ hm
    · exact N _ (hk p hp).1
  exact append_K (hsz := hsz) F N2 (.head fun p hp => (hk p hp).2) h
theorem addh_c (w : World) (rest : LLed) (px pd ah : Addr) (vs : List Value) (n : Nat) (kt : Tok) (name value : PySem.Str) (t u : Tok) (hn : Plain name) (zn : name.length ≤ 1000) (hv : Plain value) (zv : value.length ≤ 1000) (hs : vs.length ≤ 1000)
   (h1 : px ≠ ah) (h2 : pd ≠ ah) (hr : ∀ p ∈ rest, p.1 ≠ ah) :
    Ctr w 279 [.ref px, .str name t, .str value u] [] 5 ((px, instObj 282 pd) :: (pd, hdict w kt ah) :: (ah, W.listOf vs.toArray n) :: rest)
     fun N Q => ∀ a t' u' h' tk', N h' ((ah, W.listOf (vs ++ [Value.ref a]).toArray (n + 1)) :: (a, tup2 (.str name t') (.str value u')) :: (px, instObj 282 pd) :: (pd, hdict w kt ah) :: rest) → ah < a → (∀ p ∈ rest, p.1 < a) → Q .none h' tk' := by
  unfold Ctr
  have hdummy : PySem.Challenge.rw_wo0075_01 = PySem.Challenge.rw_wo0075_01 ∧ hd.heap_39 w.params = hd.heap_39 w.params := by k_fill; exact ⟨rfl, rfl⟩
  clear hdummy
  intro loose mean mg mb dp un gd cn cs a ccd cl outer A₀ base h₀ L m s Q E hB hF hX hN hT hk hdp hun hret
  rcases cs with ⟨ki, na, g1, g2, mo⟩
  dsimp only at hk
  subst hk
  (try walk_at "fe")
  repeat' (first | (((with_reducible show wpAny _ _ (call (Value.ref 183) _ _) _ _ _); k_dflt (refine' Ctr.use (conv_c _ _ _ _ _ _ ?vy1 ?zy1) ?k1y1 ?k2y1 ?k3y1 ?k4y1 ?k5y1 ?kKy1 ?kdy1 ?kuy1 ?_; (case vy1 => first | k_asm | (unfold Plain; decide)); (case zy1 => first | k_asm | decide | (size_fits)); (case k1y1 => k_asm); (case k2y1 => k_asm); (case k3y1 => k_asm); (case k4y1 => k_asm); (case k5y1 => k_asm); (case kKy1 => first | exact rfl | assumption); (case kdy1 => ktr_room); (case kuy1 => ktr_units); (rintro _ _ ⟨_, _⟩; (try dsimp only); (try k_fold))))) | walk_at "Y0")
  rename_i t9 k9 D9 h9 F9 N9 l9
  k_dflt (refine append_pick ((D9, tup2 (.str name t) (.str (Txt.join (PySem.Str.ofString "; ") [value]) t9)) :: (px, instObj 282 pd) :: (pd, hdict w kt ah) :: rest) F9 N9 (by k_mem) ?_ ?_ ?_)
  · intro p hp
    (first | (revert p; refine all_cons ?_ (fun p hp => ?_)) | rcases List.mem_cons.mp hp with rfl | hp)
    · exact ⟨by k_mem, neN (by have := l9; dsimp only; omega)⟩
    (first | (revert p; refine all_cons ?_ (fun p hp => ?_)) | rcases List.mem_cons.mp hp with rfl | hp)
    · exact ⟨by k_mem, h1⟩
    (first | (revert p; refine all_cons ?_ (fun p hp => ?_)) | rcases List.mem_cons.mp hp with rfl | hp)
    · exact ⟨by k_mem, h2⟩
    · exact ⟨by repeat (first | exact hp | refine List.mem_cons_of_mem _ ?_), hr p hp⟩
  · rw [sizeLine_eq]; simp; omega
  · intro h' F' N'
    dsimp only
    repeat' (walk_at "Y0")
    rename News h₀ L _ ((ah, _) :: _) => kN9
    have e1 : Txt.join (PySem.Str.ofString "; ") [value] = value := rfl
    have e2 : (vs.toArray.push (Value.ref D9)) = (vs ++ [Value.ref D9]).toArray := by simp
    rw [e1, e2] at kN9
    exact hret D9 t t9 _ _ ⟨by k_asm, kN9⟩ (ltN (by have := l9; omega)) (allLt_all (by have := l9; exact this.2.2.2.2.2.2))
end
section
open PySem PySem.W PyProof.Rows PySem.Calls PySem.Spec
def HL (news : LLed) : List Value → List (PySem.Str × PySem.Str) → Prop
  | [], [] => True
  | v :: vs, p :: ps => (∃ a t u, v = .ref a ∧ (a, tup2 (.str p.1 t) (.str p.2 u)) ∈ news) ∧ HL news vs ps
  | _, _ => False
def VS : List Value → List PySem.Str → Prop
  | [], [] => True
  | v :: vs, x :: xs => (∃ t, v = .str x t) ∧ VS vs xs
  | _, _ => False
theorem VS.inv {ys : List Value} {x : PySem.Str} {xs : List PySem.Str} (h : VS ys (x :: xs)) : Ex2 fun (t : Tok) (r : List Value) => An2 (ys = .str x t :: r) (VS r xs) := by
  cases ys with
  | nil => exact h.elim
  | cons v vs => obtain ⟨⟨t, rfl⟩, h⟩ := h; exact ⟨t, vs, rfl, h⟩
theorem VS.inv0 {ys : List Value} (h : VS ys []) : ys = [] := by
  cases ys with
  | nil => rfl
  | cons v vs => exact h.elim
theorem HL.inv {news : LLed} {lv : List Value} {p : PySem.Str × PySem.Str} {e : List (PySem.Str × PySem.Str)} (h : HL news lv (p :: e)) : Ex4 fun (a : Addr) (t u : Tok) (r : List Value) => An3 (lv = .ref a :: r) ((a, tup2 (.str p.1 t) (.str p.2 u)) ∈ news) (HL news r e) := by
  cases lv with
  | nil => exact h.elim
  | cons v vs => obtain ⟨⟨a, t, u, rfl, m⟩, h⟩ := h; exact ⟨a, t, u, vs, rfl, m, h⟩
theorem HL.get {news : LLed} : ∀ {vs : List Value} {ps : List (PySem.Str × PySem.Str)}, HL news vs ps → ∀ {i : Nat} {v : Value}, vs[i]? = some v → ∃ p, ps[i]? = some p ∧ ∃ a t u, v = .ref a ∧ (a, tup2 (.str p.1 t) (.str p.2 u)) ∈ news
  | [], [], _, i, v, e => by simp at e
  | [], _ :: _, h, _, _, _ => h.elim
  | _ :: _, [], h, _, _, _ => h.elim
  | _ :: vs, p :: ps, h, 0, v, e => by
    simp at e; subst e
    exact ⟨p, rfl, h.1⟩
  | _ :: vs, p :: ps, h, i + 1, v, e => by
    simp at e
    obtain ⟨q, hq, r⟩ := HL.get h.2 e
    exact ⟨q, by simpa using hq, r⟩
theorem HL.length {news : LLed} : ∀ {vs : List Value} {ps : List (PySem.Str × PySem.Str)}, HL news vs ps → vs.length = ps.length
  | [], [], _ => rfl
  | [], _ :: _, h => h.elim
  | _ :: _, [], h => h.elim
  | _ :: vs, _ :: ps, h => by simp [HL.length h.2]
theorem VS.snoc {ys : List Value} {xs : List PySem.Str} {x : PySem.Str} {t : Tok} : VS ys xs → VS (ys ++ [.str x t]) (xs ++ [x]) := by
  induction ys generalizing xs with
  | nil => cases xs with
    | nil => intro _; exact ⟨⟨t, rfl⟩, trivial⟩
    | cons => intro h; exact h.elim
  | cons y ys ih => cases xs with
    | nil => intro h; exact h.elim
    | cons x' xs => intro h; exact ⟨h.1, ih h.2⟩
def sel (name : PySem.Str) (ps : List (PySem.Str × PySem.Str)) : List PySem.Str := (ps.filter fun p => Txt.lower p.1 == name).map (·.2)
theorem sel_snoc (name : PySem.Str) (ps : List (PySem.Str × PySem.Str)) (p : PySem.Str × PySem.Str) : sel name (ps ++ [p]) = if Txt.lower p.1 == name then sel name ps ++ [p.2] else sel name ps := by
  unfold sel
  rw [List.filter_append, List.map_append]
  by_cases h : (Txt.lower p.1 == name) = true
  · simp [h]
  · simp [h]
open LCt LCg in
theorem compT_inv {prog : Program} {w : World} {A : Around} {h₀ : Heap} {L : Addr} {m : PySem.Str → Option Value} {env : Env} {ct elt : PySem.Expr} {x : PySem.Str} {scope : Scope} {cl : List (PySem.Str × Addr)} {s : Shared} {S : LLed → Prop} {P : Nat → Value → Prop} {Fin : List Value → LLed → Prop} {news : LLed} {n : Nat}
    (Inv : Nat → List Value → Prop) (h0 : Inv 0 []) (hS : S news)
    (turn : ∀ i ys v I oI C oC D m₂ h tk (E' : Value → Shared → Prop), i < n → Inv i ys → P i v → NsObj oC m₂ → m₂ x = some v → Fr h₀ L h m → News h₀ L h ((I, oI) :: (C, oC) :: (D, lst ys) :: news) → Off3 I C D news →
      wpAny (model prog w) A (isTrue ct (compEnvC scope cl C env) (eval ct (compEnvC scope cl C env))) (fun ok s' => if ok = true then
        wpAny (model prog w) A (eval elt (compEnvC scope cl C env)) (fun y s'' => CEnd h₀ L m ((I, oI) :: (C, oC) :: (D, lst ys) :: news) s s'' (Inv (i + 1) (ys ++ [y]))) E' s'
        else (CEnd h₀ L m ((I, oI) :: (C, oC) :: (D, lst ys) :: news) s s' (Inv (i + 1) ys))) E' { s with heap := h, toks := tk })
    (fin : ∀ ys, Inv n ys → Fin ys news) : CompRestT prog w A h₀ L m env ct elt x scope cl s S P Fin n 0 [] news := by
  have key : ∀ k i ys, i + k = n → Inv i ys → CompRestT prog w A h₀ L m env ct elt x scope cl s S P Fin k i ys news := by
    intro k
    induction k with
    | zero => intro i ys e hi; exact CompRestT.zero (fin ys (by simpa [← e] using hi))
    | succ k ih =>
      intro i ys e hi
      refine CompRestT.succ fun v I oI C oC D m₂ h tk E' hv hC hx F N off _ => ?_
      refine wpAny_mono (turn i ys v I oI C oC D m₂ h tk E' (by omega) hi hv hC hx F N off) (fun ok s' q => ?_) fun _ _ x => x
      cases ok with
      | true =>
        simp only [if_true] at q ⊢
        refine wpAny_mono q (fun y s'' r => ?_) fun _ _ x => x
        obtain ⟨h', tk', rfl, F', N', hi'⟩ := r
        exact ⟨h', tk', news, rfl, F', N', off, hS, ih (i + 1) _ (by omega) hi'⟩
      | false =>
        simp only [Bool.false_eq_true, if_false] at q ⊢
        obtain ⟨h', tk', rfl, F', N', hi'⟩ := q
        exact ⟨h', tk', news, rfl, F', N', off, hS, ih (i + 1) _ (by omega) hi'⟩
  exact key n 0 [] (by omega) h0
theorem allLt_ne1 {d : Nat} {l : LLed} (h : AllLt d l) : ∀ p ∈ l, p.1 ≠ d + 1 := fun p hp => by
  have := ltN (allLt_all h p hp)
  refine neN ?_
  omega
end
section
open PySem PySem.W PyProof.Rows PySem.Calls PySem.Spec
theorem items_inv {prog : Program} {w : World} {A : Around} {E : Value → Shared → Prop} {s : Shared} {env : Env} {h₀ : Heap} {target : PySem.Expr} {body : List Stmt} {Q : Flow → Shared → Prop} {I ax : Addr} {lo : Obj} (vs : List Value)
    (J : Nat → (PySem.Str → Option Value) → LLed → Prop)
    (hJ : ∀ i m news, J i m news → (ax, lo) ∈ news ∧ ∀ p ∈ news, p.1 ≠ I)
    (turn : ∀ i v m news h tk oI, vs[i]? = some v → J i m news → Fr h₀ env.locals h m → News h₀ env.locals h ((I, oI) :: news) → oI.cls = .type "list_iterator" →
      wpAny (model prog w) A (assign target env v) (fun _ s₂ => wpAny (model prog w) A (execs body env) (fun f s' => match f with
        | .ret v => Q (.ret v) s'
        | .brk => Q .next s'
        | _ => TEnd h₀ env.locals I oI s s' (J (i + 1))) E s₂) E { s with heap := h, toks := tk })
    (done : ∀ m news h tk, J vs.length m news → Fr h₀ env.locals h m → News h₀ env.locals h news → Q .next { s with heap := h, toks := tk }) :
    ∀ k i m news, i + k = vs.length → J i m news → ItemsRest prog w A E h₀ env target body Q s [(I, "list_iterator")] [(ax, lo)] ((vs.drop i).map .val) m news := by
  intro k
  induction k with
  | zero =>
    intro i m news e hj
    rw [List.drop_of_length_le (by omega), List.map_nil]
    refine ItemsRest.zero fun h tk F N => done m news h tk ?_ F N
    rw [← e]; exact hj
  | succ k ih =>
    intro i m news e hj
    have hlt : i < vs.length := ik_lt e
    rw [List.drop_eq_getElem_cons hlt, List.map_cons]
    refine ItemsRest.val fun h tk F => AllObj.cons fun oI hc => AllObj.nil fun N => ?_
    refine wpAny_mono (turn i vs[i] m news h tk oI (by simp [hlt]) hj F N hc) (fun _ s₂ q => ?_) fun _ _ x => x
    refine wpAny_mono q (fun f s' r => ?_) fun _ _ x => x
    have fin : TEnd h₀ env.locals I oI s s' (J (i + 1)) →
        UnrEndW h₀ env.locals { s with heap := h, toks := tk } [(I, oI)] (fun m' n' => SubL [(ax, lo)] n' ∧ ItemsRest prog w A E h₀ env target body Q s [(I, "list_iterator")] [(ax, lo)] ((vs.drop (i + 1)).map .val) m' n') s' := by
      rintro ⟨h', tk', m', news', rfl, F', N', hj'⟩
      refine ⟨h', tk', m', news', rfl, F', N', fun p hp q hq => ?_, ⟨(hJ _ _ _ hj').1, trivial⟩, ih (i + 1) m' news' (ik_s e) hj'⟩
      rw [List.mem_singleton.mp hq]
      exact (hJ _ _ _ hj').2 p hp
    cases f with
    | ret v => exact r
    | brk => exact r
    | next => exact fin r
    | cont => exact fin r
theorem list_inv {prog : Program} {w : World} {A : Around} {E : Value → Shared → Prop} {s : Shared} {env : Env} {h₀ : Heap} {target : PySem.Expr} {body : List Stmt} {Q : Flow → Shared → Prop} {ax : Addr} {lo : Obj} {vs : List Value} {n : Nat} {m₀ : PySem.Str → Option Value} {news₀ : LLed}
    (hh : A.handled = none) (F : Fr h₀ env.locals s.heap m₀) (N : News h₀ env.locals s.heap news₀) (hm : (ax, lo) ∈ news₀) (hc : lo.cls = .type "list") (hd : lo.data = .seq vs.toArray n)
    (J : (PySem.Str → Option Value) → LLed → Addr → Nat → (PySem.Str → Option Value) → LLed → Prop) (h0 : ∀ I, (∀ p ∈ news₀, p.1 < I) → J m₀ news₀ I 0 m₀ news₀)
    (hJ : ∀ I i m news, J m₀ news₀ I i m news → (ax, lo) ∈ news ∧ ∀ p ∈ news, p.1 ≠ I)
    (turn : ∀ I i v m news h tk oI, vs[i]? = some v → J m₀ news₀ I i m news → Fr h₀ env.locals h m → News h₀ env.locals h ((I, oI) :: news) → oI.cls = .type "list_iterator" →
      wpAny (model prog w) A (assign target env v) (fun _ s₂ => wpAny (model prog w) A (execs body env) (fun f s' => match f with
        | .ret v => Q (.ret v) s'
        | .brk => Q .next s'
        | _ => TEnd h₀ env.locals I oI s s' (J m₀ news₀ I (i + 1))) E s₂) E { s with heap := h, toks := tk })
    (done : ∀ I m news h tk, J m₀ news₀ I vs.length m news → Fr h₀ env.locals h m → News h₀ env.locals h news → Q .next { s with heap := h, toks := tk }) :
    wpAny (model prog w) A (pyIter (.ref ax)) (fun it s₂ => TurnsAt prog w A h₀ env target body Q E it s₂) E s := by
  refine iter_listTurns hh F N hm hc hd fun I hI => ?_
  have := items_inv (prog := prog) (w := w) (A := A) (E := E) (s := s) (env := env) (h₀ := h₀) (target := target) (body := body) (Q := Q) (I := I) (ax := ax) (lo := lo) vs (J m₀ news₀ I) (hJ I) (turn I) (done I) vs.length 0 m₀ news₀ (by omega) (h0 I hI)
  simpa using this
def ovr (ks : List PySem.Str) (u m : PySem.Str → Option Value) : PySem.Str → Option Value := fun y => if ks.contains y then u y else m y
theorem ovr_self (ks : List PySem.Str) (m : PySem.Str → Option Value) : ovr ks m m = m := by
  funext y; unfold ovr; split <;> rfl
theorem ovr_step {ks : List PySem.Str} {u m : PySem.Str → Option Value} {k : PySem.Str} {v : Option Value} (h : ks.contains k = true) : (fun y => if y = k then v else ovr ks u m y) = ovr ks (fun y => if y = k then v else u y) m := by
  funext y
  unfold ovr
  by_cases e : y = k
  · subst e; simp only [if_pos h, if_true]
  · simp only [if_neg e]
theorem ovr_more {ks : List PySem.Str} {f m : PySem.Str → Option Value} {k : PySem.Str} {v : Option Value} (h : ks.contains k = true) (e : ∃ u, f = ovr ks u m) : ∃ u, (fun y => if y = k then v else f y) = ovr ks u m := by
  obtain ⟨u, rfl⟩ := e
  exact ⟨_, ovr_step h⟩
end
section
open PySem PySem.W PyProof.Rows PySem.Calls PySem.Spec
local macro_rules | `(tactic| walk_at "CompSrcT") => `(tactic| (k_dflt (refine LCt.CompSrcT.ledger (by rfl) (by k_asm) (by k_asm) (by k_mem) ?hz ?_; (case hz => (rw [sizeLine_eq]; simp; omega)); intro g9)))
theorem getall_c (w : World) (rest : LLed) (px pd ah : Addr) (vs : List Value) (n : Nat) (kt : Tok) (name : PySem.Str) (t : Tok) (hn : Plain (Txt.lower name)) (zn : (Txt.lower name).length ≤ 1000) (zm : name.length ≤ 1000) (hs : vs.length ≤ 1000)
   (ps : List (PySem.Str × PySem.Str)) (hl : HL rest vs ps) (hpz : ∀ p ∈ ps, p.1.length ≤ 10) :
    Ctr w 221 [.ref px, .str name t] [] 5 ((px, instObj 282 pd) :: (pd, hdict w kt ah) :: (ah, W.listOf vs.toArray n) :: rest)
     fun N Q => ∀ D ys h' tk', VS ys (sel (Txt.lower name) ps) → N h' ((D, LCg.lst ys) :: (px, instObj 282 pd) :: (pd, hdict w kt ah) :: (ah, W.listOf vs.toArray n) :: rest) → Q (.ref D) h' tk' := by
  unfold Ctr
  have hdummy : PySem.Challenge.rw_wo0075_01 = PySem.Challenge.rw_wo0075_01 ∧ hd.heap_39 w.params = hd.heap_39 w.params := by k_fill; exact ⟨rfl, rfl⟩
  clear hdummy
  intro loose mean mg mb dp un gd cn cs a ccd cl outer A₀ base h₀ L m s Q E hB hF hX hN hT hk hdp hun hret
  rcases cs with ⟨ki, na, g1, g2, mo⟩
  dsimp only at hk
  subst hk
  walk1
  rename (_ ∧ _ ∧ _ ∧ AllLt _ rest) => lA
  have lB := allLt_ne1 lA.2.2.2
  repeat' (first | (((with_reducible show wpAny _ _ (call (Value.ref 183) _ _) _ _ _); k_dflt (refine' Ctr.use (conv_c _ _ _ _ _ _ ?vy1 ?zy1) ?k1y1 ?k2y1 ?k3y1 ?k4y1 ?k5y1 ?kKy1 ?kdy1 ?kuy1 ?_; (case vy1 => first | k_asm | (unfold Plain; decide)); (case zy1 => first | k_asm | decide | (size_fits)); (case k1y1 => k_asm); (case k2y1 => k_asm); (case k3y1 => k_asm); (case k4y1 => k_asm); (case k5y1 => k_asm); (case kKy1 => first | exact rfl | assumption); (case kdy1 => ((try dsimp +zetaDelta only); first | exact dm1 (by with_reducible assumption) rfl | ktr_room)); (case kuy1 => ((try dsimp +zetaDelta only); first | exact um1 (by with_reducible assumption) rfl | ktr_units)); (rintro _ _ ⟨_, _⟩; (try dsimp only); (try k_fold)))); all_goals (try walk_at "fq")) | walk_at "Y")
  refine compT_inv (fun i ys => VS ys (sel (Txt.lower name) (ps.take i))) trivial (.inr ⟨_, by k_mem, rfl, _, rfl⟩) ?_ ?_
  · intro i ys v I oI C oC D m₂ h tk E' hi hI hv hC hx F9 N9 off
    have hv' : vs[i]? = some v := by simpa using hv
    obtain ⟨p, hp, a, t1, u1, rfl, hm⟩ := hl.get hv'
    have hpl := hpz p (List.mem_of_getElem? hp)
    repeat' (walk_at "Y")
    all_goals (try (refine CEnd.mk _ _ rfl (by k_asm) (by k_asm) ?_))
    all_goals first
      | (k_dflt assumption)
      | (have e : ps.take (i + 1) = ps.take i ++ [p] := by (rw [List.take_add_one, hp]; rfl)
         rw [e, sel_snoc]
         first
         | (rw [if_pos (by assumption)]; exact VS.snoc hI)
         | (rw [if_neg (by simp_all)]; exact hI))
  · intro ys hys
    have e : ps.take vs.toArray.size = ps := List.take_of_length_le (by rw [List.size_toArray, hl.length]; exact Nat.le_refl _)
    rw [e] at hys
    repeat' (walk_at "Y")
    exact hret _ ys _ _ hys ⟨by k_asm, by (rename News h₀ L _ _ => kN9; exact fun p hp => kN9 p (by
      (first | (revert p; refine all_cons ?_ (fun p hp => ?_)) | rcases List.mem_cons.mp hp with rfl | hp)
      · k_mem
      · exact List.mem_cons_of_mem _ (List.mem_cons_of_mem _ hp)))⟩
end
section
open PySem PySem.W PyProof.Rows PySem.Calls PySem.Spec
theorem slice_all (vs : List Value) : slicePick vs.toArray none none none = vs.toArray := slicePick_all _
theorem items_c (w : World) (rest : LLed) (px pd ah : Addr) (vs : List Value) (n : Nat) (kt : Tok) (hs : vs.length ≤ 1000) :
    Ctr w 246 [.ref px] [] 5 ((px, instObj 282 pd) :: (pd, hdict w kt ah) :: (ah, W.listOf vs.toArray n) :: rest)
     fun N Q => ∀ D h' tk', N h' ((D, W.listOf vs.toArray 0) :: (px, instObj 282 pd) :: (pd, hdict w kt ah) :: (ah, W.listOf vs.toArray n) :: rest) → Q (.ref D) h' tk' := by
  unfold Ctr
  have hdummy : PySem.Challenge.rw_wo0075_01 = PySem.Challenge.rw_wo0075_01 ∧ hd.heap_39 w.params = hd.heap_39 w.params := by k_fill; exact ⟨rfl, rfl⟩
  clear hdummy
  intro loose mean mg mb dp un gd cn cs a ccd cl outer A₀ base h₀ L m s Q E hB hF hX hN hT hk hdp hun hret
  rcases cs with ⟨ki, na, g1, g2, mo⟩
  dsimp only at hk
  subst hk
  (try walk_at "fe")
  repeat' (walk_at "Y")
  rename News h₀ L _ _ => kN9
  rw [slice_all] at kN9
  exact hret _ _ _ ⟨by k_asm, kN9⟩
end
section
open PySem PySem.W PyProof.Rows PySem.Calls PySem.Spec
theorem get_c (w : World) (rest : LLed) (px pd ah : Addr) (vs : List Value) (n : Nat) (kt : Tok) (name : PySem.Str) (t : Tok) (hn : Plain (Txt.lower name)) (zn : (Txt.lower name).length ≤ 1000) (zm : name.length ≤ 1000) (hs : vs.length ≤ 1000)
   (ps : List (PySem.Str × PySem.Str)) (hl : HL rest vs ps) (hpz : ∀ p ∈ ps, p.1.length ≤ 10) (x : PySem.Str) (hx : (sel (Txt.lower name) ps).head? = some x) :
    Ctr w 229 [.ref px, .str name t] [] 5 ((px, instObj 282 pd) :: (pd, hdict w kt ah) :: (ah, W.listOf vs.toArray n) :: rest)
     fun N Q => ∀ u h' tk', N h' ((px, instObj 282 pd) :: (pd, hdict w kt ah) :: (ah, W.listOf vs.toArray n) :: rest) → Q (.str x u) h' tk' := by
  unfold Ctr
  have hdummy : PySem.Challenge.rw_wo0075_01 = PySem.Challenge.rw_wo0075_01 ∧ hd.heap_39 w.params = hd.heap_39 w.params := by k_fill; exact ⟨rfl, rfl⟩
  clear hdummy
  intro loose mean mg mb dp un gd cn cs a ccd cl outer A₀ base h₀ L m s Q E hB hF hX hN hT hk hdp hun hret
  rcases cs with ⟨ki, na, g1, g2, mo⟩
  dsimp only at hk
  subst hk
  (try walk_at "fe")
  repeat' (first | ((first | ((with_reducible show wpAny _ _ (exec (PySem.Stmt.For _ _ _ _ _) _) _ _ _); ((rename Fr _ _ _ _ => lF'); (with_unfolding_all refine' For_turns lF' ?_; k_whole))) | ((with_reducible show wpAny _ _ (callWith _ _ _ _ _) _ _ _); (k_dflt (refine' callWith_KW ?k1y3 ?k2y3 ?k3y3 ?_ ?k4y3 ?k5y3; (case k1y3 => k_in); (case k2y3 => k_is); (case k3y3 => kernel_rfl); (case k4y3 => kernel_rfl); (case k5y3 => kernel_rfl); k_whole))) | ((with_reducible show wpAny _ _ (call (Value.ref 183) _ _) _ _ _); k_dflt (refine' Ctr.use (conv_c _ _ _ _ _ _ ?vy4 ?zy4) ?k1y4 ?k2y4 ?k3y4 ?k4y4 ?k5y4 ?kKy4 ?kdy4 ?kuy4 ?_; (case vy4 => first | k_asm | (unfold Plain; decide)); (case zy4 => first | k_asm | decide | (size_fits)); (case k1y4 => k_asm); (case k2y4 => k_asm); (case k3y4 => k_asm); (case k4y4 => k_asm); (case k5y4 => k_asm); (case kKy4 => first | exact rfl | assumption); (case kdy4 => ((try dsimp +zetaDelta only); first | exact dm1 (by with_reducible assumption) rfl | ktr_room)); (case kuy4 => ((try dsimp +zetaDelta only); first | exact um1 (by with_reducible assumption) rfl | ktr_units)); (rintro _ _ ⟨_, _⟩; (try dsimp only); (try k_fold))))); all_goals (try walk_at "fq")) | walk_at "Y")
  refine list_inv (vs := vs) (n := n) (lo := W.listOf vs.toArray n) (by rfl) (by k_asm) (by k_asm) (by k_mem) rfl rfl
    (fun m₀ news₀ I i m news => news = news₀ ∧ (∀ p ∈ news, p.1 ≠ I) ∧ (ah, W.listOf vs.toArray n) ∈ news ∧ sel (Txt.lower name) (ps.take i) = [] ∧ ∃ u, m = ovr [PySem.Str.ofString "k", PySem.Str.ofString "v"] u m₀)
    (fun I hI => ⟨rfl, fun p hp => Nat.ne_of_lt (hI p hp), by k_mem, rfl, _, (ovr_self _ _).symm⟩) (fun I i m news h => ⟨h.2.2.1, h.2.1⟩) ?_ ?_
  · rintro I i v m news h tk oI hv ⟨rfl, hI, hah, hsel, u, rfl⟩ F9 N9 hcI
    obtain ⟨p, hp, a, t1, u1, rfl, hm⟩ := hl.get hv
    have hpl := hpz p (List.mem_of_getElem? hp)
    repeat' (first | (((with_reducible show Exists _); (refine ⟨_, _, _, _, rfl, by k_asm, by k_asm, ?_⟩)); all_goals (try walk_at "fq")) | walk_at "Y")
    · have e : ps = ps.take i ++ p :: ps.drop (i + 1) := by
        have := (List.take_append_drop (i + 1) ps).symm
        rw [List.take_add_one, hp] at this
        simpa using this
      have e2 : sel (Txt.lower name) ps = sel (Txt.lower name) (ps.take i) ++ sel (Txt.lower name) (p :: ps.drop (i + 1)) := by
        conv => lhs; rw [e]
        unfold sel
        simp
      rw [e2, hsel] at hx
      have e3 : x = p.2 := by
        have hq : (Txt.lower p.1 == Txt.lower name) = true := by assumption
        simp [sel, hq] at hx
        exact hx.symm
      subst e3
      exact hret _ _ _ ⟨by k_asm, by (rename News h₀ L _ _ => kN9; exact fun p hp => kN9 p (by first | exact List.mem_cons_of_mem _ hp | exact hp))⟩
    · refine ⟨rfl, hI, hah, ?_, ovr_more (by decide) (ovr_more (by decide) ⟨_, rfl⟩)⟩
      · have e : ps.take (i + 1) = ps.take i ++ [p] := by (rw [List.take_add_one, hp]; rfl)
        rw [e, sel_snoc, if_neg (by simp_all)]
        exact hsel
  · rintro I m news h tk ⟨rfl, hI, hah, hsel, u, rfl⟩ F9 N9
    exfalso
    rw [hl.length, List.take_length] at hsel
    rw [hsel] at hx
    cases hx
end
section
open PySem PySem.W PyProof.Rows PySem.Calls PySem.Spec
section
variable {prog : Program} {w : World} {A : Around} {E : Value → Shared → Prop} {s : Shared}
theorem listItems_at {a : Addr} {xs : Array Value} {n : Nat} {M : Model} {A : Around} {E : Value → Shared → Prop} {Q : Array Value → Shared → Prop} (ho : s.heap.get? a = some { cls := .type "list", data := .seq xs n }) (h : Q xs s) : wpAny M A (PySem.Builtin.List.listItems (.ref a)) Q E s := by
  unfold PySem.Builtin.List.listItems
  exact wpAny_bind (wpAny_seqItems ho rfl (wpAny_pure h))
theorem setSlice_at {l sl D : Addr} {xs ys : Array Value} {n k : Nat} {Q : Unit → Shared → Prop} (ho : s.heap.get? l = some { cls := .type "list", data := .seq xs n })
    (hs : s.heap.IsSliceOf sl .none .none .none) (hD : s.heap.get? D = some { cls := .type "list", data := .seq ys k }) (hne : l ≠ D) (hz : xs.size + ys.size ≤ sizeLine)
    (h : ∀ h' n', Heap.SameBut l s.heap h' → h'.get? l = some { cls := .type "list", data := .seq ys n' } → Q () { s with heap := h' }) :
    wpAny (model prog w) A (setItem (.ref l) (.ref sl) (.ref D)) Q E s := by
  have hl : s.heap.IsList l xs := ⟨_, ho, rfl, _, rfl⟩
  have hl2 : s.heap.IsList D ys := ⟨_, hD, rfl, _, rfl⟩
  obtain ⟨os, hos, hcs, hds⟩ := id hs
  have hTs : s.TypeIs (.ref sl) "slice" := ⟨os, hos, hcs⟩
  unfold setItem
  try with_reducible refine wpAny_holding ?_
  first | refine wpAny_bind (wpAny_pure ?_) | skip
  refine wpAny_bind (wpAny_sequenceKey hl.typeIs (by decide) ?_)
  refine wpAny_bind (wpAny_callSpecial?_slot (name := PySem.Str.ofString "__setitem__") hl.typeIs slot_list_setitem
    (wpAny_call_entry slot_list_setitem hl.typeIs entry_list_setitem ?_ (args_list_setitem _ _ _)))
  show wpAny _ _ (PySem.Builtin.List.listSubscript? (.ref sl) >>= _) _ _ s
  refine wpAny_bind ?_
  unfold PySem.Builtin.List.listSubscript?
  refine wpAny_bind (wpAny_specialOf hTs slice_no_index ?_)
  rw [if_pos (by rfl)]
  refine wpAny_pure ?_
  show wpAny _ _ (typeOf (.ref sl) >>= _) _ _ s
  refine wpAny_bind (wpAny_typeOf hTs ?_)
  rw [if_neg (by decide)]
  rw [listSliceParts_eq]
  refine wpAny_bind (wpAny_bind (wpAny_field hos hds (x := .none) rfl (wpAny_bind (wpAny_listPart .none ?_))))
  rw [if_neg (by decide)]
  refine wpAny_bind (wpAny_field hos hds (x := .none) rfl (wpAny_bind (wpAny_listPart .none ?_)))
  refine wpAny_bind (wpAny_field hos hds (x := .none) rfl (wpAny_bind (wpAny_listPart .none (wpAny_pure ?_))))
  have hsame : PySem.Builtin.List.listSameRef (.ref l) (.ref D) = false := by
    show (l == D) = false
    exact beq_false_of_ne hne
  dsimp only
  rw [hsame]
  rw [if_neg Bool.false_ne_true]
  refine wpAny_bind ?_
  unfold PySem.Builtin.List.listAllItems
  refine wpAny_bind (wpAny_typeOf hl2.typeIs ?_)
  rw [if_pos (by decide)]
  refine listItems_at hD ?_
  refine wpAny_bind (m := PySem.Builtin.List.listItems (.ref l)) (listItems_at ho ?_)
  refine wpAny_bind (wpAny_of_eq (sliceIndices_raw none none none xs.size (by simp)) ?_)
  have e1 : sliceBounds none none none xs.size = (0, (xs.size : Int), 1) := by simp [sliceBounds]
  rw [e1]
  dsimp only
  rw [if_pos (by decide)]
  refine wpAny_bind (wpAny_rule ?_)
  have e2 : PySem.Builtin.List.listTooLong (xs.size + ys.size) = false := by
    unfold PySem.Builtin.List.listTooLong
    exact decide_eq_false (by omega)
  rw [e2]
  rw [if_neg Bool.false_ne_true]
  refine wpAny_bind (m := PySem.Builtin.List.listUpdate (.ref l) _) ?_
  show wpAny _ _ (updateSeq l _) _ _ s
  refine wpAny_updateSeq ho rfl ?_ (by omega) ?_
  · refine wpAny_bind (wpAny_letGo (wpAny_pure ⟨.none, rfl, wpAny_pure ?_⟩))
    have e3 : Obj.mapSeq (fun x => x.extract 0 (0 : Int).toNat ++ ys ++ x.extract (max (0 : Int) (xs.size : Int)).toNat) { cls := .type "list", data := .seq xs n } = { cls := .type "list", data := .seq ys (if ys.size == xs.size then n else n + 1) } := by
      unfold Obj.mapSeq
      simp
    refine h _ (if ys.size == xs.size then n else n + 1) (Heap.SameBut.update ..) ?_
    rw [Heap.get?_update_self _ ho]
    · exact congrArg some e3
    · rw [e3]; rfl
  · simp; omega
theorem setSlice_pick {h₀ : Heap} {L l sl D : Addr} {m : PySem.Str → Option Value} {news : LLed} {xs ys : Array Value} {n k : Nat} {Q : Unit → Shared → Prop} (keep : LLed)
    (F : Fr h₀ L s.heap m) (N : News h₀ L s.heap news) (hm : (l, W.listOf xs n) ∈ news) (hD : (D, W.listOf ys k) ∈ news) (hne : l ≠ D) (hs : s.heap.IsSliceOf sl .none .none .none) (hk : ∀ p ∈ keep, p ∈ news ∧ p.1 ≠ l) (hz : xs.size + ys.size ≤ sizeLine)
    (h : ∀ h' n', Fr h₀ L h' m → News h₀ L h' ((l, W.listOf ys n') :: keep) → Q () { s with heap := h' }) : wpAny (model prog w) A (setItem (.ref l) (.ref sl) (.ref D)) Q E s := by
  have z := N _ hm
  refine setSlice_at z.1 hs (N _ hD).1 hne hz fun h' n' hsb hl' => h h' n' (F.change hsb z.2.1 z.2.2) fun p hp => ?_
  (first | (revert p; refine all_cons ?_ (fun p hp => ?_)) | rcases List.mem_cons.mp hp with rfl | hp)
  · exact ⟨hl', z.2⟩
  · have y := N p (hk p hp).1
    exact ⟨(hsb.2 _ (hk p hp).2).trans y.1, y.2⟩
end
end
section
open PySem PySem.W PyProof.Rows PySem.Calls PySem.Spec
theorem HL.snoc {news : LLed} {ys : List Value} {xs : List (PySem.Str × PySem.Str)} {p : PySem.Str × PySem.Str} {a : Addr} {t u : Tok} (hm : (a, tup2 (.str p.1 t) (.str p.2 u)) ∈ news) : HL news ys xs → HL news (ys ++ [.ref a]) (xs ++ [p]) := by
  induction ys generalizing xs with
  | nil => cases xs with
    | nil => intro _; exact ⟨⟨a, t, u, rfl, hm⟩, trivial⟩
    | cons => intro h; exact h.elim
  | cons y ys ih => cases xs with
    | nil => intro h; exact h.elim
    | cons x' xs => intro h; exact ⟨h.1, ih h.2⟩
def rid (name : PySem.Str) (ps : List (PySem.Str × PySem.Str)) : List (PySem.Str × PySem.Str) := ps.filter fun p => Txt.lower p.1 != name
theorem rid_snoc (name : PySem.Str) (ps : List (PySem.Str × PySem.Str)) (p : PySem.Str × PySem.Str) : rid name (ps ++ [p]) = if Txt.lower p.1 != name then rid name ps ++ [p] else rid name ps := by
  unfold rid
  rw [List.filter_append]
  by_cases h : (Txt.lower p.1 != name) = true
  · rw [if_pos h]; simp [h]
  · rw [if_neg h]; simp [h]
local macro_rules | `(tactic| walk_at "CompSrcT") => `(tactic| (k_dflt (refine LCt.CompSrcT.ledger (by rfl) (by k_asm) (by k_asm) (by k_mem) ?hz ?_; (case hz => (rw [sizeLine_eq]; simp; omega)); intro g9)))
theorem del_c (w : World) (rest : LLed) (px pd ah : Addr) (vs : List Value) (n : Nat) (kt : Tok) (name : PySem.Str) (t : Tok) (hn : Plain (Txt.lower name)) (zn : (Txt.lower name).length ≤ 1000) (zm : name.length ≤ 1000) (hs : vs.length ≤ 1000)
   (ps : List (PySem.Str × PySem.Str)) (hl : HL rest vs ps) (hpz : ∀ p ∈ ps, p.1.length ≤ 10) (h1 : px ≠ ah) (h2 : pd ≠ ah) (hr : ∀ p ∈ rest, p.1 ≠ ah) :
    Ctr w 202 [.ref px, .str name t] [] 5 ((px, instObj 282 pd) :: (pd, hdict w kt ah) :: (ah, W.listOf vs.toArray n) :: rest)
     fun N Q => ∀ vs' n' h' tk', HL rest vs' (rid (Txt.lower name) ps) → N h' ((px, instObj 282 pd) :: (pd, hdict w kt ah) :: (ah, W.listOf vs'.toArray n') :: rest) → Q .none h' tk' := by
  unfold Ctr
  have hdummy : PySem.Challenge.rw_wo0075_01 = PySem.Challenge.rw_wo0075_01 ∧ hd.heap_39 w.params = hd.heap_39 w.params := by k_fill; exact ⟨rfl, rfl⟩
  clear hdummy
  intro loose mean mg mb dp un gd cn cs a ccd cl outer A₀ base h₀ L m s Q E hB hF hX hN hT hk hdp hun hret
  rcases cs with ⟨ki, na, g1, g2, mo⟩
  dsimp only at hk
  subst hk
  walk1
  rename (_ ∧ _ ∧ _ ∧ AllLt _ rest) => lA
  have lB := allLt_ne1 lA.2.2.2
  repeat' (first | ((first | ((with_reducible show wpAny _ _ (callWith _ _ _ _ _) _ _ _); (k_dflt (refine' callWith_KW ?k1y2 ?k2y2 ?k3y2 ?_ ?k4y2 ?k5y2; (case k1y2 => k_in); (case k2y2 => k_is); (case k3y2 => kernel_rfl); (case k4y2 => kernel_rfl); (case k5y2 => kernel_rfl); k_whole))) | ((with_reducible show wpAny _ _ (call (Value.ref 183) _ _) _ _ _); k_dflt (refine' Ctr.use (conv_c _ _ _ _ _ _ ?vy3 ?zy3) ?k1y3 ?k2y3 ?k3y3 ?k4y3 ?k5y3 ?kKy3 ?kdy3 ?kuy3 ?_; (case vy3 => first | k_asm | (unfold Plain; decide)); (case zy3 => first | k_asm | decide | (size_fits)); (case k1y3 => k_asm); (case k2y3 => k_asm); (case k3y3 => k_asm); (case k4y3 => k_asm); (case k5y3 => k_asm); (case kKy3 => first | exact rfl | assumption); (case kdy3 => ((try dsimp +zetaDelta only); first | exact dm1 (by with_reducible assumption) rfl | ktr_room)); (case kuy3 => ((try dsimp +zetaDelta only); first | exact um1 (by with_reducible assumption) rfl | ktr_units)); (rintro _ _ ⟨_, _⟩; (try dsimp only); (try k_fold)))))) | walk_at "Y0")
  refine compT_inv (fun i ys => HL rest ys (rid (Txt.lower name) (ps.take i))) trivial (.inr ⟨_, by k_mem, rfl, _, rfl⟩) ?_ ?_
  · intro i ys v I oI C oC D m₂ h tk E' hi hI hv hC hx F9 N9 off
    have hv' : vs[i]? = some v := by simpa using hv
    obtain ⟨p, hp, a, t1, u1, rfl, hm⟩ := hl.get hv'
    have hpl := hpz p (List.mem_of_getElem? hp)
    repeat' (walk_at "Y0")
    all_goals (try (refine CEnd.mk _ _ rfl (by k_asm) (by k_asm) ?_))
    all_goals first
      | (k_dflt assumption)
      | (have e : ps.take (i + 1) = ps.take i ++ [p] := by (rw [List.take_add_one, hp]; rfl)
         rw [e, rid_snoc]
         first
         | (rw [if_pos (by assumption)]; exact HL.snoc hm hI)
         | (rw [if_neg (by simp_all)]; exact hI))
  · intro ys hys
    have e : ps.take vs.toArray.size = ps := List.take_of_length_le (by rw [List.size_toArray, hl.length]; exact Nat.le_refl _)
    rw [e] at hys
    repeat' (walk_at "Y0")
    rename_i D9 h9 tk9 F9 N9 o9
    have hlen : ys.length ≤ 1000 := by
      rw [hys.length]
      refine Nat.le_trans (List.length_filter_le _ _) ?_
      rw [← hl.length]; exact hs
    refine setSlice_pick ((px, instObj 282 pd) :: (pd, hdict w kt ah) :: rest) (F9.push { cls := .type "slice", data := .fields #[.none, .none, .none] }) (N9.grown fun b o e => Heap.get?_push_of_some _ e) (by k_mem) (by k_mem) ?_ (Heap.IsSliceOf.new ..) ?_ ?_ ?_
    · have := o9.2.2.2.1; exact this
    · intro p hp
      (first | (revert p; refine all_cons ?_ (fun p hp => ?_)) | rcases List.mem_cons.mp hp with rfl | hp)
      · exact ⟨by k_mem, h1⟩
      (first | (revert p; refine all_cons ?_ (fun p hp => ?_)) | rcases List.mem_cons.mp hp with rfl | hp)
      · exact ⟨by k_mem, h2⟩
      · exact ⟨by repeat (first | exact hp | refine List.mem_cons_of_mem _ ?_), hr p hp⟩
    · rw [sizeLine_eq]; simp; omega
    · intro h' n' F10 N10
      dsimp only
      repeat' (walk_at "Y0")
      exact hret ys n' _ _ hys ⟨by k_asm, by (rename News h₀ L _ _ => kN9; exact fun p hp => kN9 p (by
        (first | (revert p; refine all_cons ?_ (fun p hp => ?_)) | rcases List.mem_cons.mp hp with rfl | hp)
        · k_mem
        (first | (revert p; refine all_cons ?_ (fun p hp => ?_)) | rcases List.mem_cons.mp hp with rfl | hp)
        · k_mem
        (first | (revert p; refine all_cons ?_ (fun p hp => ?_)) | rcases List.mem_cons.mp hp with rfl | hp)
        · k_mem
        · repeat (first | exact hp | refine List.mem_cons_of_mem _ ?_)))⟩
end
section
open PySem PySem.W PyProof.Rows PySem.Calls PySem.Spec
theorem my_delItem {M : Model} {A : Around} {E : Value → Shared → Prop} {s : Shared} {K : Frag} {x C L f : Addr} {h₀ : Heap} {m : PySem.Str → Option Value} {ox : Obj} {od : Option Obj} {i : Value} {Q : Unit → Shared → Prop} (F : Fr h₀ L s.heap m) (X₀ : K.In h₀) (I : InstAt s.heap x ox C od) (hq : noSeq K C = true) (hs : findIn K (.ref C) "__delitem__" = some (some (.ref f))) (hf : isFn K (.ref f) = true)
    (h : wpAny M A (call (.ref f) [.ref x, i]) (fun _ s' => Q () s') E s) : wpAny M A (delItem (.ref x) i) Q E s := by
  have X := X₀.keeps F.keep
  unfold delItem sequenceKey
  refine wpAny_holding (wpAny_bind (wpAny_bind (I.type.here ?_)))
  refine wpAny_bind ((anyM_none X hq).here ?_)
  rw [if_pos (show (!false) = true from rfl)]
  exact wpAny_pure (wpAny_bind (special_fn X I hs (beq_iff_eq.mp hf) (wpAny_mono h (fun _ _ z => wpAny_pure z) fun _ _ z => z)))
end
section
open PySem PySem.W PyProof.Rows PySem.Calls PySem.Spec
theorem HL.mono {news news' : LLed} (hs : ∀ p ∈ news, p ∈ news') : ∀ {vs : List Value} {ps : List (PySem.Str × PySem.Str)}, HL news vs ps → HL news' vs ps
  | [], [], _ => trivial
  | [], _ :: _, h => h.elim
  | _ :: _, [], h => h.elim
  | _ :: _, _ :: _, ⟨⟨a, t, u, e, hm⟩, h⟩ => ⟨⟨a, t, u, e, hs _ hm⟩, h.mono hs⟩
theorem push_list (vs : List Value) (v : Value) : vs.toArray.push v = (vs ++ [v]).toArray := by simp
theorem set_c (w : World) (rest : LLed) (px pd ah : Addr) (vs : List Value) (n : Nat) (kt : Tok) (name val : PySem.Str) (t u : Tok) (hn : Plain (Txt.lower name)) (zn : (Txt.lower name).length ≤ 1000) (zm : name.length ≤ 1000) (hpn : Plain name) (hpv : Plain val) (zv : val.length ≤ 1000) (hs : vs.length ≤ 1000)
   (ps : List (PySem.Str × PySem.Str)) (hl : HL rest vs ps) (hpz : ∀ p ∈ ps, p.1.length ≤ 10) (h1 : px ≠ ah) (h2 : pd ≠ ah) (hr : ∀ p ∈ rest, p.1 ≠ ah) :
    Ctr w 197 [.ref px, .str name t, .str val u] [] 8 ((px, instObj 282 pd) :: (pd, hdict w kt ah) :: (ah, W.listOf vs.toArray n) :: rest)
     fun N Q => ∀ a t' u' vs' n' h' tk', HL ((a, tup2 (.str name t') (.str val u')) :: rest) vs' (rid (Txt.lower name) ps ++ [(name, val)]) → N h' ((px, instObj 282 pd) :: (pd, hdict w kt ah) :: (ah, W.listOf vs'.toArray n') :: (a, tup2 (.str name t') (.str val u')) :: rest) → a ≠ ah → Q .none h' tk' := by
  unfold Ctr
  have hdummy : PySem.Challenge.rw_wo0075_01 = PySem.Challenge.rw_wo0075_01 ∧ hd.heap_39 w.params = hd.heap_39 w.params := by k_fill; exact ⟨rfl, rfl⟩
  clear hdummy
  intro loose mean mg mb dp un gd cn cs a ccd cl outer A₀ base h₀ L m s Q E hB hF hX hN hT hk hdp hun hret
  rcases cs with ⟨ki, na, g1, g2, mo⟩
  dsimp only at hk
  subst hk
  (try walk_at "fe")
  repeat' (first | ((first | ((with_reducible show wpAny _ _ (call (Value.ref 202) _ _) _ _ _); k_dflt (refine' Ctr.use (del_c _ _ _ _ _ _ _ _ _ _ ?d1y1 ?d2y1 ?d3y1 ?d4y1 _ ?d5y1 ?d6y1 ?d7y1 ?d8y1 ?d9y1) ?k1y1 ?k2y1 ?k3y1 ?k4y1 ?k5y1 ?kKy1 ?kdy1 ?kuy1 ?_; (case k1y1 => k_asm); (case k2y1 => k_asm); (case k3y1 => k_asm); (case k4y1 => k_asm); (case k5y1 => k_asm); (case kKy1 => first | exact rfl | assumption); (case kdy1 => ((try dsimp +zetaDelta only); first | exact dm1 (by with_reducible assumption) rfl | ktr_room)); (case kuy1 => ((try dsimp +zetaDelta only); first | exact um1 (by with_reducible assumption) rfl | ktr_units)); (case d5y1 => k_asm); (case d1y1 => k_asm); (case d2y1 => k_asm); (case d3y1 => k_asm); (case d4y1 => k_asm); (case d6y1 => k_asm); (case d7y1 => k_asm); (case d8y1 => k_asm); (case d9y1 => k_asm); (rintro _ _ _ _ _ ⟨_, _⟩; (try dsimp only); (try k_fold)))) | (k_here; (with_reducible show wpAny _ _ (delItem (Value.ref _) _) _ _ _); k_dflt (refine' my_delItem ?Fy2 ?Xy2 ?Iy2 ?hQy2 ?hSy2 ?hFy2 ?_; (case Fy2 => k_asm); (case Xy2 => k_asm); (case Iy2 => k_inst); (case hSy2 => k_is); (case hFy2 => k_is); (case hQy2 => k_is); k_whole)) | ((with_reducible show wpAny _ _ (callWith _ _ _ _ _) _ _ _); (k_dflt (refine' callWith_KW ?k1y4 ?k2y4 ?k3y4 ?_ ?k4y4 ?k5y4; (case k1y4 => k_in); (case k2y4 => k_is); (case k3y4 => kernel_rfl); (case k4y4 => kernel_rfl); (case k5y4 => kernel_rfl); k_whole))) | ((with_reducible show wpAny _ _ (call (Value.ref 183) _ _) _ _ _); k_dflt (refine' Ctr.use (conv_c _ _ _ _ _ _ ?vy5 ?zy5) ?k1y5 ?k2y5 ?k3y5 ?k4y5 ?k5y5 ?kKy5 ?kdy5 ?kuy5 ?_; (case vy5 => first | k_asm | (unfold Plain; decide)); (case zy5 => first | k_asm | decide | (size_fits)); (case k1y5 => k_asm); (case k2y5 => k_asm); (case k3y5 => k_asm); (case k4y5 => k_asm); (case k5y5 => k_asm); (case kKy5 => first | exact rfl | assumption); (case kdy5 => ((try dsimp +zetaDelta only); first | exact dm1 (by with_reducible assumption) rfl | ktr_room)); (case kuy5 => ((try dsimp +zetaDelta only); first | exact um1 (by with_reducible assumption) rfl | ktr_units)); (rintro _ _ ⟨_, _⟩; (try dsimp only); (try k_fold))))); all_goals (try walk_at "fq")) | walk_at "Y")
  rename_i D9 h9 F9 N9 l9
  rename HL rest _ (rid _ _) => hl9
  have hlen : (rid (Txt.lower name) ps).length ≤ 1000 := by
    refine Nat.le_trans (List.length_filter_le _ _) ?_
    rw [← hl.length]; exact hs
  rw [← hl9.length] at hlen
  refine append_pick ((px, instObj 282 pd) :: (pd, hdict w kt ah) :: (D9, tup2 (.str name t) (.str val u)) :: rest) F9 N9 (by k_mem) ?_ ?_ ?_
  · intro p hp
    (first | (revert p; refine all_cons ?_ (fun p hp => ?_)) | rcases List.mem_cons.mp hp with rfl | hp)
    · exact ⟨by k_mem, h1⟩
    (first | (revert p; refine all_cons ?_ (fun p hp => ?_)) | rcases List.mem_cons.mp hp with rfl | hp)
    · exact ⟨by k_mem, h2⟩
    (first | (revert p; refine all_cons ?_ (fun p hp => ?_)) | rcases List.mem_cons.mp hp with rfl | hp)
    · exact ⟨by k_mem, neN (by have := l9; dsimp only; omega)⟩
    · exact ⟨by repeat (first | exact hp | refine List.mem_cons_of_mem _ ?_), hr p hp⟩
  · rw [sizeLine_eq]; simp; omega
  · intro h' F' N'
    dsimp only
    repeat' (walk_at "Y")
    rename News h₀ L _ ((ah, _) :: _) => kN9
    rw [push_list] at kN9
    obtain ⟨n9, kN9⟩ : ∃ n9, News h₀ L h' ((ah, W.listOf _ n9) :: _) := ⟨_, kN9⟩
    refine hret D9 t u _ n9 _ _ (HL.snoc (List.mem_cons_self ..) (hl9.mono fun p hp => List.mem_cons_of_mem _ hp)) ⟨by k_asm, fun p hp => kN9 p ?_⟩ (neN (by have := l9; omega))
    (first | (revert p; refine all_cons ?_ (fun p hp => ?_)) | rcases List.mem_cons.mp hp with rfl | hp)
    · k_mem
    (first | (revert p; refine all_cons ?_ (fun p hp => ?_)) | rcases List.mem_cons.mp hp with rfl | hp)
    · k_mem
    (first | (revert p; refine all_cons ?_ (fun p hp => ?_)) | rcases List.mem_cons.mp hp with rfl | hp)
    · k_mem
    · repeat (first | exact hp | refine List.mem_cons_of_mem _ ?_)
end
section
open PySem PySem.W PyProof.Rows PySem.Calls PySem.Spec
def prs (ps : List (PySem.Str × PySem.Str)) : List PyData := ps.map fun p => .tuple [.str p.1, .str p.2]
def AllPl (ps : List (PySem.Str × PySem.Str)) : Prop := ∀ p ∈ ps, Plain p.1 ∧ Plain p.2
theorem plain_ok {x : PySem.Str} (h : Plain x) : PyData.strOk x = true := by
  unfold PyData.strOk
  rw [← Array.all_toList]
  refine List.all_eq_true.mpr fun c hc => ?_
  have := h c hc
  exact decide_eq_true (by omega)
theorem HL.reads {h₀ h : Heap} {L : Addr} {news : LLed} (N : News h₀ L h news) : ∀ {vs : List Value} {ps : List (PySem.Str × PySem.Str)}, HL news vs ps → ∃ as, ReadsAll h vs (prs ps) as
  | [], [], _ => ⟨_, ReadsAll.nil⟩
  | [], _ :: _, h => h.elim
  | _ :: _, [], h => h.elim
  | _ :: vs, p :: ps, ⟨⟨a, t, u, e, hm⟩, hr⟩ => by
    obtain ⟨bs, q⟩ := HL.reads N hr
    subst e
    exact ⟨_, ReadsAll.cons (reads_tuple_at (N.get hm) rfl rfl (ReadsAll.cons (Reads.str _ _) (ReadsAll.cons (Reads.str _ _) ReadsAll.nil))) q⟩
theorem prs_lay : ∀ {ps : List (PySem.Str × PySem.Str)}, AllPl ps → PyData.canLayAll0 (prs ps) = true ∧ PyData.depthAll (prs ps) ≤ 1
  | [], _ => by simp [prs, PyData.canLayAll0, PyData.depthAll]
  | p :: ps, h => by
    have h1 := h p (.head _)
    have ih := prs_lay (ps := ps) fun q hq => h q (.tail _ hq)
    have e1 := plain_ok h1.1
    have e2 := plain_ok h1.2
    unfold prs at ih ⊢
    simp only [List.map_cons, PyData.canLayAll0, PyData.depthAll, PyData.canLay0, PyData.depth, e1, e2, ih.1, Bool.and_self, true_and]
    have := ih.2
    omega
theorem prs_shaped {ps : List (PySem.Str × PySem.Str)} (h : AllPl ps) : PySem.SeqAt.shaped (.list (prs ps)) = true := by
  obtain ⟨a, b⟩ := prs_lay h
  unfold PySem.SeqAt.shaped
  simp only [PyData.canLay0, PyData.depth, a, Bool.true_and]
  exact decide_eq_true (by omega)
theorem prs_eqv : ∀ ps qs : List (PySem.Str × PySem.Str), PyData.eqvAll (prs ps) (prs qs) = decide (ps = qs)
  | [], [] => by simp [prs, PyData.eqvAll]
  | [], _ :: _ => by simp [prs, PyData.eqvAll]
  | _ :: _, [] => by simp [prs, PyData.eqvAll]
  | (a, b) :: ps, (c, d) :: qs => by
    have ih := prs_eqv ps qs
    unfold prs at ih ⊢
    simp only [List.map_cons, PyData.eqvAll, PyData.eqv, ih]
    by_cases h1 : a = c <;> by_cases h2 : b = d <;> by_cases h3 : ps = qs <;> simp [h1, h2, h3]
section
variable {prog : Program} {w : World} {A : Around} {E Q : Value → Shared → Prop} {s : Shared} {h₀ : Heap} {L a b : Addr} {news : LLed} {vs ws : List Value} {n k : Nat} {ps qs : List (PySem.Str × PySem.Str)}
theorem hl_eq (N : News h₀ L s.heap news) (ma : (a, W.listOf vs.toArray n) ∈ news) (mb : (b, W.listOf ws.toArray k) ∈ news) (ha : HL news vs ps) (hb : HL news ws qs) (pa : AllPl ps) (pb : AllPl qs) (hu : A.units + 64 < cLine)
    (h : Q (.bool (decide (ps = qs))) s) : wpAny (model prog w) A (compareOp .Eq (.ref a) (.ref b)) Q E s := by
  obtain ⟨as, ra⟩ := HL.reads N ha
  obtain ⟨bs, rb⟩ := HL.reads N hb
  refine eq_dataH (reads_list_at (N.get ma) rfl rfl (by simpa [W.listOf] using ra)) (reads_list_at (N.get mb) rfl rfl (by simpa [W.listOf] using rb)) (prs_shaped pa) (prs_shaped pb) hu ?_
  rw [show PyData.eqv (.list (prs ps)) (.list (prs qs)) = PyData.eqvAll (prs ps) (prs qs) from by simp [PyData.eqv], prs_eqv]
  exact h
theorem hl_ne (N : News h₀ L s.heap news) (ma : (a, W.listOf vs.toArray n) ∈ news) (mb : (b, W.listOf ws.toArray k) ∈ news) (ha : HL news vs ps) (hb : HL news ws qs) (pa : AllPl ps) (pb : AllPl qs) (hu : A.units + 64 < cLine)
    (h : Q (.bool (!decide (ps = qs))) s) : wpAny (model prog w) A (compareOp .NotEq (.ref a) (.ref b)) Q E s := by
  obtain ⟨as, ra⟩ := HL.reads N ha
  obtain ⟨bs, rb⟩ := HL.reads N hb
  refine ne_dataH (reads_list_at (N.get ma) rfl rfl (by simpa [W.listOf] using ra)) (reads_list_at (N.get mb) rfl rfl (by simpa [W.listOf] using rb)) (prs_shaped pa) (prs_shaped pb) hu ?_
  rw [show PyData.eqv (.list (prs ps)) (.list (prs qs)) = PyData.eqvAll (prs ps) (prs qs) from by simp [PyData.eqv], prs_eqv]
  exact h
end
end
section
open PySem PySem.W PyProof.Rows PySem.Calls PySem.Spec
section
variable {prog : Program} {w : World} {A : Around} {E : Value → Shared → Prop} {s : Shared} {h₀ : Heap} {L : Addr} {m : PySem.Str → Option Value} {env : Env}
def CompTup (prog : Program) (w : World) (A : Around) (h₀ : Heap) (L : Addr) (m : PySem.Str → Option Value) (env : Env) (elt : PySem.Expr) (x : PySem.Str) (scope : Scope) (cl : List (PySem.Str × Addr)) (Q : Value → Shared → Prop) (xv : Value) (s₁ : Shared) : Prop :=
  ∃ ax its n news, xv = .ref ax ∧ A.handled = none ∧ Fr h₀ L s₁.heap m ∧ News h₀ L s₁.heap news ∧ (ax, ({ cls := .type "tuple", data := .seq its n } : Obj)) ∈ news ∧ its.size ≤ sizeLine ∧
    ∀ s₂ : Shared, (∃ h, s₂ = { s₁ with heap := h }) → LCg.CompRest prog w A h₀ L m env elt x scope cl s₂ (fun nw => (ax, ({ cls := .type "tuple", data := .seq its n } : Obj)) ∈ nw) (fun i v => its[i]? = some v) (LCg.FinE h₀ L m s₂ Q) its.size 0 [] news
theorem listcomp_tup {elt iter : PySem.Expr} {x : PySem.Str} {px : Pos} {scope : Scope} {cl : List (PySem.Str × Addr)} {pos : Pos} {Q : Value → Shared → Prop} (F₀ : Fr h₀ L s.heap m)
    (hclos : closureFor scope env = pure cl) (hcell : ∀ y ∈ scope.names, y.2 ≠ .cell) (hkind : scope.kind = .function)
    (hnames : ∀ y ∈ scope.names, y.2 = .local → scope.names.lookup y.1 = some .local) (hx : scope.names.lookup x = some .local)
    (h : wpAny (model prog w) A (eval iter env) (CompTup prog w A h₀ L m env elt x scope cl Q) E s)
    (hs : ∀ x, foldedSetIterable iter env x = pure x := by intro _; rfl) :
    wpAny (model prog w) A (eval (.ListComp elt [⟨.Name x px, iter, [], 0⟩] scope pos) env) Q E s := by
  rw [eval_ListComp]
  refine wpAny_comprehension_free (use := none) rfl hs hclos hkind hnames (wpAny_mono h (fun xv s₁ h₁ => ?_) fun _ _ e => e)
  obtain ⟨ax, its, n, news, rfl, hh, F, N, S, hsz, R⟩ := h₁
  have hl : s₁.heap.IsTuple ax its := ⟨_, (N _ S).1, rfl, n, rfl⟩
  have hlt : ax < s₁.heap.objs.size := Heap.lt_size (N _ S).1
  refine wpAny_pyIter_tuple hl ?_
  have up : ∀ b o, s₁.heap.get? b = some o → (s₁.heap.push { cls := .type "tuple_iterator", data := .fields #[.ref ax, .int 0 0] }).get? b = some o := fun b o e => Heap.get?_push_of_some _ e
  refine LCg.block_U (S := fun nw => (ax, ({ cls := .type "tuple", data := .seq its n } : Obj)) ∈ nw) (Walks.tuple hh s₁.heap.objs.size ax (Nat.ne_of_lt hlt) its) hsz (fun i h st => by obtain ⟨o, e, _⟩ := st.1; exact ⟨o, e⟩) (fun i h h' o nw st e e' k N S => ?_) hcell hkind hx ⟨⟨_, Heap.get?_push_size _ rfl, rfl, rfl⟩, hl.push _⟩ (fun b hb => ?_)
    (F.keeps up) (N.grown up) (Nat.ne_of_lt F.ns.lt) (next_is_new F) (fun p hp => Nat.ne_of_lt (Heap.lt_size (N p hp).1)) S (R _ ⟨_, rfl⟩) ?_
  · exact ⟨by obtain ⟨o', q, r⟩ := st.1; rw [e] at q; cases q; exact ⟨o, e', r⟩, ⟨_, (N _ S).1, rfl, n, rfl⟩⟩
  · show b < (s₁.heap.push _).objs.size
    rw [Heap.size_push]
    rcases List.mem_cons.mp hb with rfl | hb
    · exact Nat.lt_succ_self _
    · rw [List.mem_singleton.mp hb]; exact Nat.lt_succ_of_lt hlt
  · intro D C h tk m' ys news' F' N' o1 hn hC₀ hD₀ hCL hDL hCD offC fin
    refine ⟨m', hn, fun h'' hs'' => fin D h'' tk (F'.change hs'' hCL hC₀) (fun p hp => ?_) o1⟩
    refine ⟨hs''.extBut _ _ ?_ (N' p hp).1, (N' p hp).2⟩
    (first | (revert p; refine all_cons ?_ (fun p hp => ?_)) | rcases List.mem_cons.mp hp with rfl | hp)
    · exact Ne.symm hCD
    · exact offC p hp
end
end
section
open PySem PySem.W PyProof.Rows PySem.Calls PySem.Spec
section
variable {prog : Program} {w : World} {A : Around} {E : Value → Shared → Prop} {s : Shared} {h₀ : Heap} {L : Addr} {m : PySem.Str → Option Value} {env : Env}
abbrev cellO : Obj := { cls := .type "cell", data := .cell none }
abbrev dictO : Obj := { cls := .type "dict", data := .dict #[] }
theorem newEnv_cell {M : Model} {scope : Scope} {globals : Addr} {cl : List (PySem.Str × Addr)} {qual : PySem.Str} {outer : Env} {x : PySem.Str} {Q : Env → Shared → Prop} (hcs : ∀ n, cellsFrom n scope.names cl = (x, n) :: cl) (hps : ∀ h, pushCells h scope.names = h.push cellO)
    (h : Q { scope := scope, locals := s.heap.objs.size, globals := globals, cells := (x, s.heap.objs.size + 1) :: cl, qual := qual, func := none, code := outer.code, frame := outer.frame, builtins := outer.builtins } { s with heap := (s.heap.push dictO).push cellO }) :
    wpAny M A (newFunctionEnv scope globals cl [] qual none .none (some outer)) Q E s := by
  simp only [newFunctionEnv, Option.isSome_some, if_true]
  refine wpAny_bind (wpAny_alloc ?_)
  refine wpAny_bind (wpAny_layCells _ (fun name kind cells => by cases hkc : kind == NameKind.cell <;> simp [hkc]) _ _ _ _ ?_)
  rw [show ({ s with heap := s.heap.push dictO } : Shared).heap.objs.size = s.heap.objs.size + 1 from Heap.size_push .., hcs, hps]
  rw [List.forIn_nil]
  exact wpAny_bind (wpAny_pure (wpAny_pure h))
def CellElt (prog : Program) (w : World) (A : Around) (h₀ : Heap) (L : Addr) (m : PySem.Str → Option Value) (env : Env) (elt : PySem.Expr) (x : PySem.Str) (scope : Scope) (cl : List (PySem.Str × Addr)) (s : Shared) (its : Array Value) (news : LLed) (J : Nat → List Value → Prop) : Prop :=
  ∀ (i : Nat) (v : Value) (ys : List Value) (X : Addr) (oX : Obj) (I : Addr) (oI : Obj) (C : Addr) (oC : Obj) (D : Addr) (h : Heap) (tk : Nat) (E' : Value → Shared → Prop), its[i]? = some v → J i ys → oX.data = .cell (some v) → Fr h₀ L h m → News h₀ L h ((X, oX) :: (I, oI) :: (C, oC) :: (D, LCg.lst ys) :: news) →
    wpAny (model prog w) A (eval elt (compEnvC scope ((x, X) :: cl) C env)) (fun y s₂ => CEnd h₀ L m ((X, oX) :: (I, oI) :: (C, oC) :: (D, LCg.lst ys) :: news) s s₂ (J (i + 1) (ys ++ [y]))) E' { s with heap := h, toks := tk }
def CellEnd (h₀ : Heap) (L : Addr) (m : PySem.Str → Option Value) (y : PySem.Str) (its : Array Value) (news : LLed) (J : Nat → List Value → Prop) (s₁ : Shared) (Q : Flow → Shared → Prop) : Prop :=
  ∀ ys D h' tk', J its.size ys → Fr h₀ L h' (fun z => if z = y then some (.ref D) else m z) → News h₀ L h' ((D, LCg.lst ys) :: news) → (∀ p ∈ news, @LT.lt Nat instLTNat p.1 D) → Q .next { s₁ with heap := h', toks := tk' }
def CellSrc (prog : Program) (w : World) (A : Around) (h₀ : Heap) (L : Addr) (m : PySem.Str → Option Value) (env : Env) (elt : PySem.Expr) (x y : PySem.Str) (scope : Scope) (cl : List (PySem.Str × Addr)) (J : Nat → List Value → Prop) (Q : Flow → Shared → Prop) (xv : Value) (s₁ : Shared) : Prop :=
  ∃ ax its n news, xv = .ref ax ∧ A.handled = none ∧ Fr h₀ L s₁.heap m ∧ News h₀ L s₁.heap news ∧ (ax, ({ cls := .type "list", data := .seq its n } : Obj)) ∈ news ∧ its.size ≤ sizeLine ∧ CellElt prog w A h₀ L m env elt x scope cl s₁ its news J ∧ CellEnd h₀ L m y its news J s₁ Q
theorem CellSrc.intro {elt : PySem.Expr} {x y : PySem.Str} {scope : Scope} {cl : List (PySem.Str × Addr)} {J : Nat → List Value → Prop} {Q : Flow → Shared → Prop} {s₁ : Shared} {ax : Addr} {its : Array Value} {n : Nat} {news : LLed} (hh : A.handled = none) (F : Fr h₀ L s₁.heap m) (N : News h₀ L s₁.heap news)
    (hm : (ax, ({ cls := .type "list", data := .seq its n } : Obj)) ∈ news) (hz : its.size ≤ sizeLine) (he : CellElt prog w A h₀ L m env elt x scope cl s₁ its news J) (hf : CellEnd h₀ L m y its news J s₁ Q) : CellSrc prog w A h₀ L m env elt x y scope cl J Q (.ref ax) s₁ := ⟨ax, its, n, news, rfl, hh, F, N, hm, hz, he, hf⟩
inductive CellSt (h₀ : Heap) (L ax I : Addr) (its : Array Value) (m : PySem.Str → Option Value) (news : LLed) (J : Nat → List Value → Prop) (s₁ : Shared) (k : Nat) (s' : Shared) : Prop
  | mk (h' : Heap) (tk i : Nat) (ys : List Value) (vX : Option Value) (m' : PySem.Str → Option Value) (e : s' = { s₁ with heap := h', toks := tk }) (hi : i ≤ its.size) (hk : k = its.size + 1 - i) (hl : ys.length = i) (hst : h'.IsListIter I ax i ∧ h'.IsList ax its) (F : Fr h₀ L h' m) (hn : h'.Ns (I + 2) m') (hX : h'.IsCell (I + 2 + 1) vX) (N : News h₀ L h' ((I + 1, LCg.lst ys) :: news)) (j : J i ys)
theorem assign_listcomp_cell {elt iter : PySem.Expr} {x y : PySem.Str} {px py : Pos} {scope : Scope} {cl : List (PySem.Str × Addr)} {pos spos : Pos} {Q : Flow → Shared → Prop} (J : Nat → List Value → Prop) (F₀ : Fr h₀ L s.heap m) (hLe : env.locals = L)
    (hsw : swapsWith (.ListComp elt [⟨.Name x px, iter, [], 0⟩] scope pos) (some (.Name y py)) spos.line env = pure true)
    (hclos : closureFor scope env = pure cl) (hcs : ∀ n, cellsFrom n scope.names cl = (x, n) :: cl) (hps : ∀ h, pushCells h scope.names = h.push cellO) (hkind : scope.kind = .function)
    (hnames : ∀ y ∈ scope.names, y.2 = .local → scope.names.lookup y.1 = some .local) (hx : (relabel scope env).names.lookup x = some .cell) (hy : env.kindOf y = some .local) (hp : (env.scope.kind == .class || (env.scope.kind == .module && env.locals != env.globals)) = false) (hJ : J 0 [])
    (h : wpAny (model prog w) A (eval iter env) (CellSrc prog w A h₀ L m env elt x y scope cl J Q) E s)
    (hs : ∀ x, foldedSetIterable iter env x = pure x := by intro _; rfl) :
    wpAny (model prog w) A (exec (.Assign [.Name y py] (.ListComp elt [⟨.Name x px, iter, [], 0⟩] scope pos) spos) env) Q E s := by
  subst hLe
  rw [exec_Assign_Name_used _ _ _ _ hsw]
  refine wpAny_bind (wpAny_standAt (wpAny_bind ?_))
  show wpAny _ A (do let _ ← comprehension (.ListComp elt [⟨.Name x px, iter, [], 0⟩] scope pos) scope env _ (newList []) false (eval iter env) (some (assign (.Name y py) env))) _ _ s
  refine wpAny_bind (wpAny_mono (wpAny_comprehension_free (use := some (assign (.Name y py) env)) (Q := fun _ s' => Q .next s') rfl hs hclos hkind hnames
    (wpAny_mono h (fun xv s₁ h₁ => ?_) fun _ _ e => e)) (fun _ s' hq => wpAny_pure (wpAny_pure hq)) fun _ _ e => e)
  obtain ⟨ax, its, n, news, rfl, hh, F, N, hmx, hsz, helt, hfin⟩ := h₁
  have hl : s₁.heap.IsList ax its := ⟨_, (N _ hmx).1, rfl, n, rfl⟩
  have hlt : ax < s₁.heap.objs.size := Heap.lt_size (N _ hmx).1
  refine wpAny_pyIter_list hl ?_
  have fresh : ∀ a, s₁.heap.objs.size ≤ a → h₀.get? a = none := fun a ha => by
    cases e : h₀.get? a with
    | none => rfl
    | some o' => exact absurd (Heap.lt_size (F.keep a o' e)) (Nat.not_lt.mpr ha)
  have hLlt : env.locals < s₁.heap.objs.size := F.ns.lt
  have W := Walks.list (prog := prog) (w := w) hh s₁.heap.objs.size ax (Nat.ne_of_lt hlt) its
  refine wpAny_newObj_type (newEnv_cell hcs hps ?_)
  dsimp only
  generalize hH1 : s₁.heap.push { cls := .type "list_iterator", data := .fields #[.ref ax, .int 0 0] } = H1
  generalize hH2 : H1.push { cls := .type "list", dict := none, data := .seq ([] : List Value).toArray } = H2
  generalize hH3 : H2.push dictO = H3
  generalize hH4 : H3.push cellO = H4
  obtain ⟨I, hI⟩ : ∃ I, I = s₁.heap.objs.size := ⟨_, rfl⟩
  have z1 : H1.objs.size = I + 1 := by rw [← hH1, Heap.size_push, hI]
  have z2 : H2.objs.size = I + 2 := by rw [← hH2, Heap.size_push, z1]
  have z3 : H3.objs.size = I + 3 := by rw [← hH3, Heap.size_push, z2]
  rw [z2, z1]
  rw [← hI] at hlt hLlt fresh W ⊢
  have hltN : @LT.lt Nat instLTNat ax I := hlt
  have hLN : @LT.lt Nat instLTNat env.locals I := hLlt
  have u1 : ∀ b o, s₁.heap.get? b = some o → H1.get? b = some o := fun b o e => hH1 ▸ Heap.get?_push_of_some _ e
  have u2 : ∀ b o, H1.get? b = some o → H2.get? b = some o := fun b o e => hH2 ▸ Heap.get?_push_of_some _ e
  have u3 : ∀ b o, H2.get? b = some o → H3.get? b = some o := fun b o e => hH3 ▸ Heap.get?_push_of_some _ e
  have u4 : ∀ b o, H3.get? b = some o → H4.get? b = some o := fun b o e => hH4 ▸ Heap.get?_push_of_some _ e
  have up : ∀ b o, s₁.heap.get? b = some o → H4.get? b = some o := fun b o e => u4 _ _ (u3 _ _ (u2 _ _ (u1 _ _ e)))
  have eI : H4.get? I = some { cls := .type "list_iterator", data := .fields #[.ref ax, .int 0 0] } := u4 _ _ (u3 _ _ (u2 _ _ (by rw [← hH1, hI]; exact Heap.get?_push_size _ rfl)))
  have eD : H4.get? (I + 1) = some (LCg.lst []) := u4 _ _ (u3 _ _ (by rw [← hH2, ← z1]; exact Heap.get?_push_size _ rfl))
  have eC : H4.Ns (I + 2) (fun _ => none) := by
    have := (Heap.Ns.new H2 (.type "dict")).keeps (h' := H4) (fun b o e => u4 _ _ (hH3 ▸ e))
    rwa [z2] at this
  have eX : H4.IsCell (I + 2 + 1) none := ⟨cellO, by rw [← hH4, ← z3]; exact Heap.get?_push_size _ rfl, rfl⟩
  have low : ∀ p ∈ news, @LT.lt Nat instLTNat p.1 I := fun p hp => hI ▸ Heap.lt_size (N p hp).1
  have hst₀ : H4.IsListIter I ax 0 ∧ H4.IsList ax its := ⟨⟨_, eI, rfl, rfl⟩, ⟨_, up _ _ (N _ hmx).1, rfl, n, rfl⟩⟩
  have loop : codeAny (model prog w) A (.compLoop (.ListComp elt [⟨.Name x px, iter, [], 0⟩] scope pos) 0 (.ref I) (.ref (I + 1)) (compEnvC scope ((x, I + 2 + 1) :: cl) (I + 2) env))
      (compPost (model prog w) A E (some (assign (.Name y py) env)) (fun _ s' => Q .next s') (.ref (I + 1)) (I + 2)) { s₁ with heap := H4 } := by
    refine codeAny_compLoop_tests
      (CellSt h₀ env.locals ax I its m news J s₁) ?_ (its.size + 1)
      ⟨H4, _, 0, [], none, _, rfl, Nat.zero_le _, rfl, rfl, hst₀, F.keeps up, eC, eX, fun p hp => ?_, hJ⟩
    · rintro k s' ⟨h', tk, i, ys, vX, m', rfl, hi, rfl, hyl, hst', F', hn', hX', N', hJ'⟩
      by_cases hlt' : i < its.size
      · refine W.item i _ _ _ hlt' hst' fun v h₂ tk₂ hPv hst₂ hk₂ => ?_
        have k₂ : ∀ b o, b ≠ I → h'.get? b = some o → h₂.get? b = some o := fun b o hb e => hk₂ b o (by simpa using hb) e
        refine wpAny_assign_Name (wpAny_storeName_cell (c := I + 2 + 1) (v₀ := vX) hkind hx (by simp [compEnvC]) ?_ fun h₃ hX₃ hs₃ => ?_)
        · obtain ⟨o, ho, hd⟩ := hX'
          exact ⟨o, k₂ _ _ (by omega) ho, hd⟩
        refine wpAny_tests_nil ?_
        simp only [if_true]
        have k₃ : ∀ b o, b ≠ I + 2 + 1 → h₂.get? b = some o → h₃.get? b = some o := fun b o hb e => (hs₃.2 b hb).trans e
        have k23 : ∀ b o, b ≠ I → b ≠ I + 2 + 1 → h'.get? b = some o → h₃.get? b = some o := fun b o h1 h2 e => k₃ b o h2 (k₂ b o h1 e)
        have F₃ : Fr h₀ env.locals h₃ m := ⟨F'.ns.at' fun o e => k23 _ o (by omega) (by omega) e, fun b o e => k23 b o (fun q => by rw [q, fresh I (Nat.le_refl _)] at e; cases e) (fun q => by rw [q, fresh (I + 2 + 1) (by omega)] at e; cases e) (F'.keep b o e), F'.above⟩
        obtain ⟨⟨oI, heI, hcI, hdI⟩, oL, heL, hcL⟩ := hst₂
        have heI₃ := k₃ I oI (by omega) heI
        obtain ⟨oC, heC, hoC⟩ := LCg.ns_obj hn'
        have heC₃ := k23 (I + 2) oC (by omega) (by omega) heC
        obtain ⟨oX, heX, hdX⟩ := hX₃
        have N₃ : News h₀ env.locals h₃ ((I + 2 + 1, oX) :: (I, oI) :: (I + 2, oC) :: (I + 1, LCg.lst ys) :: news) := fun p hp => by
          (first | (revert p; refine all_cons ?_ (fun p hp => ?_)) | rcases List.mem_cons.mp hp with rfl | hp)
          · exact ⟨heX, (show (I + 2 + 1 : Nat) ≠ env.locals by omega), fresh _ (by omega)⟩
          (first | (revert p; refine all_cons ?_ (fun p hp => ?_)) | rcases List.mem_cons.mp hp with rfl | hp)
          · exact ⟨heI₃, (show (I : Nat) ≠ env.locals by omega), fresh _ (Nat.le_refl _)⟩
          (first | (revert p; refine all_cons ?_ (fun p hp => ?_)) | rcases List.mem_cons.mp hp with rfl | hp)
          · exact ⟨heC₃, (show (I + 2 : Nat) ≠ env.locals by omega), fresh _ (by omega)⟩
          have q := N' p hp
          rcases List.mem_cons.mp hp with rfl | hp
          · exact ⟨k23 _ _ (by dsimp only; omega) (by dsimp only; omega) q.1, q.2⟩
          · have := low p hp
            exact ⟨k23 _ _ (by omega) (by omega) q.1, q.2⟩
        refine wpAny_mono (helt i v ys (I + 2 + 1) oX I oI (I + 2) oC (I + 1) h₃ _ _ hPv hJ' hdX F₃ N₃) (fun y s₄ h₄ => ?_) fun _ _ e => e
        obtain ⟨h₄, tk₄, rfl, F₄, N₄, hJ₄⟩ := h₄
        have zX := (N₄ (I + 2 + 1, oX) (List.mem_cons_self ..)).1
        have zI := (N₄ (I, oI) (List.mem_cons_of_mem _ (List.mem_cons_self ..))).1
        have zC := (N₄ (I + 2, oC) (List.mem_cons_of_mem _ (List.mem_cons_of_mem _ (List.mem_cons_self ..)))).1
        have zD := (N₄ (I + 1, LCg.lst ys) (List.mem_cons_of_mem _ (List.mem_cons_of_mem _ (List.mem_cons_of_mem _ (List.mem_cons_self ..))))).1
        have zn : ∀ p ∈ news, h₄.get? p.1 = some p.2 := fun p hp => (N₄ p (List.mem_cons_of_mem _ (List.mem_cons_of_mem _ (List.mem_cons_of_mem _ (List.mem_cons_of_mem _ hp))))).1
        refine append_at (hsz := by show ys.toArray.size ≤ sizeLine; rw [List.size_toArray, hyl]; exact Nat.le_trans hi hsz) zD fun h₅ hs₅ hD₅ => ?_
        have k₅ : ∀ b o, b ≠ I + 1 → h₄.get? b = some o → h₅.get? b = some o := fun b o hb e => hs₅.extBut b o hb e
        refine ⟨its.size + 1 - (i + 1), by omega, h₅, tk₄, i + 1, ys ++ [y], some v, _, rfl, hlt', rfl, by rw [List.length_append, List.length_singleton, hyl], ⟨⟨oI, k₅ _ _ (by omega) zI, hcI, hdI⟩, ⟨_, k₅ _ _ (by omega) (zn _ hmx), rfl, n, rfl⟩⟩,
          F₄.change hs₅ (show (I + 1 : Nat) ≠ env.locals by omega) (fresh _ (by omega)), (hoC.ns zC).at' fun o e => k₅ _ _ (by omega) e, ⟨oX, k₅ _ _ (by omega) zX, hdX⟩, fun p hp => ?_, hJ₄⟩
        (first | (revert p; refine all_cons ?_ (fun p hp => ?_)) | rcases List.mem_cons.mp hp with rfl | hp)
        · exact ⟨hD₅.trans (congrArg some (LCg.lst_snoc ys y)), (show (I + 1 : Nat) ≠ env.locals by omega), fresh _ (by omega)⟩
        · have := low p hp
          exact ⟨k₅ _ _ (by omega) (zn p hp), (N p hp).2⟩
      · obtain rfl : i = its.size := Nat.le_antisymm hi (Nat.not_lt.mp hlt')
        refine W.done _ _ _ hst' fun h₂ tk₂ hk₂ => ?_
        have k₂ : ∀ b o, b ≠ I → h'.get? b = some o → h₂.get? b = some o := fun b o hb e => hk₂ b o (by simpa using hb) e
        show wpAny _ A (assign (.Name y py) env (.ref (I + 1))) _ _ _
        have F₂ : Fr h₀ env.locals h₂ m := ⟨F'.ns.at' fun o e => k₂ _ o (by omega) e, fun b o e => k₂ b o (fun q => by rw [q, fresh I (Nat.le_refl _)] at e; cases e) (F'.keep b o e), F'.above⟩
        have hL₀ : h₀.get? env.locals = none := Heap.get?_none_of_le F'.above
        refine wpAny_assign_Name (wpAny_storeName_local hy F₂.ns (fun h₃ hn₃ hs₃ => ?_) hp)
        have F₃ : Fr h₀ env.locals h₃ (fun z => if z = y then some (.ref (I + 1)) else m z) := ⟨hn₃, fun b o e => hs₃.extBut b o (fun q => by rw [q, hL₀] at e; cases e) (F₂.keep b o e), F'.above⟩
        refine ⟨m', (hn'.at' fun o e => k₂ _ _ (by omega) e).sameBut hs₃ (show (I + 2 : Nat) ≠ env.locals by omega), fun h'' hs'' => ?_⟩
        have k₃ : ∀ b o, b ≠ I → b ≠ env.locals → b ≠ I + 2 → h'.get? b = some o → h''.get? b = some o := fun b o h1 h2 h3 e => (hs''.2 b h3).trans ((hs₃.2 b h2).trans (k₂ b o h1 e))
        refine hfin ys (I + 1) h'' _ hJ' (F₃.change hs'' (show (I + 2 : Nat) ≠ env.locals by omega) (fresh _ (by omega))) (fun p hp => ?_) (fun p hp => Nat.lt_succ_of_lt (low p hp))
        have q := N' p hp
        rcases List.mem_cons.mp hp with rfl | hp
        · exact ⟨k₃ _ _ (by dsimp only; omega) q.2.1 (by dsimp only; omega) q.1, q.2⟩
        · have := low p hp
          exact ⟨k₃ _ _ (by omega) q.2.1 (by omega) q.1, q.2⟩
    · (first | (revert p; refine all_cons ?_ (fun p hp => ?_)) | rcases List.mem_cons.mp hp with rfl | hp)
      · exact ⟨eD, (show (I + 1 : Nat) ≠ env.locals by omega), fresh _ (by omega)⟩
      · exact ⟨up _ _ (N p hp).1, (N p hp).2⟩
  exact codeAny_compStart_list loop (W.self 0 _ _ _ hst₀ loop)
end
end
section
open PySem PySem.W PyProof.Rows PySem.Calls PySem.Spec
theorem p229_ok (w : World) (rest : LLed) (pa : Addr) (resp host : PySem.Str) (t u v : Tok) (po n : Int) (hz : resp.length ≤ 1000) (p0 p1 p2 p3 p4 : PySem.Str)
   (h1 : (Txt.slice resp none (some 3) != PySem.Str.ofString "229") = false) (h2 : 0 ≤ Txt.find resp (PySem.Str.ofString "(")) (h3 : Txt.find resp (PySem.Str.ofString "(") < Txt.find3 resp (PySem.Str.ofString ")") (Txt.find resp (PySem.Str.ofString "(") + 1)) (h3' : Txt.find3 resp (PySem.Str.ofString ")") (Txt.find resp (PySem.Str.ofString "(") + 1) < resp.length)
   (h4 : (Txt.item resp (Txt.find resp (PySem.Str.ofString "(") + 1) != Txt.item resp (Txt.find3 resp (PySem.Str.ofString ")") (Txt.find resp (PySem.Str.ofString "(") + 1) - 1)) = false) (h5 : Txt.split (Txt.slice resp (some (Txt.find resp (PySem.Str.ofString "(") + 1)) (some (Txt.find3 resp (PySem.Str.ofString ")") (Txt.find resp (PySem.Str.ofString "(") + 1)))) (Txt.item resp (Txt.find resp (PySem.Str.ofString "(") + 1)) = [p0, p1, p2, p3, p4]) (h6 : PySem.intText? p3 = some n) (h7 : p3.length ≤ 640) :
    Ctr w 82 [.str resp t, .ref pa] [] 3 ((pa, tup2 (.str host u) (.int po v)) :: rest)
     fun N Q => ∀ D t' h' tk', N h' ((D, tup2 (.str host u) (.int n t')) :: (pa, tup2 (.str host u) (.int po v)) :: rest) → Q (.ref D) h' tk' := by
  unfold Ctr
  have hdummy : PySem.Challenge.rw_wo0075_01 = PySem.Challenge.rw_wo0075_01 ∧ hd.heap_39 w.params = hd.heap_39 w.params := by k_fill; exact ⟨rfl, rfl⟩
  clear hdummy
  intro loose mean mg mb dp un gd cn cs a ccd cl outer A₀ base h₀ L m s Q E hB hF hX hN hT hk hdp hun hret
  rcases cs with ⟨ki, na, g1, g2, mo⟩
  dsimp only at hk
  subst hk
  (try walk_at "fe")
  repeat' (first | ((first | ((with_reducible show wpAny _ _ (call (Value.builtin "len") [Value.ref _]) _ _ _); (with_reducible rename (List.map _ _ = _) => hlook'); refine len_strs (News.isList (by assumption) (by first | exact .head _ | exact .tail _ (.head _) | exact .tail _ (.tail _ (.head _)))) (by first | omega | (have := len_le_of_split (by assumption); omega)) ?_) | ((with_reducible show wpAny _ _ (subscriptTail _ _ (Value.ref _) (Value.int _ _)) _ _ _); (with_reducible rename (List.map _ _ = _) => hlook'); refine item_strs (News.isList (by assumption) (by first | exact .head _ | exact .tail _ (.head _) | exact .tail _ (.tail _ (.head _)))) (by omega) (by first | omega | (have := len_of_split (by assumption); omega)) (by omega) ?_; intro _ _ _) | ((with_reducible show wpAny _ _ (subscriptTail _ _ (Value.str _ _) (Value.int _ _)) _ _ _); (refine item_str (fitsSsize_of (N := 9223372036854775808) (by omega) (by omega) (Int.le_refl _)) (by omega) (by omega) ?_; intro zhL9; clear zhL9)) | ((with_reducible show wpAny _ _ (subscriptTail _ _ (Value.ref _) (Value.int _ _)) _ _ _); k_dflt (refine' item_tupleT ?ty4 ?ay4 ?by4 ?cy4 ?dy4 ?_; (case ty4 => exact News.isTup (by k_asm) (by k_mem)); (case ay4 => decide); (case by4 => decide); (case cy4 => rfl); (case dy4 => rfl); k_whole))); all_goals (try walk_at "fq")) | walk_at "Y")
  · exfalso
    rename (List.map _ _ = Txt.split _ _) => hk9
    rw [h5] at hk9
    have := congrArg List.length hk9
    simp at this
    omega
  · rename (List.map _ _ = Txt.split _ _) => hk9
    rw [h5] at hk9
    rename (_ = some _) => hy9
    rw [hk9] at hy9
    have e9 : p3 = _ := Option.some.inj hy9
    subst e9
    k_dflt (refine KIN.call_text h6 h7 ?_)
    repeat' (walk_at "Y")
    rename News h₀ L _ ((_, tup2 _ (.int _ _)) :: _ :: _ :: rest) => kN9
    exact hret _ _ _ _ ⟨by k_asm, fun p hp => kN9 p (by
      (first | (revert p; refine all_cons ?_ (fun p hp => ?_)) | rcases List.mem_cons.mp hp with rfl | hp)
      · exact List.mem_cons_self ..
      · exact List.mem_cons_of_mem _ (List.mem_cons_of_mem _ hp))⟩
end
section
open PySem PySem.W PyProof.Rows PySem.Calls PySem.Spec
theorem rrest_inv {prog : Program} {w : World} {A : Around} {E : Value → Shared → Prop} {s : Shared} {env : Env} {h₀ : Heap} {x : PySem.Str} {body : List Stmt} {Q : Flow → Shared → Prop} {I : Addr} {a : Int} {n : Nat}
    (J : Nat → (PySem.Str → Option Value) → LLed → Prop) (hJ : ∀ i m news, J i m news → ∀ p ∈ news, p.1 ≠ I)
    (turn : ∀ (i : Nat) (m : PySem.Str → Option Value) (news : LLed) (h : Heap) (tk : Nat) (t : Tok) (oI : Obj), i < n → J i m news → Fr h₀ env.locals h (fun y => if y = x then some (.int (a + (i : Int)) t) else m y) → News h₀ env.locals h ((I, oI) :: news) →
      wpAny (model prog w) A (execs body env) (fun f s' => match f with
        | .ret v => Q (.ret v) s'
        | .brk => Q .next s'
        | _ => TEnd h₀ env.locals I oI s s' (J (i + 1))) E { s with heap := h, toks := tk })
    (done : ∀ m news h tk, J n m news → Fr h₀ env.locals h m → News h₀ env.locals h news → Q .next { s with heap := h, toks := tk }) :
    ∀ k i m news, i + k = n → J i m news → RangeRest prog w A E h₀ env x body Q s I a n k i m news := by
  intro k
  induction k with
  | zero =>
    intro i m news e hj
    exact RangeRest.zero fun h tk F N => done m news h tk (by rw [← e]; exact hj) F N
  | succ k ih =>
    intro i m news e hj
    refine RangeRest.succ fun t h tk F N => ?_
    refine wpAny_mono (turn i m news h tk t _ (ik_lt e) hj F N) (fun f s' r => ?_) fun _ _ x => x
    have fin : TEnd h₀ env.locals I (itR (a + ((i + 1 : Nat) : Int)) ((n : Int) - ((i + 1 : Nat) : Int))) s s' (J (i + 1)) →
        UnrEnd h₀ env.locals { s with heap := h, toks := tk } I (itR (a + ((i + 1 : Nat) : Int)) ((n : Int) - ((i + 1 : Nat) : Int))) (RangeRest prog w A E h₀ env x body Q s I a n k (i + 1)) s' := by
      rintro ⟨h', tk', m', news', rfl, F', N', hj'⟩
      exact ⟨h', tk', m', news', rfl, F', N', hJ _ _ _ hj', ih (i + 1) m' news' (ik_s e) hj'⟩
    cases f with
    | ret v => exact r
    | brk => exact r
    | next => exact fin r
    | cont => exact fin r
theorem range_inv {prog : Program} {w : World} {A : Around} {E : Value → Shared → Prop} {s : Shared} {env : Env} {h₀ : Heap} {x : PySem.Str} {body : List Stmt} {Q : Flow → Shared → Prop} {r : Addr} {a₀ b₀ : Int} {t₀ u₀ v₀ : Tok} {n : Nat} {m₀ : PySem.Str → Option Value} {news₀ : LLed}
    (hh : A.handled = none) (hr : IsRange s.heap r a₀ b₀ 1 t₀ u₀ v₀) (hsmall : PySem.Builtin.Range.small a₀ b₀ 1 = true) (hn : PySem.Builtin.Range.rangeSize a₀ b₀ 1 = (n : Int)) (F : Fr h₀ env.locals s.heap m₀) (N : News h₀ env.locals s.heap news₀)
    (J : (PySem.Str → Option Value) → LLed → Addr → Nat → (PySem.Str → Option Value) → LLed → Prop) (h0 : ∀ I, (∀ p ∈ news₀, p.1 < I) → J m₀ news₀ I 0 m₀ news₀)
    (hJ : ∀ I i m news, J m₀ news₀ I i m news → ∀ p ∈ news, p.1 ≠ I)
    (turn : ∀ (I : Addr) (i : Nat) (k : Int) (m : PySem.Str → Option Value) (news : LLed) (h : Heap) (tk : Nat) (t : Tok) (oI : Obj), i < n → k = a₀ + (i : Int) → J m₀ news₀ I i m news → Fr h₀ env.locals h (fun y => if y = x then some (.int k t) else m y) → News h₀ env.locals h ((I, oI) :: news) →
      wpAny (model prog w) A (execs body env) (fun f s' => match f with
        | .ret v => Q (.ret v) s'
        | .brk => Q .next s'
        | _ => TEnd h₀ env.locals I oI s s' (J m₀ news₀ I (i + 1))) E { s with heap := h, toks := tk })
    (done : ∀ I m news h tk, J m₀ news₀ I n m news → Fr h₀ env.locals h m → News h₀ env.locals h news → Q .next { s with heap := h, toks := tk }) :
    wpAny (model prog w) A (pyIter (.ref r)) (fun it s₂ => LoopAtV prog w A h₀ env x body Q E it s₂) E s := by
  refine iter_rangeUnr hh hr hsmall hn F N fun I hI => ?_
  exact rrest_inv (J m₀ news₀ I) (hJ I) (fun i m news h tk t oI hi => turn I i _ m news h tk t oI hi rfl) (done I) n 0 m₀ news₀ (Nat.zero_add n) (h0 I hI)
end
section
open PySem PySem.W PyProof.Rows PySem.Calls PySem.Spec
theorem News.sub {h₀ h : Heap} {L : Addr} {a b : LLed} (N : News h₀ L h a) (hs : ∀ p ∈ b, p ∈ a) : News h₀ L h b := fun p hp => N p (hs p hp)
theorem Ctr.led {w : World} {f : Addr} {vs : List Value} {kw : List (PySem.Str × Value)} {dep : Nat} {news news' : LLed} {R R' : (Heap → LLed → Prop) → (Value → Heap → Nat → Prop) → Prop} (C : Ctr w f vs kw dep news R)
    (hs : ∀ p ∈ news, p ∈ news') (hR : ∀ (N : Heap → LLed → Prop) Q, (∀ h a b, N h a → (∀ p ∈ b, p ∈ a) → N h b) → R' N Q → R N Q) : Ctr w f vs kw dep news' R' := by
  unfold Ctr at *
  intro loose mean mg mb dp un gd cn cs a ccd cl outer A₀ base h₀ L m s Q E hB hF hX hN hT hk hdp hun hret
  exact C loose mean mg mb dp un gd cn cs a ccd cl outer A₀ base h₀ L m s Q E hB hF hX (News.sub hN hs) hT hk hdp hun (hR _ _ (fun h a b hab hs => ⟨hab.1, News.sub hab.2 hs⟩) hret)
theorem getall_m (w : World) (news : LLed) (px pd ah : Addr) (vs : List Value) (n : Nat) (kt : Tok) (name : PySem.Str) (t : Tok) (hn : Plain (Txt.lower name)) (zn : (Txt.lower name).length ≤ 1000) (zm : name.length ≤ 1000) (hs : vs.length ≤ 1000)
   (ps : List (PySem.Str × PySem.Str)) (hpx : (px, instObj 282 pd) ∈ news) (hpd : (pd, hdict w kt ah) ∈ news) (hah : (ah, W.listOf vs.toArray n) ∈ news) (hl : HL news vs ps) (hpz : ∀ p ∈ ps, p.1.length ≤ 10) :
    Ctr w 221 [.ref px, .str name t] [] 5 news
     fun N Q => ∀ D ys h' tk', VS ys (sel (Txt.lower name) ps) → N h' ((D, LCg.lst ys) :: news) → Q (.ref D) h' tk' :=
  (getall_c w news px pd ah vs n kt name t hn zn zm hs ps hl hpz).led
    (fun p hp => by
      (first | (revert p; refine all_cons ?_ (fun p hp => ?_)) | rcases List.mem_cons.mp hp with rfl | hp)
      · exact hpx
      (first | (revert p; refine all_cons ?_ (fun p hp => ?_)) | rcases List.mem_cons.mp hp with rfl | hp)
      · exact hpd
      (first | (revert p; refine all_cons ?_ (fun p hp => ?_)) | rcases List.mem_cons.mp hp with rfl | hp)
      · exact hah
      · exact hp)
    fun N Q hN h D ys h' tk' hv hn => h D ys h' tk' hv (hN _ _ _ hn fun p hp => by
      (first | (revert p; refine all_cons ?_ (fun p hp => ?_)) | rcases List.mem_cons.mp hp with rfl | hp)
      · exact List.mem_cons_self ..
      · exact List.mem_cons_of_mem _ (List.mem_cons_of_mem _ (List.mem_cons_of_mem _ (List.mem_cons_of_mem _ hp))))
theorem addh_m (w : World) (news : LLed) (g : Obj → LLed) (px pd ah : Addr) (vs : List Value) (n : Nat) (kt : Tok) (name value : PySem.Str) (t u : Tok) (hn : Plain name) (zn : name.length ≤ 1000) (hv : Plain value) (zv : value.length ≤ 1000) (hs : vs.length ≤ 1000)
   (hpx : (px, instObj 282 pd) ∈ news) (hpd : (pd, hdict w kt ah) ∈ news) (U : UpdF ah (W.listOf vs.toArray n) news g) (h1 : px ≠ ah) (h2 : pd ≠ ah) :
    Ctr w 279 [.ref px, .str name t, .str value u] [] 5 news
     fun N Q => ∀ a t' u' h' tk', N h' ((a, tup2 (.str name t') (.str value u')) :: g (W.listOf (vs ++ [Value.ref a]).toArray (n + 1))) → (∀ p ∈ news, p.1 < a) → Q .none h' tk' := by
  obtain ⟨pre, post, e1, e2, hp1, hp2⟩ := U.split
  subst e1
  refine (addh_c w (pre ++ post) px pd ah vs n kt name value t u hn zn hv zv hs h1 h2 (fun p hp => by
    rcases List.mem_append.mp hp with hp | hp
    · exact hp1 p hp
    · exact hp2 p hp)).led (fun p hp => ?_) fun N Q hN h a t' u' h' tk' hn ha hlt => h a t' u' h' tk' (hN _ _ _ hn fun p hp => ?_) ?_
  · (first | (revert p; refine all_cons ?_ (fun p hp => ?_)) | rcases List.mem_cons.mp hp with rfl | hp)
    · exact hpx
    (first | (revert p; refine all_cons ?_ (fun p hp => ?_)) | rcases List.mem_cons.mp hp with rfl | hp)
    · exact hpd
    (first | (revert p; refine all_cons ?_ (fun p hp => ?_)) | rcases List.mem_cons.mp hp with rfl | hp)
    · exact List.mem_append.mpr (.inr (List.mem_cons_self ..))
    rcases List.mem_append.mp hp with hp | hp
    · exact List.mem_append.mpr (.inl hp)
    · exact List.mem_append.mpr (.inr (List.mem_cons_of_mem _ hp))
  · rw [e2] at hp
    (first | (revert p; refine all_cons ?_ (fun p hp => ?_)) | rcases List.mem_cons.mp hp with rfl | hp)
    · exact List.mem_cons_of_mem _ (List.mem_cons_self ..)
    rcases List.mem_append.mp hp with hp | hp
    · exact List.mem_cons_of_mem _ (List.mem_cons_of_mem _ (List.mem_cons_of_mem _ (List.mem_cons_of_mem _ (List.mem_append.mpr (.inl hp)))))
    (first | (revert p; refine all_cons ?_ (fun p hp => ?_)) | rcases List.mem_cons.mp hp with rfl | hp)
    · exact List.mem_cons_self ..
    · exact List.mem_cons_of_mem _ (List.mem_cons_of_mem _ (List.mem_cons_of_mem _ (List.mem_cons_of_mem _ (List.mem_append.mpr (.inr hp)))))
  · intro p hp
    rcases List.mem_append.mp hp with hp | hp
    · exact hlt p (List.mem_append.mpr (.inl hp))
    (first | (revert p; refine all_cons ?_ (fun p hp => ?_)) | rcases List.mem_cons.mp hp with rfl | hp)
    · exact ha
    · exact hlt p (List.mem_append.mpr (.inr hp))
section
variable {prog : Program} {w : World} {A : Around} {E Q : Value → Shared → Prop} {s : Shared} {h₀ : Heap} {L l : Addr} {m : PySem.Str → Option Value} {news : LLed} {vs : List Value} {n : Nat} {value slice : PySem.Expr} {k : Int} {u : Tok} {v : Value}
theorem my_item (N : News h₀ L s.heap news) (hm : (l, W.listOf vs.toArray n) ∈ news) (h0 : 0 ≤ k) (hhi : k < 1000) (hx : vs[k.toNat]? = some v) (h : Q v s)
    (hs : subscripted slice false (.ref l) (.int k u) = operate [.ref l, .int k u] (getItem (.ref l) (.int k u)) := by with_unfolding_all rfl) :
    wpAny (model prog w) A (subscriptTail value slice (.ref l) (.int k u)) Q E s :=
  have hl : s.heap.IsList l vs.toArray := News.isList N hm
  tail_any hl.typeIs slot_list_getitem.lookup (wpAny_getItem_list hl h0 (by omega) (by simpa using hx) h) hs
theorem my_last (N : News h₀ L s.heap news) (hm : (l, W.listOf vs.toArray n) ∈ news) (hx : vs.getLast? = some v) (h : Q v s)
    (hs : subscripted slice false (.ref l) (.int (-1) u) = operate [.ref l, .int (-1) u] (getItem (.ref l) (.int (-1) u)) := by with_unfolding_all rfl) :
    wpAny (model prog w) A (subscriptTail value slice (.ref l) (.int (-1) u)) Q E s := by
  have hl : s.heap.IsList l vs.toArray := News.isList N hm
  have hne : vs ≠ [] := by rintro rfl; cases hx
  have hpos : 0 < vs.length := List.length_pos_iff.mpr hne
  refine tail_any hl.typeIs slot_list_getitem.lookup (wpAny_getItem_list_neg hl (by omega) (by simp; omega) (by omega) ?_ h) hs
  rw [List.getLast?_eq_getElem?] at hx
  have e : (-1 + (vs.toArray.size : Int)).toNat = vs.length - 1 := by simp; omega
  rw [e]
  simpa using hx
end
theorem VS.last : ∀ {ys : List Value} {xs : List PySem.Str} {x : PySem.Str}, VS ys xs → xs.getLast? = some x → ∃ t, ys.getLast? = some (.str x t)
  | [], [], _, _, e => by cases e
  | [], _ :: _, _, h, _ => h.elim
  | _ :: _, [], _, h, _ => h.elim
  | [y], [x], _, ⟨⟨t, hy⟩, _⟩, e => by (cases e; exact ⟨t, by rw [hy]; rfl⟩)
  | [_], _ :: _ :: _, _, ⟨_, h⟩, _ => h.elim
  | _ :: _ :: _, [_], _, ⟨_, h⟩, _ => h.elim
  | _ :: y :: ys, _ :: x :: xs, z, ⟨_, h⟩, e => by
    rw [List.getLast?_cons_cons] at e ⊢
    exact VS.last h e
end
section
open PySem PySem.W PyProof.Rows
open PySem.Builtin.Str
section
variable {x : PySem.Str}
theorem find_at {c i : Nat} (h : x.cps.toList[i]? = some c) (hn : ∀ k, k < i → x.cps.toList[k]? ≠ some c) : Txt.find x ⟨#[c]⟩ = (i : Int) := by
  unfold Txt.find
  rcases StrLaws.occ_head x ⟨#[c]⟩ 1 (Nat.le_refl _) with ⟨_, h0⟩ | ⟨j, r, e, hj, hlt⟩
  · exact absurd ((StrLaws.subAt_one x c i).mpr h) (h0 i)
  · rw [e]
    have hj' := (StrLaws.subAt_one x c j).mp hj
    rcases Nat.lt_trichotomy i j with q | q | q
    · exact absurd ((StrLaws.subAt_one x c i).mpr h) (hlt i q)
    · rw [q]
    · exact absurd hj' (hn j q)
theorem find3_at {c lo i : Nat} (hlo : lo ≤ i) (h : x.cps.toList[i]? = some c) (hn : ∀ k, lo ≤ k → k < i → x.cps.toList[k]? ≠ some c) : Txt.find3 x ⟨#[c]⟩ (lo : Int) = (i : Int) := by
  have hi : i < x.length := by
    have := (List.getElem?_eq_some_iff.mp h).1
    exact this
  unfold Txt.find3
  have e0 : fromIndex x.length (lo : Int) = lo := by unfold fromIndex; omega
  rw [e0]
  have hN : occurrences x ⟨#[c]⟩ lo x.length 1 = [i] ∨ ∃ r, occurrences x ⟨#[c]⟩ lo x.length 1 = i :: r := by
    right
    rw [StrLaws.occ_eq]
    rcases StrLaws.occ_first x ⟨#[c]⟩ x.length 1 (Nat.le_refl _) (List.range' lo (x.length + 1 - lo)) lo (fun k hk => by simp [List.mem_range'] at hk; omega) with ⟨_, hno⟩ | ⟨pre, a, post, e, h0, ha, hpre⟩
    · exact absurd ((StrLaws.subAt_one x c i).mpr h) (hno i (by simp [List.mem_range']; exact ⟨i - lo, by omega, by omega⟩))
    · have hlen : ∀ k, k < pre.length → pre[k]? = some (lo + k) := by
        intro k hk
        have h1 : (List.range' lo (x.length + 1 - lo))[k]? = pre[k]? := by rw [e, List.getElem?_append_left hk]
        have hk2 : k < x.length + 1 - lo := by
          have := congrArg List.length e
          simp at this
          omega
        rw [List.getElem?_range' hk2] at h1
        rw [← h1]; simp
      have hpa : a = lo + pre.length := by
        have h1 : (List.range' lo (x.length + 1 - lo))[pre.length]? = some a := by rw [e]; simp
        have hk2 : pre.length < x.length + 1 - lo := by
          have := congrArg List.length e
          simp at this
          omega
        rw [List.getElem?_range' hk2] at h1
        have := Option.some.inj h1
        omega
      have hj' := (StrLaws.subAt_one x c a).mp ha
      have hai : a = i := by
        rcases Nat.lt_trichotomy i a with q | q | q
        · have := hlen (i - lo) (by omega)
          have hm := List.mem_of_getElem? this
          have e1 : lo + (i - lo) = i := by omega
          rw [e1] at hm
          exact absurd ((StrLaws.subAt_one x c i).mpr h) (hpre i hm)
        · exact q.symm
        · exact absurd hj' (hn a (by omega) q)
      subst hai
      generalize (forIn (List.range' lo (x.length + 1 - lo)) ((#[] : Array Nat), lo) (StrLaws.occBody x ⟨#[c]⟩ x.length 1)).run.fst = arr at h0
      cases hA : arr.toList with
      | nil => simp at hA; subst hA; simp at h0
      | cons b r =>
        refine ⟨r, ?_⟩
        have : arr.toList[0]? = some a := by simpa using h0
        rw [hA] at this
        simp at this
        rw [this]
  rcases hN with e | ⟨r, e⟩ <;> rw [e]
theorem item_at {c i : Nat} (h : x.cps.toList[i]? = some c) : Txt.item x (i : Int) = ⟨#[c]⟩ := by
  have hi : i < x.length := (List.getElem?_eq_some_iff.mp h).1
  unfold Txt.item Txt.charAt
  have e : seqIndex? (i : Int) x.length = some i := by rw [StrLaws.seqIndex_nonneg (by omega) (by omega)]; simp
  rw [e]
  have h2 : x.cps[i]? = some c := by simpa using h
  rw [Option.bind_some, h2]
  rfl
theorem slice_at {a b : Nat} (h : a ≤ b) (hb : b ≤ x.length) : Txt.slice x (some (a : Int)) (some (b : Int)) = ⟨((x.cps.toList.drop a).take (b - a)).toArray⟩ := by
  have := slice_closes (x := x) (i := a) (j := b) ⟨by omega, by omega, by have : x.cps.toList.length = x.length := rfl; omega⟩
  have e := eq_of_beq this
  rw [e]
  congr 4
  omega
theorem slice_to {b : Nat} (hb : b ≤ x.length) : Txt.slice x none (some (b : Int)) = ⟨(x.cps.toList.take b).toArray⟩ := by
  have := slice_closes_to (x := x) (j := b) ⟨by omega, by have : x.cps.toList.length = x.length := rfl; omega⟩
  have e := eq_of_beq this
  rw [e]
  congr 3
end
def glue (c : Nat) : List (List Nat) → List Nat
  | [] => []
  | [p] => p
  | p :: q :: r => p ++ c :: glue c (q :: r)
theorem join_glue (c : Nat) : ∀ ps : List PySem.Str, (PySem.Str.join ⟨#[c]⟩ ps).cps.toList = glue c (ps.map (·.cps.toList))
  | [] => rfl
  | [p] => rfl
  | p :: q :: r => by
    have ih := join_glue c (q :: r)
    show (p ++ (⟨#[c]⟩ : PySem.Str) ++ PySem.Str.join ⟨#[c]⟩ (q :: r)).cps.toList = p.cps.toList ++ c :: glue c ((q :: r).map (·.cps.toList))
    rw [← ih]
    show (p.cps ++ #[c] ++ (PySem.Str.join ⟨#[c]⟩ (q :: r)).cps).toList = _
    simp
theorem glue_inj (c : Nat) : ∀ (ps qs : List (List Nat)), ps ≠ [] → qs ≠ [] → (∀ p ∈ ps, c ∉ p) → (∀ q ∈ qs, c ∉ q) → glue c ps = glue c qs → ps = qs := by
  have key : ∀ (p q r s : List Nat), c ∉ p → c ∉ q → p ++ c :: r = q ++ c :: s → p = q ∧ r = s := by
    intro p
    induction p with
    | nil =>
      intro q r s _ hq e
      cases q with
      | nil => simp at e; exact ⟨rfl, e⟩
      | cons y q => simp at e; exact absurd (e.1 ▸ List.mem_cons_self ..) hq
    | cons z p ih =>
      intro q r s hp hq e
      cases q with
      | nil => simp at e; exact absurd (e.1 ▸ List.mem_cons_self ..) hp
      | cons y q =>
        simp at e
        obtain ⟨h1, h2⟩ := ih q r s (fun h => hp (List.mem_cons_of_mem _ h)) (fun h => hq (List.mem_cons_of_mem _ h)) e.2
        exact ⟨by rw [e.1, h1], h2⟩
  intro ps
  induction ps with
  | nil => intro qs h; exact absurd rfl h
  | cons p ps ih =>
    intro qs _ hq hp hqs e
    cases qs with
    | nil => exact absurd rfl hq
    | cons q qs =>
      cases ps with
      | nil =>
        cases qs with
        | nil => simp [glue] at e; rw [e]
        | cons q2 qs =>
          simp only [glue] at e
          exact absurd (by rw [e]; simp) (hp p (List.mem_cons_self ..))
      | cons p2 ps =>
        cases qs with
        | nil =>
          simp only [glue] at e
          exact absurd (by rw [← e]; simp) (hqs q (List.mem_cons_self ..))
        | cons q2 qs =>
          simp only [glue] at e
          obtain ⟨h1, h2⟩ := key p q _ _ (hp p (List.mem_cons_self ..)) (hqs q (List.mem_cons_self ..)) e
          have := ih (q2 :: qs) (by simp) (by simp) (fun a ha => hp a (List.mem_cons_of_mem _ ha)) (fun a ha => hqs a (List.mem_cons_of_mem _ ha)) h2
          rw [h1, this]
theorem split_glue {x : PySem.Str} {c : Nat} (ps : List PySem.Str) (h0 : ps ≠ []) (hf : ∀ p ∈ ps, c ∉ p.cps.toList) (hx : x.cps.toList = glue c (ps.map (·.cps.toList))) : Txt.split x ⟨#[c]⟩ = ps := by
  have hj := StrLaws.join_split x ⟨#[c]⟩
  have hfree := StrLaws.split_free x c
  have e : glue c ((Txt.split x ⟨#[c]⟩).map (·.cps.toList)) = glue c (ps.map (·.cps.toList)) := by rw [← join_glue, hj, hx]
  have hne : Txt.split x ⟨#[c]⟩ ≠ [] := by
    intro h
    unfold Txt.split at h
    split at h
    · cases h
    split at h
    · cases h
    · rw [StrLaws.partsBetween_eq] at h
      obtain ⟨p, r, e⟩ := StrLaws.partsFrom_ne x (⟨#[c]⟩ : PySem.Str).length 0 (occurrences x ⟨#[c]⟩ 0 x.length (x.length + 1))
      rw [e] at h; cases h
  have := glue_inj c _ _ (by simpa using hne) (by simpa using h0) (by
    intro p hp
    obtain ⟨q, hq, rfl⟩ := List.mem_map.mp hp
    exact hfree q hq) (by
    intro p hp
    obtain ⟨q, hq, rfl⟩ := List.mem_map.mp hp
    exact hf q hq) e
  have inj : ∀ (as bs : List PySem.Str), as.map (·.cps.toList) = bs.map (·.cps.toList) → as = bs := by
    intro as
    induction as with
    | nil => intro bs h; cases bs with
      | nil => rfl
      | cons => simp at h
    | cons a as ih => intro bs h; cases bs with
      | nil => simp at h
      | cons b bs =>
        simp at h
        rw [ih bs (by simpa using h.2)]
        congr 1
        have := h.1
        obtain ⟨⟨a⟩⟩ := a
        obtain ⟨⟨b⟩⟩ := b
        simp at this
        rw [this]
  exact inj _ _ this
def dig (n : Int) : PySem.Str := PySem.Str.ofString (toString n)
theorem dig_fin : ∀ k : Fin 1000, ((dig (k.val : Int)).cps.toList.all fun c => decide (48 ≤ c) && decide (c ≤ 57)) = true ∧ (dig (k.val : Int)).length ≤ 3 ∧ PySem.intText? (dig (k.val : Int)) = some (k.val : Int) := by decide +kernel
theorem dig_facts {n : Int} (h0 : 0 ≤ n) (h1 : n < 1000) : (∀ c ∈ (dig n).cps.toList, 48 ≤ c ∧ c ≤ 57) ∧ (dig n).length ≤ 3 ∧ PySem.intText? (dig n) = some n := by
  have := dig_fin ⟨n.toNat, by omega⟩
  have e : ((n.toNat : Nat) : Int) = n := by omega
  simp only [e] at this
  refine ⟨fun c hc => ?_, this.2.1, this.2.2⟩
  have h := List.all_eq_true.mp this.1 c hc
  simpa using h
end
section
open PySem PySem.W PyProof.Rows PySem.Calls PySem.Spec
def OkM (m : PySem.Str) : Prop := m = PySem.Str.ofString "|" ∨ m = PySem.Str.ofString "!" ∨ m = PySem.Str.ofString ";"
def OkW (x : PySem.Str) : Prop := 1 ≤ x.length ∧ x.length ≤ 3 ∧ ∀ c ∈ x.cps.toList, c = 97 ∨ c = 65 ∨ c = 98 ∨ c = 34
theorem okM_sign {m : PySem.Str} (h : OkM m) : ∃ c, m = ⟨#[c]⟩ ∧ (c = 124 ∨ c = 33 ∨ c = 59) := by
  rcases h with rfl | rfl | rfl
  · exact ⟨124, by decide, .inl rfl⟩
  · exact ⟨33, by decide, .inr (.inl rfl)⟩
  · exact ⟨59, by decide, .inr (.inr rfl)⟩
theorem cps_append (a b : PySem.Str) : (a ++ b).cps.toList = a.cps.toList ++ b.cps.toList := by
  show (a.cps ++ b.cps).toList = _
  simp
theorem reply_cps {mk wd : PySem.Str} {c : Nat} {p : Int} (hm : mk = ⟨#[c]⟩) : (replyS mk wd p).cps.toList = [50, 50, 57, 32, 40] ++ (c :: 49 :: c :: (wd.cps.toList ++ c :: ((dig p).cps.toList ++ [c]))) ++ [41] := by
  subst hm
  have e1 : (PySem.Str.ofString "229 (").cps.toList = [50, 50, 57, 32, 40] := by decide
  have e2 : (PySem.Str.ofString "1").cps.toList = [49] := by decide
  have e3 : (PySem.Str.ofString ")").cps.toList = [41] := by decide
  unfold replyS
  simp only [cps_append, e1, e2, e3]
  simp [dig]
section
variable {mk wd : PySem.Str} {p : Int}
theorem reply_plain (hm : OkM mk) (hw : OkW wd) (h0 : 0 ≤ p) (h1 : p < 1000) : Plain (replyS mk wd p) := by
  obtain ⟨c, rfl, hc⟩ := okM_sign hm
  intro d hd
  rw [reply_cps rfl] at hd
  have hdg := (dig_facts h0 h1).1
  have hwd := hw.2.2
  simp only [List.mem_append, List.mem_cons, List.not_mem_nil, or_false] at hd
  rcases hd with (hd | hd | hd | hd | hd | hd | hd | hd) | hd
  · omega
  · omega
  · omega
  · omega
  · have := hwd d hd; omega
  · omega
  · have := hdg d hd; omega
  · omega
  · omega
theorem reply_len (hm : OkM mk) (hw : OkW wd) (h0 : 0 ≤ p) (h1 : p < 1000) : (replyS mk wd p).length ≤ 30 := by
  obtain ⟨c, rfl, hc⟩ := okM_sign hm
  have e : (replyS ⟨#[c]⟩ wd p).length = (replyS ⟨#[c]⟩ wd p).cps.toList.length := by simp [PySem.Str.length]
  rw [e, reply_cps rfl]
  have h2 := (dig_facts h0 h1).2.1
  have h3 := hw.2.1
  have e2 : (dig p).cps.toList.length = (dig p).length := by simp [PySem.Str.length]
  have e3 : wd.cps.toList.length = wd.length := by simp [PySem.Str.length]
  simp only [List.length_append, List.length_cons, List.length_nil, e2, e3]
  omega
end
theorem reply_facts {mk wd : PySem.Str} {p : Int} (hm : OkM mk) (hw : OkW wd) (h0 : 0 ≤ p) (h1 : p < 1000) :
    (Txt.slice (replyS mk wd p) none (some 3) != PySem.Str.ofString "229") = false ∧ Txt.find (replyS mk wd p) (PySem.Str.ofString "(") = 4 ∧
    ∃ k : Nat, 7 ≤ k ∧ Txt.find3 (replyS mk wd p) (PySem.Str.ofString ")") (4 + 1) = (k : Int) ∧ k < (replyS mk wd p).length ∧ Txt.item (replyS mk wd p) (4 + 1) = mk ∧ Txt.item (replyS mk wd p) ((k : Int) - 1) = mk ∧
    Txt.split (Txt.slice (replyS mk wd p) (some (4 + 1)) (some (k : Int))) mk = [⟨#[]⟩, ⟨#[49]⟩, wd, dig p, ⟨#[]⟩] := by
  obtain ⟨c, rfl, hc⟩ := okM_sign hm
  obtain ⟨hdg, hdl, _⟩ := dig_facts h0 h1
  have hwd := hw.2.2
  have hcps := reply_cps (wd := wd) (p := p) (c := c) rfl
  generalize hx : replyS ⟨#[c]⟩ wd p = x at hcps ⊢
  generalize hB : (c :: 49 :: c :: (wd.cps.toList ++ c :: ((dig p).cps.toList ++ [c]))) = B at hcps
  have hBl : B.length = 5 + wd.cps.toList.length + (dig p).cps.toList.length := by rw [← hB]; simp; omega
  have hlen : x.length = 6 + B.length := by
    have : x.length = x.cps.toList.length := by simp [PySem.Str.length]
    rw [this, hcps]; simp; omega
  have hBn : ∀ d ∈ B, d ≠ 41 := by
    intro d hd
    rw [← hB] at hd
    simp only [List.mem_append, List.mem_cons, List.not_mem_nil, or_false] at hd
    rcases hd with hd | hd | hd | hd | hd | hd | hd
    · omega
    · omega
    · omega
    · have := hwd d hd; omega
    · omega
    · have := hdg d hd; omega
    · omega
  have hget : ∀ k, k < B.length → x.cps.toList[5 + k]? = B[k]? := by
    intro k hk
    rw [hcps, List.append_assoc, List.getElem?_append_right (by simp), List.getElem?_append_left (by simp; omega)]
    congr 1; simp
  have e40 : (PySem.Str.ofString "(") = ⟨#[40]⟩ := by decide
  have e41 : (PySem.Str.ofString ")") = ⟨#[41]⟩ := by decide
  have hpre : ∀ k, k < 5 → x.cps.toList[k]? = [50, 50, 57, 32, 40][k]? := by
    intro k hk
    rw [hcps, List.append_assoc, List.getElem?_append_left (by simp; omega)]
  refine ⟨?_, ?_, 5 + B.length, by omega, ?_, by omega, ?_, ?_, ?_⟩
  · have := slice_to (x := x) (b := 3) (by omega)
    have e3 : (3 : Int) = ((3 : Nat) : Int) := rfl
    rw [e3, this, hcps]
    simp
    decide
  · rw [e40]
    exact find_at (i := 4) (by rw [hpre 4 (by omega)]; rfl) (fun k hk => by
      rw [hpre k (by omega)]
      have : k = 0 ∨ k = 1 ∨ k = 2 ∨ k = 3 := by omega
      rcases this with rfl | rfl | rfl | rfl <;> simp)
  · rw [e41]
    refine find3_at (lo := 5) (i := 5 + B.length) (by omega) ?_ ?_
    · rw [hcps, List.getElem?_append_right (by simp; omega), (by simp; omega : 5 + B.length - (([50, 50, 57, 32, 40] : List Nat) ++ B).length = 0)]
      rfl
    · intro k hk1 hk2
      obtain ⟨j, rfl⟩ : ∃ j, k = 5 + j := ⟨k - 5, by omega⟩
      rw [hget j (by omega)]
      intro h
      exact hBn 41 (List.mem_of_getElem? h) rfl
  · refine item_at (i := 5) ?_
    have := hget 0 (by omega)
    rw [← hB] at this
    exact this
  · have hl : B[B.length - 1]? = some c := by
      rw [← hB]
      rw [← List.getLast?_eq_getElem?]
      simp [List.getLast?_append, List.getLast?_cons]
    have e : (((5 + B.length : Nat) : Int) - 1) = ((5 + (B.length - 1) : Nat) : Int) := by omega
    rw [e]
    refine item_at ?_
    rw [hget _ (by omega), hl]
  · have e := slice_at (x := x) (a := 5) (b := 5 + B.length) (by omega) (by omega)
    have e5 : ((4 : Int) + 1) = ((5 : Nat) : Int) := rfl
    rw [e5, e]
    refine split_glue _ (by simp) ?_ ?_
    · intro q hq
      simp only [List.mem_cons, List.not_mem_nil, or_false] at hq
      rcases hq with rfl | rfl | rfl | rfl | rfl
      · simp
      · simp; omega
      · intro h; have := hwd c h; omega
      · intro h; have := hdg c h; omega
      · simp
    · rw [hcps]
      show List.take (5 + B.length - 5) (List.drop 5 ([50, 50, 57, 32, 40] ++ B ++ [41])) = _
      have e1 : List.drop 5 ([50, 50, 57, 32, 40] ++ B ++ [41]) = B ++ [41] := rfl
      rw [e1, show 5 + B.length - 5 = B.length from by omega, List.take_left' rfl, ← hB]
      simp [glue]
theorem p229_r (w : World) (news : LLed) (pa : Addr) (mk wd host : PySem.Str) (t u v : Tok) (po n : Int) (hm : OkM mk) (hw : OkW wd) (h0 : 0 ≤ n) (h1 : n < 1000) (hpa : (pa, tup2 (.str host u) (.int po v)) ∈ news) :
    Ctr w 82 [.str (replyS mk wd n) t, .ref pa] [] 3 news
     fun N Q => ∀ D t' h' tk', N h' ((D, tup2 (.str host u) (.int n t')) :: news) → Q (.ref D) h' tk' := by
  obtain ⟨f1, f2, k, hk7, f3, f4, f5, f6, f7⟩ := reply_facts hm hw h0 h1
  have hlen := reply_len hm hw h0 h1
  have hdg := dig_facts h0 h1
  refine (p229_ok w news pa (replyS mk wd n) host t u v po n (by omega) ⟨#[]⟩ ⟨#[49]⟩ wd (dig n) ⟨#[]⟩ f1 (by rw [f2]; decide) ?_ ?_ ?_ ?_ hdg.2.2 (by have := hdg.2.1; omega)).led (fun p hp => ?_) fun N Q hN h D t' h' tk' hn => h D t' h' tk' (hN _ _ _ hn fun p hp => ?_)
  · rw [f2, f3]; omega
  · rw [f2, f3]; omega
  · rw [f2, f3, f5, f6]; simp
  · rw [f2, f3, f5]; exact f7
  · (first | (revert p; refine all_cons ?_ (fun p hp => ?_)) | rcases List.mem_cons.mp hp with rfl | hp)
    · exact hpa
    · exact hp
  · (first | (revert p; refine all_cons ?_ (fun p hp => ?_)) | rcases List.mem_cons.mp hp with rfl | hp)
    · exact List.mem_cons_self ..
    · exact List.mem_cons_of_mem _ (List.mem_cons_of_mem _ hp)
end
section
open PySem PySem.W PyProof.Rows PySem.Calls PySem.Spec
theorem add_c (w : World) (news : LLed) (a b : Int) (t u : Tok) : Ctr w 103 [.int a t, .int b u] [] 1 news fun N Q => ∀ t' h' tk', N h' news → Q (.int (a + b) t') h' tk' := by
  unfold Ctr
  have hdummy : PySem.Challenge.rw_wo0075_01 = PySem.Challenge.rw_wo0075_01 ∧ hd.heap_39 w.params = hd.heap_39 w.params := by k_fill; exact ⟨rfl, rfl⟩
  clear hdummy
  intro loose mean mg mb dp un gd cn cs a ccd cl outer A₀ base h₀ L m s Q E hB hF hX hN hT hk hdp hun hret
  rcases cs with ⟨ki, na, g1, g2, mo⟩
  dsimp only at hk
  subst hk
  (try walk_at "fe")
  repeat' (walk_at "Y")
  exact hret _ _ _ ⟨by k_asm, by k_asm⟩
theorem sub_c (w : World) (news : LLed) (a b : Int) (t u : Tok) : Ctr w 110 [.int a t, .int b u] [] 1 news fun N Q => ∀ t' h' tk', N h' news → Q (.int (a - b) t') h' tk' := by
  unfold Ctr
  have hdummy : PySem.Challenge.rw_wo0075_01 = PySem.Challenge.rw_wo0075_01 ∧ hd.heap_39 w.params = hd.heap_39 w.params := by k_fill; exact ⟨rfl, rfl⟩
  clear hdummy
  intro loose mean mg mb dp un gd cn cs a ccd cl outer A₀ base h₀ L m s Q E hB hF hX hN hT hk hdp hun hret
  rcases cs with ⟨ki, na, g1, g2, mo⟩
  dsimp only at hk
  subst hk
  (try walk_at "fe")
  repeat' (walk_at "Y")
  exact hret _ _ _ ⟨by k_asm, by k_asm⟩
theorem lt_c (w : World) (news : LLed) (a b : Int) (t u : Tok) : Ctr w 96 [.int a t, .int b u] [] 1 news fun N Q => ∀ h' tk', N h' news → Q (.bool (decide (a < b))) h' tk' := by
  unfold Ctr
  have hdummy : PySem.Challenge.rw_wo0075_01 = PySem.Challenge.rw_wo0075_01 ∧ hd.heap_39 w.params = hd.heap_39 w.params := by k_fill; exact ⟨rfl, rfl⟩
  clear hdummy
  intro loose mean mg mb dp un gd cn cs a ccd cl outer A₀ base h₀ L m s Q E hB hF hX hN hT hk hdp hun hret
  rcases cs with ⟨ki, na, g1, g2, mo⟩
  dsimp only at hk
  subst hk
  (try walk_at "fe")
  repeat' (walk_at "Y")
  exact hret _ _ ⟨by k_asm, by k_asm⟩
end
section
open PySem PySem.W PyProof.Rows PySem.Calls PySem.Spec
abbrev nmK (k : Int) : PySem.Str := Txt.item (PySem.Str.ofString "KLM") k
abbrev nmk (k : Int) : PySem.Str := Txt.item (PySem.Str.ofString "kLm") k
theorem nm_facts : ∀ k : Int, 0 ≤ k → k < 3 → Plain (Txt.lower (nmK k)) ∧ (Txt.lower (nmK k)).length ≤ 1000 ∧ (nmK k).length ≤ 1000 ∧ Plain (nmk k) ∧ (nmk k).length ≤ 10 := by
  intro k h0 h1
  have : k = 0 ∨ k = 1 ∨ k = 2 := by omega
  unfold Plain
  rcases this with rfl | rfl | rfl <;> decide
theorem okM_len {m : PySem.Str} (h : OkM m) : m.length ≤ 1 := by
  rcases h with rfl | rfl | rfl <;> decide
theorem my_last_drop {prog : Program} {w : World} {A : Around} {E Q : Value → Shared → Prop} {s : Shared} {h₀ : Heap} {L l : Addr} {m : PySem.Str → Option Value} {news : LLed} {ys : List Value} {value slice : PySem.Expr} {u : Tok} {v : Value}
    (N : News h₀ L s.heap ((l, LCg.lst ys) :: news)) (hx : ys.getLast? = some v) (h : News h₀ L s.heap news → Q v s)
    (hs : subscripted slice false (.ref l) (.int (-1) u) = operate [.ref l, .int (-1) u] (getItem (.ref l) (.int (-1) u)) := by with_unfolding_all rfl) :
    wpAny (model prog w) A (subscriptTail value slice (.ref l) (.int (-1) u)) Q E s :=
  my_last N (List.mem_cons_self ..) hx (h (News.sub N fun p hp => List.mem_cons_of_mem _ hp)) hs
def LV (vs : List Value) (n : Int) (g : Int → Value) : Prop := ∀ k : Int, 0 ≤ k → k < n → vs[k.toNat]? = some (g k)
theorem my_itemL {prog : Program} {w : World} {A : Around} {E Q : Value → Shared → Prop} {s : Shared} {h₀ : Heap} {L l : Addr} {m : PySem.Str → Option Value} {news : LLed} {vs : List Value} {n : Nat} {value slice : PySem.Expr} {k N : Int} {u : Tok} {g : Int → Value}
    (Nw : News h₀ L s.heap news) (hm : (l, W.listOf vs.toArray n) ∈ news) (hf : LV vs N g) (h0 : 0 ≤ k) (h1 : k < N) (hN : N ≤ 1000) (h : Q (g k) s)
    (hs : subscripted slice false (.ref l) (.int k u) = operate [.ref l, .int k u] (getItem (.ref l) (.int k u)) := by with_unfolding_all rfl) :
    wpAny (model prog w) A (subscriptTail value slice (.ref l) (.int k u)) Q E s := my_item Nw hm h0 (by omega) (hf k h0 h1) h hs
def OkR (x : PySem.Str) (n : Int) : Prop := ∃ mk wd, OkM mk ∧ OkW wd ∧ 0 ≤ n ∧ n < 1000 ∧ x = replyS mk wd n
theorem p229_k (w : World) (news : LLed) (pa : Addr) (x host : PySem.Str) (t u v : Tok) (po n : Int) (hx : OkR x n) (hpa : (pa, tup2 (.str host u) (.int po v)) ∈ news) :
    Ctr w 82 [.str x t, .ref pa] [] 3 news fun N Q => ∀ D t' h' tk', N h' ((D, tup2 (.str host u) (.int n t')) :: news) → Q (.ref D) h' tk' := by
  obtain ⟨mk, wd, hm, hw, h0, h1, rfl⟩ := hx
  exact p229_r w news pa mk wd host t u v po n hm hw h0 h1 hpa
def LastP (ps : List (PySem.Str × PySem.Str)) (p : List Int) : Prop := ∀ k : Int, 0 ≤ k → k < 3 → ∃ x, (sel (Txt.lower (nmK k)) ps).getLast? = some x ∧ OkR x (p.getD k.toNat 0)
theorem lastP_at {ys : List Value} {ps : List (PySem.Str × PySem.Str)} {p : List Int} {k : Int} (hv : VS ys (sel (Txt.lower (nmK k)) ps)) (h : LastP ps p) (h0 : 0 ≤ k) (h1 : k < 3) : ∃ t x, OkR x (p.getD k.toNat 0) ∧ ys.getLast? = some (.str x t) := by
  obtain ⟨x, hx, hr⟩ := h k h0 h1
  obtain ⟨t, ht⟩ := hv.last hx
  exact ⟨t, x, hr, ht⟩
structure RD where
  p : List Int
  ps : List (PySem.Str × PySem.Str)
  r : Int
def turnD (mk : PySem.Str) (F : Int → List Int) (ord : List Int) (wd : Int → PySem.Str) (i j : Int) (d : RD) : RD :=
  let o := ord.getD i.toNat 0
  let wth := d.p.getD o.toNat 0 + (F i).getD (3 + o).toNat 0 - (F i).getD (3 + j).toNat 0
  if d.p.getD j.toNat 0 < wth then { p := d.p.set j.toNat wth, ps := d.ps ++ [(nmk j, replyS mk (wd o) wth)], r := d.r + 1 } else d
structure Rnd (w : World) (rest : LLed) (px pd ah af ao aw : Addr) (kt : Tok) (mk : PySem.Str) (farvs ordvs wanvs : List Value) (rows : Int → Addr) (rowvs : Int → List Value) (naf nao naw : Nat) (nrow : Int → Nat) (F : Int → List Int) (ord : List Int) (wd : Int → PySem.Str) (tw : Int → Tok) : Prop where
  hpx : (px, instObj 282 pd) ∈ rest
  hpd : (pd, hdict w kt ah) ∈ rest
  haf : (af, W.listOf farvs.toArray naf) ∈ rest
  hfar : LV farvs 6 fun k => .ref (rows k)
  hrow : ∀ i : Int, 0 ≤ i → i < 3 → (rows i, W.listOf (rowvs i).toArray (nrow i)) ∈ rest
  hri : ∀ i : Int, 0 ≤ i → i < 3 → IntsAre (rowvs i) (F i) ∧ (F i).length = 6
  hfb : ∀ i k : Int, 0 ≤ i → i < 3 → 0 ≤ k → k < 6 → 0 ≤ (F i).getD k.toNat 0 ∧ (F i).getD k.toNat 0 ≤ 6
  hao : (ao, W.listOf ordvs.toArray nao) ∈ rest
  hord : IntsAre ordvs ord ∧ ord.length = 3
  hown : ∀ i : Int, 0 ≤ i → i < 3 → 0 ≤ ord.getD i.toNat 0 ∧ ord.getD i.toNat 0 < 3
  haw : (aw, W.listOf wanvs.toArray naw) ∈ rest
  hwan : LV wanvs 3 fun k => .str (wd k) (tw k)
  hwd : ∀ k : Int, 0 ≤ k → k < 3 → OkW (wd k)
  hmk : OkM mk
structure RI (T : LLed) (vs lv pv : List Value) (mk : PySem.Str) (d : RD) (b : Int) (c : Nat) : Prop where
  hv : HL T vs d.ps
  hl : HL T lv d.ps
  hp : IntsAre pv d.p
  hpl : d.p.length = 3
  hb0 : ∀ k : Int, 0 ≤ k → k < 3 → 0 ≤ d.p.getD k.toNat 0
  hb1 : ∀ k : Int, 0 ≤ k → k < 3 → d.p.getD k.toNat 0 ≤ b
  hc : d.ps.length ≤ c
  hz : ∀ q ∈ d.ps, q.1.length ≤ 10
  hlast : LastP d.ps d.p
theorem ins_self {m : PySem.Str → Option Value} {k : PySem.Str} {v : Option Value} (h : m k = v) : m = fun y => if y = k then v else m y := by
  funext y
  by_cases e : y = k
  · subst e; rw [if_pos rfl]; exact h
  · rw [if_neg e]
def RM (ks : List PySem.Str) (m₀ : PySem.Str → Option Value) (r : Int) (m : PySem.Str → Option Value) : Prop :=
  ∃ tr u, m = fun y => if y = PySem.Str.ofString "rises" then some (.int r tr) else ovr ks u m₀ y
theorem rm_start {ks : List PySem.Str} {m : PySem.Str → Option Value} {r r' : Int} {t : Tok} (e : r' = r) (h : m (PySem.Str.ofString "rises") = some (.int r t)) : RM ks m r' m := by
  subst e
  exact ⟨t, m, by rw [ovr_self]; exact ins_self h⟩
def innerD (mk : PySem.Str) (F : Int → List Int) (ord : List Int) (wd : Int → PySem.Str) (i : Int) : Nat → RD → RD
  | 0, d => d
  | j + 1, d => turnD mk F ord wd i (j : Int) (innerD mk F ord wd i j d)
def outerD (mk : PySem.Str) (F : Int → List Int) (ord : List Int) (wd : Int → PySem.Str) : Nat → RD → RD
  | 0, d => d
  | i + 1, d => innerD mk F ord wd (i : Int) 3 (outerD mk F ord wd i d)
theorem tup_ne {h₀ h : Heap} {L a b : Addr} {l : LLed} {x y : Value} {xs : Array Value} {n : Nat} (N : News h₀ L h l) (ha : (a, tup2 x y) ∈ l) (hb : (b, W.listOf xs n) ∈ l) : a ≠ b := by
  rintro rfl
  have e1 := (N _ ha).1
  have e2 := (N _ hb).1
  rw [e1] at e2
  have e3 := congrArg (fun o : Option Obj => o.map (·.cls)) e2
  simp at e3
theorem rm_skip {ks : List PySem.Str} {m₀ m : PySem.Str → Option Value} {r : Int} {k : PySem.Str} {v : Option Value} (h : ks.contains k = true) (hk : k ≠ PySem.Str.ofString "rises") (e : RM ks m₀ r m) : RM ks m₀ r (fun y => if y = k then v else m y) := by
  obtain ⟨tr, u, rfl⟩ := e
  refine ⟨tr, fun y => if y = k then v else u y, ?_⟩
  funext y
  show (if y = k then v else if y = PySem.Str.ofString "rises" then some (.int r tr) else ovr ks u m₀ y) = if y = PySem.Str.ofString "rises" then some (.int r tr) else ovr ks (fun y => if y = k then v else u y) m₀ y
  by_cases e1 : y = k
  · subst e1
    rw [if_pos rfl, if_neg hk]
    unfold ovr
    rw [if_pos h]
    exact (if_pos rfl).symm
  · rw [if_neg e1]
    split
    · rfl
    · unfold ovr
      show _ = if ks.contains y = true then (if y = k then v else u y) else m₀ y
      rw [if_neg e1]
theorem rm_set {ks : List PySem.Str} {m₀ m : PySem.Str → Option Value} {r r' : Int} {t : Tok} (e : RM ks m₀ r m) : RM ks m₀ r' (fun y => if y = PySem.Str.ofString "rises" then some (.int r' t) else m y) := by
  obtain ⟨tr, u, rfl⟩ := e
  refine ⟨t, u, ?_⟩
  funext y
  show (if y = PySem.Str.ofString "rises" then some (.int r' t) else if y = PySem.Str.ofString "rises" then some (.int r tr) else ovr ks u m₀ y) = if y = PySem.Str.ofString "rises" then some (.int r' t) else ovr ks u m₀ y
  by_cases e1 : y = PySem.Str.ofString "rises"
  · rw [if_pos e1, if_pos e1]
  · rw [if_neg e1, if_neg e1, if_neg e1]
theorem nm_eq : ∀ j k : Int, 0 ≤ j → j < 3 → 0 ≤ k → k < 3 → (Txt.lower (nmk j) == Txt.lower (nmK k)) = decide (j = k) := by
  intro j k h0 h1 h2 h3
  have a : j = 0 ∨ j = 1 ∨ j = 2 := by omega
  have b : k = 0 ∨ k = 1 ∨ k = 2 := by omega
  rcases a with rfl | rfl | rfl <;> rcases b with rfl | rfl | rfl <;> decide
theorem getD_set (p : List Int) (i k : Nat) (x : Int) (h : i < p.length) : (p.set i x).getD k 0 = if i = k then x else p.getD k 0 := by
  by_cases e : i = k
  · subst e
    rw [if_pos rfl, List.getD_eq_getElem?_getD, List.getElem?_set_self h]
    rfl
  · rw [if_neg e, List.getD_eq_getElem?_getD, List.getElem?_set_ne e, ← List.getD_eq_getElem?_getD]
theorem LastP.snoc {ps : List (PySem.Str × PySem.Str)} {p : List Int} {j wth : Int} {x : PySem.Str} (h : LastP ps p) (hp : p.length = 3) (h0 : 0 ≤ j) (h1 : j < 3) (hx : OkR x wth) : LastP (ps ++ [(nmk j, x)]) (p.set j.toNat wth) := by
  intro k k0 k1
  rw [sel_snoc, nm_eq j k h0 h1 k0 k1, getD_set _ _ _ _ (by omega)]
  by_cases e : j = k
  · subst e
    rw [if_pos (by simp), if_pos rfl]
    exact ⟨x, by simp, hx⟩
  · rw [if_neg (by simpa using e), if_neg (by omega)]
    exact h k k0 k1
theorem RI.mono {T T' : LLed} {vs lv pv : List Value} {mk : PySem.Str} {d : RD} {b b' : Int} {c c' : Nat} (h : RI T vs lv pv mk d b c) (hT : ∀ p ∈ T, p ∈ T') (hb : b ≤ b') (hc : c ≤ c') : RI T' vs lv pv mk d b' c' :=
  ⟨h.hv.mono hT, h.hl.mono hT, h.hp, h.hpl, h.hb0, fun k h0 h1 => Int.le_trans (h.hb1 k h0 h1) hb, Nat.le_trans h.hc hc, h.hz, h.hlast⟩
theorem RI.up {T T' : LLed} {vs lv pv : List Value} {mk wd : PySem.Str} {d : RD} {b b' : Int} {c c' : Nat} {j wth : Int} {a e : Addr} {t1 t2 u1 u2 t : Tok} (h : RI T vs lv pv mk d b c) (hT : ∀ p ∈ T, p ∈ T') (hb : b ≤ b') (hc : c + 1 ≤ c') (h0 : 0 ≤ j) (h1 : j < 3) (hw0 : 0 ≤ wth) (hw1 : wth ≤ b') (hw2 : wth < 1000) (hm : OkM mk) (hw : OkW wd)
    (ha : (a, tup2 (.str (nmk j) t1) (.str (replyS mk wd wth) u1)) ∈ T') (he : (e, tup2 (.str (nmk j) t2) (.str (replyS mk wd wth) u2)) ∈ T') :
    RI T' (vs ++ [.ref a]) (lv ++ [.ref e]) (pv.set j.toNat (.int wth t)) mk ⟨d.p.set j.toNat wth, d.ps ++ [(nmk j, replyS mk wd wth)], d.r + 1⟩ b' c' where
  hv := HL.snoc ha (h.hv.mono hT)
  hl := HL.snoc he (h.hl.mono hT)
  hp := ints_set h.hp _
  hpl := by simpa using h.hpl
  hb0 := fun k k0 k1 => by
    rw [getD_set _ _ _ _ (by have := h.hpl; omega)]
    split
    · exact hw0
    · exact h.hb0 k k0 k1
  hb1 := fun k k0 k1 => by
    rw [getD_set _ _ _ _ (by have := h.hpl; omega)]
    split
    · exact hw1
    · exact Int.le_trans (h.hb1 k k0 k1) hb
  hc := by simp; have := h.hc; omega
  hz := fun q hq => by
    rcases List.mem_append.mp hq with hq | hq
    · exact h.hz q hq
    · rw [List.mem_singleton.mp hq]
      exact (nm_facts j h0 h1).2.2.2.2
  hlast := h.hlast.snoc h.hpl h0 h1 ⟨mk, wd, hm, hw, hw0, hw2, rfl⟩
theorem inner_up {h₀ h : Heap} {L I2 I ah al apl a e : Addr} {oI2 oI o1 o2 : Obj} {x1 x2 : Addr} {T T2 : LLed} {vs lv pv : List Value} {m1 m2 m3 : Nat} {mk wd : PySem.Str} {d : RD} {b b' : Int} {c c' : Nat} {j wth : Int} {t1 t2 u1 u2 t : Tok}
    (hN : News h₀ L h ((e, tup2 (.str (nmk j) t2) (.str (replyS mk wd wth) u2)) :: (a, tup2 (.str (nmk j) t1) (.str (replyS mk wd wth) u1)) :: (x1, o1) :: (x2, o2) :: (I2, oI2) :: (I, oI) :: (ah, W.listOf (vs ++ [Value.ref a]).toArray m1) :: (al, W.listOf (lv.toArray.push (Value.ref e)) m2) :: (apl, W.listOf (pv.set j.toNat (Value.int wth t)).toArray m3) :: T2))
    (hI : RI T2 vs lv pv mk d b c) (hT : ∀ p ∈ T, p ∈ T2) (s1 : ∀ p ∈ T2, p.1 ≠ ah) (s2 : ∀ p ∈ T2, p.1 ≠ al) (s3 : ∀ p ∈ T2, p.1 ≠ apl) (s4 : ∀ p ∈ T2, p.1 ≠ I2) (s5 : ∀ p ∈ T2, p.1 ≠ I)
    (ha : I2 < a ∧ I < a ∧ ah < a ∧ al < a ∧ apl < a) (he : I2 < e ∧ I < e ∧ ah < e ∧ al < e ∧ apl < e)
    (hb : b ≤ b') (hc : c + 1 ≤ c') (h0 : 0 ≤ j) (h1 : j < 3) (hw0 : 0 ≤ wth) (hw1 : wth ≤ b') (hw2 : wth < 1000) (hm : OkM mk) (hw : OkW wd) :
    ∃ T3, (∀ p ∈ T, p ∈ T3) ∧ RI T3 (vs ++ [Value.ref a]) (lv ++ [Value.ref e]) (pv.set j.toNat (Value.int wth t)) mk ⟨d.p.set j.toNat wth, d.ps ++ [(nmk j, replyS mk wd wth)], d.r + 1⟩ b' c' ∧
      (∀ p ∈ T3, p.1 ≠ ah) ∧ (∀ p ∈ T3, p.1 ≠ al) ∧ (∀ p ∈ T3, p.1 ≠ apl) ∧ (∀ p ∈ T3, p.1 ≠ I2) ∧ (∀ p ∈ T3, p.1 ≠ I) ∧
      News h₀ L h ((I2, oI2) :: (I, oI) :: (ah, W.listOf (vs ++ [Value.ref a]).toArray m1) :: (al, W.listOf (lv ++ [Value.ref e]).toArray m2) :: (apl, W.listOf (pv.set j.toNat (Value.int wth t)).toArray m3) :: T3) := by
  have key : ∀ (x : Addr), x < a → x < e → (∀ p ∈ T2, p.1 ≠ x) → ∀ p ∈ ((e, tup2 (.str (nmk j) t2) (.str (replyS mk wd wth) u2)) :: (a, tup2 (.str (nmk j) t1) (.str (replyS mk wd wth) u1)) :: T2 : LLed), p.1 ≠ x := by
    intro x hx1 hx2 hx p hp
    (first | (revert p; refine all_cons ?_ (fun p hp => ?_)) | rcases List.mem_cons.mp hp with rfl | hp)
    · exact (Nat.ne_of_lt hx2).symm
    (first | (revert p; refine all_cons ?_ (fun p hp => ?_)) | rcases List.mem_cons.mp hp with rfl | hp)
    · exact (Nat.ne_of_lt hx1).symm
    · exact hx p hp
  have hT2 : ∀ p ∈ T2, p ∈ ((e, tup2 (.str (nmk j) t2) (.str (replyS mk wd wth) u2)) :: (a, tup2 (.str (nmk j) t1) (.str (replyS mk wd wth) u1)) :: T2 : LLed) := fun p hp => List.mem_cons_of_mem _ (List.mem_cons_of_mem _ hp)
  rw [push_list] at hN
  refine ⟨_, fun p hp => hT2 p (hT p hp), hI.up hT2 hb hc h0 h1 hw0 hw1 hw2 hm hw (List.mem_cons_of_mem _ (List.mem_cons_self ..)) (List.mem_cons_self ..), key _ ha.2.2.1 he.2.2.1 s1, key _ ha.2.2.2.1 he.2.2.2.1 s2, key _ ha.2.2.2.2 he.2.2.2.2 s3, key _ ha.1 he.1 s4, key _ ha.2.1 he.2.1 s5, News.sub hN ?_⟩
  intro p hp
  revert p; (repeat (refine sub_cons (by repeat (first | exact List.Mem.head _ | apply List.Mem.tail)) ?_)); (repeat (first | exact fun _ h => h | refine sub_tail ?_))
theorem rm_widen {ks ks' : List PySem.Str} {m₀ m₁ m : PySem.Str → Option Value} {r r₁ : Int} (hs : (ks.all fun k => ks'.contains k) = true) (e : RM ks m₁ r m) (e₁ : RM ks' m₀ r₁ m₁) : RM ks' m₀ r m := by
  obtain ⟨tr, u, rfl⟩ := e
  obtain ⟨tr₁, u₁, rfl⟩ := e₁
  refine ⟨tr, fun y => if ks.contains y = true then u y else u₁ y, ?_⟩
  funext y
  show (if y = PySem.Str.ofString "rises" then some (.int r tr) else if ks.contains y = true then u y else if y = PySem.Str.ofString "rises" then some (.int r₁ tr₁) else if ks'.contains y = true then u₁ y else m₀ y) = if y = PySem.Str.ofString "rises" then some (.int r tr) else if ks'.contains y = true then (if ks.contains y = true then u y else u₁ y) else m₀ y
  by_cases e1 : y = PySem.Str.ofString "rises"
  · rw [if_pos e1, if_pos e1]
  · rw [if_neg e1, if_neg e1, if_neg e1]
    by_cases e2 : ks.contains y = true
    · have e3 : ks'.contains y = true := by
        have := List.all_eq_true.mp hs y (by simpa using e2)
        exact this
      rw [if_pos e2, if_pos e3, if_pos e2]
    · rw [if_neg e2, if_neg e2]
end
section
open PySem PySem.W PyProof.Rows PySem.Calls PySem.Spec
def svd (F : Int → List Int) (ord : List Int) (i j : Nat) : Int := (F (i : Int)).getD (3 + (ord.getD i 0).toNat) 0 - (F (i : Int)).getD (3 + j) 0
def oOf (ord : List Int) (i : Nat) : Nat := (ord.getD i 0).toNat
structure OrdOk (ord : List Int) : Prop where
  lo : ∀ i, i < 3 → 0 ≤ ord.getD i 0
  hi : ∀ i, i < 3 → ord.getD i 0 < 3
section
variable {mk : PySem.Str} {F : Int → List Int} {ord : List Int} {wd : Int → PySem.Str}
theorem turn_at (ho : OrdOk ord) {i j : Nat} (hi : i < 3) (d : RD) :
    turnD mk F ord wd (i : Int) (j : Int) d = if d.p.getD j 0 < d.p.getD (oOf ord i) 0 + svd F ord i j then { p := d.p.set j (d.p.getD (oOf ord i) 0 + svd F ord i j), ps := d.ps ++ [(nmk j, replyS mk (wd (ord.getD i 0)) (d.p.getD (oOf ord i) 0 + svd F ord i j))], r := d.r + 1 } else d := by
  have h0 := ho.lo i hi
  have h1 := ho.hi i hi
  have e1 : ((i : Int)).toNat = i := rfl
  have e2 : ((j : Int)).toNat = j := rfl
  have e3 : (3 + ord.getD i 0).toNat = 3 + (ord.getD i 0).toNat := by omega
  have e4 : (3 + (j : Int)).toNat = 3 + j := by omega
  have e5 : d.p.getD (ord.getD i 0).toNat 0 + (F (i : Int)).getD (3 + (ord.getD i 0).toNat) 0 - (F (i : Int)).getD (3 + j) 0 = d.p.getD (oOf ord i) 0 + svd F ord i j := by
    unfold svd oOf; omega
  unfold turnD
  simp only [e1, e2, e3, e4, e5]
structure Up (d d' : RD) : Prop where
  len : d'.p.length = 3
  le : ∀ k, k < 3 → d.p.getD k 0 ≤ d'.p.getD k 0
  r : d.r ≤ d'.r
  same : d'.r = d.r → d' = d
theorem Up.refl {d : RD} (h : d.p.length = 3) : Up d d := ⟨h, fun _ _ => Int.le_refl _, Int.le_refl _, fun _ => rfl⟩
theorem Up.trans {a b c : RD} (h : Up a b) (k : Up b c) : Up a c := by
  refine ⟨k.len, fun i hi => Int.le_trans (h.le i hi) (k.le i hi), Int.le_trans h.r k.r, fun e => ?_⟩
  have h1 := h.r
  have h2 := k.r
  have e1 : c = b := k.same (by omega)
  have e2 : b = a := h.same (by rw [← e, e1])
  rw [e1, e2]
theorem turn_up (ho : OrdOk ord) {i j : Nat} (hi : i < 3) (hj : j < 3) {d : RD} (hp : d.p.length = 3) :
    Up d (turnD mk F ord wd (i : Int) (j : Int) d) ∧ d.p.getD (oOf ord i) 0 + svd F ord i j ≤ (turnD mk F ord wd (i : Int) (j : Int) d).p.getD j 0 ∧
    (∀ B : Nat → Int, (∀ k, k < 3 → d.p.getD k 0 ≤ B k) → d.p.getD (oOf ord i) 0 + svd F ord i j ≤ B j → ∀ k, k < 3 → (turnD mk F ord wd (i : Int) (j : Int) d).p.getD k 0 ≤ B k) := by
  rw [turn_at ho hi]
  by_cases h : d.p.getD j 0 < d.p.getD (oOf ord i) 0 + svd F ord i j
  · rw [if_pos h]
    refine ⟨⟨by simpa using hp, fun k hk => ?_, by show d.r ≤ d.r + 1; omega, fun e => ?_⟩, ?_, fun B hB hj2 k hk => ?_⟩
    · show _ ≤ (d.p.set j _).getD k 0
      rw [getD_set _ _ _ _ (by omega)]
      split
      · rename_i e; subst e; omega
      · exact Int.le_refl _
    · exact absurd (show d.r + 1 = d.r from e) (by omega)
    · show _ ≤ (d.p.set j _).getD j 0
      rw [getD_set _ _ _ _ (by omega), if_pos rfl]
      exact Int.le_refl _
    · show (d.p.set j _).getD k 0 ≤ _
      rw [getD_set _ _ _ _ (by omega)]
      split
      · rename_i e; subst e; exact hj2
      · exact hB k hk
  · rw [if_neg h]
    exact ⟨Up.refl hp, by omega, fun B hB _ => hB⟩
theorem inner_up' (ho : OrdOk ord) {i : Nat} (hi : i < 3) {d : RD} (hp : d.p.length = 3) : ∀ n, n ≤ 3 →
    Up d (innerD mk F ord wd (i : Int) n d) ∧ (∀ j, j < n → d.p.getD (oOf ord i) 0 + svd F ord i j ≤ (innerD mk F ord wd (i : Int) n d).p.getD j 0) ∧
    (∀ B : Nat → Int, (∀ k, k < 3 → d.p.getD k 0 ≤ B k) → (∀ j, j < 3 → B (oOf ord i) + svd F ord i j ≤ B j) → ∀ k, k < 3 → (innerD mk F ord wd (i : Int) n d).p.getD k 0 ≤ B k) := by
  have ho3 : oOf ord i < 3 := by have := ho.hi i hi; have := ho.lo i hi; unfold oOf; omega
  intro n
  induction n with
  | zero => intro _; exact ⟨Up.refl hp, fun _ h => absurd h (by omega), fun B hB _ => hB⟩
  | succ n ih =>
    intro hn
    obtain ⟨u, c, b⟩ := ih (by omega)
    obtain ⟨u2, c2, b2⟩ := turn_up (mk := mk) (F := F) (wd := wd) ho hi (show n < 3 by omega) u.len
    have hoo := u.le _ ho3
    refine ⟨u.trans u2, fun j hj => ?_, fun B hB hw k hk => ?_⟩
    · by_cases e : j = n
      · subst e
        exact Int.le_trans (by omega) c2
      · exact Int.le_trans (c j (by omega)) (u2.le j (by omega))
    · refine b2 B (b B hB hw) ?_ k hk
      have := b B hB hw _ ho3
      have := hw n (by omega)
      omega
theorem outer_up (ho : OrdOk ord) {d : RD} (hp : d.p.length = 3) : ∀ n, n ≤ 3 →
    Up d (outerD mk F ord wd n d) ∧ (∀ i j, i < n → j < 3 → d.p.getD (oOf ord i) 0 + svd F ord i j ≤ (outerD mk F ord wd n d).p.getD j 0) ∧
    (∀ B : Nat → Int, (∀ k, k < 3 → d.p.getD k 0 ≤ B k) → (∀ i j, i < 3 → j < 3 → B (oOf ord i) + svd F ord i j ≤ B j) → ∀ k, k < 3 → (outerD mk F ord wd n d).p.getD k 0 ≤ B k) := by
  intro n
  induction n with
  | zero => intro _; exact ⟨Up.refl hp, fun _ _ h => absurd h (by omega), fun B hB _ => hB⟩
  | succ n ih =>
    intro hn
    obtain ⟨u, c, b⟩ := ih (by omega)
    obtain ⟨u2, c2, b2⟩ := inner_up' (mk := mk) (F := F) (wd := wd) ho (show n < 3 by omega) u.len 3 (by omega)
    have ho3 : oOf ord n < 3 := by have := ho.hi n (by omega); have := ho.lo n (by omega); unfold oOf; omega
    have hoo := u.le _ ho3
    refine ⟨u.trans u2, fun i j hi hj => ?_, fun B hB hw k hk => ?_⟩
    · by_cases e : i = n
      · subst e
        exact Int.le_trans (by omega) (c2 j hj)
      · exact Int.le_trans (c i j (by omega) hj) (u2.le j hj)
    · exact b2 B (b B hB hw) (fun j hj => hw n j (by omega) hj) k hk
theorem round_rest (ho : OrdOk ord) {d : RD} (hp : d.p.length = 3) : (outerD mk F ord wd 3 d).r = d.r ↔ ∀ i j, i < 3 → j < 3 → d.p.getD (oOf ord i) 0 + svd F ord i j ≤ d.p.getD j 0 := by
  obtain ⟨u, c, b⟩ := outer_up (mk := mk) (F := F) (wd := wd) ho hp 3 (by omega)
  constructor
  · intro e i j hi hj
    have := c i j hi hj
    rw [u.same e] at this
    exact this
  · intro h
    have key : ∀ n, n ≤ 3 → outerD mk F ord wd n d = d := by
      intro n
      induction n with
      | zero => intro _; rfl
      | succ n ih =>
        intro hn
        show innerD mk F ord wd (n : Int) 3 (outerD mk F ord wd n d) = d
        rw [ih (by omega)]
        have k2 : ∀ m, m ≤ 3 → innerD mk F ord wd (n : Int) m d = d := by
          intro m
          induction m with
          | zero => intro _; rfl
          | succ m ihm =>
            intro hm
            show turnD mk F ord wd (n : Int) (m : Int) (innerD mk F ord wd (n : Int) m d) = d
            rw [ihm (by omega), turn_at ho (by omega), if_neg]
            have := h n m (by omega) (by omega)
            omega
        exact k2 3 (by omega)
    rw [key 3 (by omega)]
end
end
section
open PySem PySem.W PyProof.Rows PySem.Calls PySem.Spec
structure Inv (ord : List Int) (iv : Nat → Nat) : Prop where
  lt : ∀ a, a < 3 → iv a < 3
  o : ∀ a, a < 3 → oOf ord (iv a) = a
  i : ∀ i, i < 3 → iv (oOf ord i) = i
structure Still (s : Nat → Nat → Int) : Prop where
  z : ∀ a, a < 3 → s a a = 0
  two : ∀ a b, a < 3 → b < 3 → s a b + s b a ≤ 0
  three : ∀ a b c, a < 3 → b < 3 → c < 3 → s a b + s b c + s c a ≤ 0
def leastB (s : Nat → Nat → Int) : Nat → Int
  | 0 => max 0 (max (s 1 0) (max (s 2 0) (max (s 1 2 + s 2 0) (s 2 1 + s 1 0))))
  | 1 => max 0 (max (s 0 1) (max (s 2 1) (max (s 0 2 + s 2 1) (s 2 0 + s 0 1))))
  | _ => max 0 (max (s 0 2) (max (s 1 2) (max (s 0 1 + s 1 2) (s 1 0 + s 0 2))))
theorem three {i : Nat} (h : i < 3) : i = 0 ∨ i = 1 ∨ i = 2 := by omega
theorem m5_step {a b c d x a' b' c' d' : Int} (h : ∀ y, 0 ≤ y → a' ≤ y → b' ≤ y → c' ≤ y → d' ≤ y → x ≤ y ∧ a + x ≤ y ∧ b + x ≤ y ∧ c + x ≤ y ∧ d + x ≤ y) :
    max 0 (max a (max b (max c d))) + x ≤ max 0 (max a' (max b' (max c' d'))) := by
  have l1 := Int.le_max_left a' (max b' (max c' d'))
  have r1 := Int.le_max_right a' (max b' (max c' d'))
  have l2 := Int.le_max_left b' (max c' d')
  have r2 := Int.le_max_right b' (max c' d')
  have l3 := Int.le_max_left c' d'
  have r3 := Int.le_max_right c' d'
  have l0 := Int.le_max_left 0 (max a' (max b' (max c' d')))
  have r0 := Int.le_max_right 0 (max a' (max b' (max c' d')))
  obtain ⟨h0, h1, h2, h3, h4⟩ := h _ l0 (Int.le_trans l1 r0) (Int.le_trans l2 (Int.le_trans r1 r0)) (Int.le_trans l3 (Int.le_trans r2 (Int.le_trans r1 r0))) (Int.le_trans r3 (Int.le_trans r2 (Int.le_trans r1 r0)))
  generalize max 0 (max a' (max b' (max c' d'))) = y at *
  refine Int.add_le_of_le_sub_right (Int.max_le.mpr ⟨?_, Int.max_le.mpr ⟨?_, Int.max_le.mpr ⟨?_, Int.max_le.mpr ⟨?_, ?_⟩⟩⟩⟩)
  · exact Int.sub_nonneg_of_le h0
  · exact Int.le_sub_right_of_add_le h1
  · exact Int.le_sub_right_of_add_le h2
  · exact Int.le_sub_right_of_add_le h3
  · exact Int.le_sub_right_of_add_le h4
theorem m5_0 (a b c d e : Int) : a ≤ max a (max b (max c (max d e))) := Int.le_max_left _ _
theorem m5_1 (a b c d e : Int) : b ≤ max a (max b (max c (max d e))) := Int.le_trans (Int.le_max_left _ _) (Int.le_max_right _ _)
theorem m5_2 (a b c d e : Int) : c ≤ max a (max b (max c (max d e))) := Int.le_trans (Int.le_max_left _ _) (Int.le_trans (Int.le_max_right _ _) (Int.le_max_right _ _))
theorem m5_3 (a b c d e : Int) : d ≤ max a (max b (max c (max d e))) := Int.le_trans (Int.le_max_left _ _) (Int.le_trans (Int.le_max_right _ _) (Int.le_trans (Int.le_max_right _ _) (Int.le_max_right _ _)))
theorem m5_4 (a b c d e : Int) : e ≤ max a (max b (max c (max d e))) := Int.le_trans (Int.le_max_right _ _) (Int.le_trans (Int.le_max_right _ _) (Int.le_trans (Int.le_max_right _ _) (Int.le_max_right _ _)))
theorem m5_add {a b c d e t y : Int} (h0 : a + t ≤ y) (h1 : b + t ≤ y) (h2 : c + t ≤ y) (h3 : d + t ≤ y) (h4 : e + t ≤ y) : max a (max b (max c (max d e))) + t ≤ y :=
  Int.add_le_of_le_sub_right (Int.max_le.mpr ⟨Int.le_sub_right_of_add_le h0, Int.max_le.mpr ⟨Int.le_sub_right_of_add_le h1, Int.max_le.mpr ⟨Int.le_sub_right_of_add_le h2, Int.max_le.mpr ⟨Int.le_sub_right_of_add_le h3, Int.le_sub_right_of_add_le h4⟩⟩⟩⟩)
theorem lr_one {aj ja ca jc cj y : Int} (t : aj + ja ≤ 0) (u : jc + ca + aj ≤ 0) (y0 : 0 ≤ y) (y1 : aj ≤ y) (y2 : cj ≤ y) (y4 : ca + aj ≤ y) : max 0 (max ja (max ca (max (jc + ca) (cj + ja)))) + aj ≤ y :=
  m5_add (by omega) (by omega) y4 (by omega) (by omega)
theorem lr_two {aj ja ca jc cj y : Int} (t : aj + ja ≤ 0) (u : jc + ca + aj ≤ 0) (y0 : 0 ≤ y) (y1 : aj ≤ y) (y2 : cj ≤ y) (y4 : ca + aj ≤ y) : max 0 (max ca (max ja (max (cj + ja) (jc + ca)))) + aj ≤ y :=
  m5_add (by omega) y4 (by omega) (by omega) (by omega)
theorem least_rest {s : Nat → Nat → Int} (h : Still s) : ∀ a j, a < 3 → j < 3 → leastB s a + s a j ≤ leastB s j := by
  have d0 : (0 : Nat) < 3 := by decide
  have d1 : (1 : Nat) < 3 := by decide
  have d2 : (2 : Nat) < 3 := by decide
  intro a j ha hj
  rcases three ha with rfl | rfl | rfl <;> rcases three hj with rfl | rfl | rfl
  · rw [h.z 0 d0, Int.add_zero]; exact Int.le_refl _
  · exact lr_one (h.two 0 1 d0 d1) (h.three 1 2 0 d1 d2 d0) (m5_0 ..) (m5_1 ..) (m5_2 ..) (m5_4 ..)
  · exact lr_two (h.two 0 2 d0 d2) (h.three 2 1 0 d2 d1 d0) (m5_0 ..) (m5_1 ..) (m5_2 ..) (m5_4 ..)
  · exact lr_one (h.two 1 0 d1 d0) (h.three 0 2 1 d0 d2 d1) (m5_0 ..) (m5_1 ..) (m5_2 ..) (m5_4 ..)
  · rw [h.z 1 d1, Int.add_zero]; exact Int.le_refl _
  · exact lr_two (h.two 1 2 d1 d2) (h.three 2 0 1 d2 d0 d1) (m5_0 ..) (m5_2 ..) (m5_1 ..) (m5_3 ..)
  · exact lr_one (h.two 2 0 d2 d0) (h.three 0 1 2 d0 d1 d2) (m5_0 ..) (m5_2 ..) (m5_1 ..) (m5_3 ..)
  · exact lr_two (h.two 2 1 d2 d1) (h.three 1 0 2 d1 d0 d2) (m5_0 ..) (m5_2 ..) (m5_1 ..) (m5_3 ..)
  · rw [h.z 2 d2, Int.add_zero]; exact Int.le_refl _
section
variable {mk : PySem.Str} {F : Int → List Int} {ord : List Int} {wd : Int → PySem.Str} {iv : Nat → Nat}
def sv (F : Int → List Int) (ord : List Int) (iv : Nat → Nat) (a j : Nat) : Int := svd F ord (iv a) j
theorem rest_sv (hv : Inv ord iv) (ho : OrdOk ord) {p : Nat → Int} : (∀ i j, i < 3 → j < 3 → p (oOf ord i) + svd F ord i j ≤ p j) ↔ ∀ a j, a < 3 → j < 3 → p a + sv F ord iv a j ≤ p j := by
  constructor
  · intro h a j ha hj
    have := h (iv a) j (hv.lt a ha) hj
    rw [hv.o a ha] at this
    exact this
  · intro h i j hi hj
    have ho3 : oOf ord i < 3 := by have := ho.hi i hi; have := ho.lo i hi; unfold oOf; omega
    have := h _ j ho3 hj
    unfold sv at this
    rw [hv.i i hi] at this
    exact this
def dR (mk : PySem.Str) (F : Int → List Int) (ord : List Int) (wd : Int → PySem.Str) (d : RD) : RD := outerD mk F ord wd 3 { d with r := 0 }
theorem dR_up (ho : OrdOk ord) {d : RD} (hp : d.p.length = 3) : (dR mk F ord wd d).p.length = 3 ∧ (∀ k, k < 3 → d.p.getD k 0 ≤ (dR mk F ord wd d).p.getD k 0) ∧ (∀ i j, i < 3 → j < 3 → d.p.getD (oOf ord i) 0 + svd F ord i j ≤ (dR mk F ord wd d).p.getD j 0) ∧
    (∀ B : Nat → Int, (∀ k, k < 3 → d.p.getD k 0 ≤ B k) → (∀ i j, i < 3 → j < 3 → B (oOf ord i) + svd F ord i j ≤ B j) → ∀ k, k < 3 → (dR mk F ord wd d).p.getD k 0 ≤ B k) := by
  obtain ⟨u, c, b⟩ := outer_up (mk := mk) (F := F) (wd := wd) (d := { d with r := 0 }) ho hp 3 (by omega)
  exact ⟨u.len, u.le, fun i j hi hj => c i j hi hj, b⟩
theorem dR_rest (ho : OrdOk ord) {d : RD} (hp : d.p.length = 3) : (dR mk F ord wd d).r = 0 ↔ ∀ i j, i < 3 → j < 3 → d.p.getD (oOf ord i) 0 + svd F ord i j ≤ d.p.getD j 0 :=
  round_rest (mk := mk) (F := F) (wd := wd) (d := { d with r := 0 }) ho hp
theorem dR_same (ho : OrdOk ord) {d : RD} (hp : d.p.length = 3) (h : (dR mk F ord wd d).r = 0) : (dR mk F ord wd d).p = d.p ∧ (dR mk F ord wd d).ps = d.ps := by
  obtain ⟨u, _, _⟩ := outer_up (mk := mk) (F := F) (wd := wd) (d := { d with r := 0 }) ho hp 3 (by omega)
  have := u.same h
  unfold dR
  rw [this]
  exact ⟨rfl, rfl⟩
theorem m5_le {a b c d e y : Int} (h0 : a ≤ y) (h1 : b ≤ y) (h2 : c ≤ y) (h3 : d ≤ y) (h4 : e ≤ y) : max a (max b (max c (max d e))) ≤ y :=
  Int.max_le.mpr ⟨h0, Int.max_le.mpr ⟨h1, Int.max_le.mpr ⟨h2, Int.max_le.mpr ⟨h3, h4⟩⟩⟩⟩
theorem two_rounds (hv : Inv ord iv) (ho : OrdOk ord) {d : RD} (hp : d.p = [0, 0, 0]) (hs : Still (sv F ord iv)) :
    ∀ k, k < 3 → (dR mk F ord wd (dR mk F ord wd d)).p.getD k 0 = leastB (sv F ord iv) k := by
  have hpl : d.p.length = 3 := by rw [hp]; rfl
  have hz : ∀ k, k < 3 → d.p.getD k 0 = 0 := by
    intro k hk
    rw [hp]
    rcases three hk with rfl | rfl | rfl <;> rfl
  obtain ⟨l1, m1, c1, b1⟩ := dR_up (mk := mk) (F := F) (wd := wd) ho hpl
  obtain ⟨l2, m2, c2, b2⟩ := dR_up (mk := mk) (F := F) (wd := wd) ho l1
  have hB0 : ∀ k, k < 3 → 0 ≤ leastB (sv F ord iv) k := by
    intro k hk
    rcases three hk with rfl | rfl | rfl <;> exact Int.le_max_left _ _
  have hrB := (rest_sv (F := F) hv ho (p := leastB (sv F ord iv))).mpr (least_rest hs)
  have up1 := b1 (leastB (sv F ord iv)) (fun k hk => by rw [hz k hk]; exact hB0 k hk) hrB
  have up2 := b2 (leastB (sv F ord iv)) up1 hrB
  have g1 : ∀ a j, a < 3 → j < 3 → sv F ord iv a j ≤ (dR mk F ord wd d).p.getD j 0 := by
    intro a j ha hj
    have := c1 (iv a) j (hv.lt a ha) hj
    rw [hv.o a ha, hz a ha] at this
    unfold sv; omega
  have g0 : ∀ k, k < 3 → 0 ≤ (dR mk F ord wd d).p.getD k 0 := fun k hk => by have := m1 k hk; rw [hz k hk] at this; exact this
  have g2 : ∀ a j, a < 3 → j < 3 → (dR mk F ord wd d).p.getD a 0 + sv F ord iv a j ≤ (dR mk F ord wd (dR mk F ord wd d)).p.getD j 0 := by
    intro a j ha hj
    have := c2 (iv a) j (hv.lt a ha) hj
    rw [hv.o a ha] at this
    exact this
  have g3 : ∀ k, k < 3 → 0 ≤ (dR mk F ord wd (dR mk F ord wd d)).p.getD k 0 := fun k hk => Int.le_trans (g0 k hk) (m2 k hk)
  have g4 : ∀ a j, a < 3 → j < 3 → sv F ord iv a j ≤ (dR mk F ord wd (dR mk F ord wd d)).p.getD j 0 := fun a j ha hj => Int.le_trans (g1 a j ha hj) (m2 j hj)
  have g5 : ∀ a b j, a < 3 → b < 3 → j < 3 → sv F ord iv a b + sv F ord iv b j ≤ (dR mk F ord wd (dR mk F ord wd d)).p.getD j 0 := by
    intro a b j ha hb hj
    have h1 := g1 a b ha hb
    have h2 := g2 b j hb hj
    omega
  intro k hk
  refine Int.le_antisymm (up2 k hk) ?_
  have a0 : (0 : Nat) < 3 := by decide
  have a1 : (1 : Nat) < 3 := by decide
  have a2 : (2 : Nat) < 3 := by decide
  rcases three hk with rfl | rfl | rfl
  · exact m5_le (g3 0 a0) (g4 1 0 a1 a0) (g4 2 0 a2 a0) (g5 1 2 0 a1 a2 a0) (g5 2 1 0 a2 a1 a0)
  · exact m5_le (g3 1 a1) (g4 0 1 a0 a1) (g4 2 1 a2 a1) (g5 0 2 1 a0 a2 a1) (g5 2 0 1 a2 a0 a1)
  · exact m5_le (g3 2 a2) (g4 0 2 a0 a2) (g4 1 2 a1 a2) (g5 0 1 2 a0 a1 a2) (g5 1 0 2 a1 a0 a2)
theorem still_of {p : Nat → Int} (hz : ∀ a, a < 3 → sv F ord iv a a = 0) (h : ∀ a j, a < 3 → j < 3 → p a + sv F ord iv a j ≤ p j) : Still (sv F ord iv) := by
  refine ⟨hz, fun a b ha hb => ?_, fun a b c ha hb hc => ?_⟩
  · have := h a b ha hb; have := h b a hb ha; omega
  · have := h a b ha hb; have := h b c hb hc; have := h c a hc ha; omega
theorem sv_self (hv : Inv ord iv) {a : Nat} (ha : a < 3) : sv F ord iv a a = 0 := by
  have e := hv.o a ha
  unfold oOf at e
  unfold sv svd
  rw [e]; omega
theorem third (hv : Inv ord iv) (ho : OrdOk ord) {d : RD} (hp : d.p = [0, 0, 0]) :
    ((dR mk F ord wd (dR mk F ord wd (dR mk F ord wd d))).r = 0 ↔ Still (sv F ord iv)) ∧
    ((dR mk F ord wd (dR mk F ord wd (dR mk F ord wd d))).r = 0 → ∀ k, k < 3 → (dR mk F ord wd (dR mk F ord wd (dR mk F ord wd d))).p.getD k 0 = leastB (sv F ord iv) k) := by
  have hpl : d.p.length = 3 := by rw [hp]; rfl
  obtain ⟨l1, _, _, _⟩ := dR_up (mk := mk) (F := F) (wd := wd) ho hpl
  obtain ⟨l2, _, _, _⟩ := dR_up (mk := mk) (F := F) (wd := wd) ho l1
  have hz : ∀ a, a < 3 → sv F ord iv a a = 0 := fun a ha => sv_self hv ha
  have fwd : (dR mk F ord wd (dR mk F ord wd (dR mk F ord wd d))).r = 0 → Still (sv F ord iv) := fun h =>
    still_of hz ((rest_sv (F := F) hv ho (p := fun k => (dR mk F ord wd (dR mk F ord wd d)).p.getD k 0)).mp ((dR_rest ho l2).mp h))
  refine ⟨⟨fwd, fun hs => ?_⟩, fun h k hk => ?_⟩
  · refine (dR_rest ho l2).mpr ((rest_sv (F := F) hv ho (p := fun k => (dR mk F ord wd (dR mk F ord wd d)).p.getD k 0)).mpr fun a j ha hj => ?_)
    have e := two_rounds (mk := mk) (wd := wd) hv ho hp hs
    show (dR mk F ord wd (dR mk F ord wd d)).p.getD a 0 + _ ≤ (dR mk F ord wd (dR mk F ord wd d)).p.getD j 0
    rw [e a ha, e j hj]
    exact least_rest hs a j ha hj
  · rw [(dR_same ho l2 h).1]
    exact two_rounds hv ho hp (fwd h) k hk
end
end
section
open PySem PySem.W PyProof.Rows PySem.Calls PySem.Spec
def fD (F : Int → List Int) (i j : Nat) : Int := (F (i : Int)).getD (3 + j) 0
def pc (F : Int → List Int) (x y z : Nat) : Int := fD F 0 x + fD F 1 y + fD F 2 z
def orders6 : List (List Int) := [[0, 1, 2], [0, 2, 1], [1, 0, 2], [1, 2, 0], [2, 0, 1], [2, 1, 0]]
def costD (F : Int → List Int) (o : List Int) : Int := pc F (oOf o 0) (oOf o 1) (oOf o 2)
def ivOf (o : List Int) (a : Nat) : Nat := if oOf o 0 = a then 0 else if oOf o 1 = a then 1 else 2
section
variable {F : Int → List Int} {ord : List Int}
theorem ord_cases (h : ord ∈ orders6) : ord = [0, 1, 2] ∨ ord = [0, 2, 1] ∨ ord = [1, 0, 2] ∨ ord = [1, 2, 0] ∨ ord = [2, 0, 1] ∨ ord = [2, 1, 0] := by
  simpa [orders6] using h
theorem ord_ok (h : ord ∈ orders6) : OrdOk ord ∧ Inv ord (ivOf ord) := by
  rcases ord_cases h with rfl | rfl | rfl | rfl | rfl | rfl
  all_goals
    refine ⟨⟨fun i hi => ?_, fun i hi => ?_⟩, ⟨fun i hi => ?_, fun i hi => ?_, fun i hi => ?_⟩⟩
  all_goals (rcases three hi with rfl | rfl | rfl <;> decide)
theorem sv_fD (hv : Inv ord (ivOf ord)) {a j : Nat} (ha : a < 3) : sv F ord (ivOf ord) a j = fD F (ivOf ord a) a - fD F (ivOf ord a) j := by
  have e := hv.o a ha
  unfold oOf at e
  unfold sv svd fD
  rw [e]
theorem toNat_two : Int.toNat 2 = 2 := rfl
theorem still_x {s x : Nat → Nat → Int} (e : ∀ a j, a < 3 → s a j = x a a - x a j) : Still s ↔ (x 0 0 + x 1 1 + x 2 2 ≤ x 0 0 + x 1 2 + x 2 1 ∧ x 0 0 + x 1 1 + x 2 2 ≤ x 0 1 + x 1 0 + x 2 2 ∧ x 0 0 + x 1 1 + x 2 2 ≤ x 0 2 + x 1 1 + x 2 0 ∧ x 0 0 + x 1 1 + x 2 2 ≤ x 0 1 + x 1 2 + x 2 0 ∧ x 0 0 + x 1 1 + x 2 2 ≤ x 0 2 + x 1 0 + x 2 1) := by
  constructor
  · intro hs
    have t1 := hs.two 0 1 (by decide) (by decide)
    have t2 := hs.two 0 2 (by decide) (by decide)
    have t3 := hs.two 1 2 (by decide) (by decide)
    have u1 := hs.three 0 1 2 (by decide) (by decide) (by decide)
    have u2 := hs.three 0 2 1 (by decide) (by decide) (by decide)
    rw [e 0 1 (by decide), e 1 0 (by decide)] at t1
    rw [e 0 2 (by decide), e 2 0 (by decide)] at t2
    rw [e 1 2 (by decide), e 2 1 (by decide)] at t3
    rw [e 0 1 (by decide), e 1 2 (by decide), e 2 0 (by decide)] at u1
    rw [e 0 2 (by decide), e 2 1 (by decide), e 1 0 (by decide)] at u2
    clear hs e
    exact ⟨by clear t1 t2 u1 u2; omega, by clear t2 t3 u1 u2; omega, by clear t1 t3 u1 u2; omega, by clear t1 t2 t3 u2; omega, by clear t1 t2 t3 u1; omega⟩
  · rintro ⟨c1, c2, c3, c4, c5⟩
    have t1 : s 0 1 + s 1 0 ≤ 0 := by rw [e 0 1 (by decide), e 1 0 (by decide)]; clear c1 c3 c4 c5 e; omega
    have t2 : s 0 2 + s 2 0 ≤ 0 := by rw [e 0 2 (by decide), e 2 0 (by decide)]; clear c1 c2 c4 c5 e; omega
    have t3 : s 1 2 + s 2 1 ≤ 0 := by rw [e 1 2 (by decide), e 2 1 (by decide)]; clear c2 c3 c4 c5 e; omega
    have u1 : s 0 1 + s 1 2 + s 2 0 ≤ 0 := by rw [e 0 1 (by decide), e 1 2 (by decide), e 2 0 (by decide)]; clear c1 c2 c3 c5 e; omega
    have u2 : s 0 2 + s 2 1 + s 1 0 ≤ 0 := by rw [e 0 2 (by decide), e 2 1 (by decide), e 1 0 (by decide)]; clear c1 c2 c3 c4 e; omega
    have z : ∀ a, a < 3 → s a a = 0 := fun a ha => by rw [e a a ha]; exact Int.sub_self _
    have two : ∀ a b, a < 3 → b < 3 → s a b + s b a ≤ 0 := fun a b ha hb => by
      rcases three ha with rfl | rfl | rfl <;> rcases three hb with rfl | rfl | rfl
      · rw [z 0 (by decide)]; decide
      · exact t1
      · exact t2
      · rw [Int.add_comm]; exact t1
      · rw [z 1 (by decide)]; decide
      · exact t3
      · rw [Int.add_comm]; exact t2
      · rw [Int.add_comm]; exact t3
      · rw [z 2 (by decide)]; decide
    refine ⟨z, two, fun a b c ha hb hc => ?_⟩
    by_cases h1 : a = b
    · subst h1; rw [z a ha, Int.zero_add]; exact two a c ha hc
    by_cases h2 : b = c
    · subst h2; rw [z b hb, Int.add_zero]; exact two a b ha hb
    by_cases h3 : a = c
    · subst h3; rw [z a ha, Int.add_zero]; exact two a b ha hb
    rcases three ha with rfl | rfl | rfl <;> rcases three hb with rfl | rfl | rfl <;> rcases three hc with rfl | rfl | rfl <;> first | exact absurd rfl h1 | exact absurd rfl h2 | exact absurd rfl h3 | exact u1 | exact u2 | (rw [Int.add_comm, ← Int.add_assoc]; first | exact u1 | exact u2) | (rw [Int.add_assoc, Int.add_comm]; first | exact u1 | exact u2)
theorem perm0 (f00 f01 f02 f10 f11 f12 f20 f21 f22 : Int) : (f00 + f11 + f22 ≤ f00 + f12 + f21 ∧ f00 + f11 + f22 ≤ f01 + f10 + f22 ∧ f00 + f11 + f22 ≤ f02 + f11 + f20 ∧ f00 + f11 + f22 ≤ f01 + f12 + f20 ∧ f00 + f11 + f22 ≤ f02 + f10 + f21) ↔ (f00 + f11 + f22 ≤ f00 + f11 + f22 ∧ f00 + f11 + f22 ≤ f00 + f12 + f21 ∧ f00 + f11 + f22 ≤ f01 + f10 + f22 ∧ f00 + f11 + f22 ≤ f01 + f12 + f20 ∧ f00 + f11 + f22 ≤ f02 + f10 + f21 ∧ f00 + f11 + f22 ≤ f02 + f11 + f20) := by
  rw [show f00 + f11 + f22 = f00 + f11 + f22 by ac_rfl]
  exact ⟨fun ⟨h0, h1, h2, h3, h4⟩ => ⟨Int.le_refl _, h0, h1, h3, h4, h2⟩, fun ⟨g0, g1, g2, g3, g4, g5⟩ => ⟨g1, g2, g5, g3, g4⟩⟩
theorem perm1 (f00 f01 f02 f10 f11 f12 f20 f21 f22 : Int) : (f00 + f21 + f12 ≤ f00 + f22 + f11 ∧ f00 + f21 + f12 ≤ f01 + f20 + f12 ∧ f00 + f21 + f12 ≤ f02 + f21 + f10 ∧ f00 + f21 + f12 ≤ f01 + f22 + f10 ∧ f00 + f21 + f12 ≤ f02 + f20 + f11) ↔ (f00 + f12 + f21 ≤ f00 + f11 + f22 ∧ f00 + f12 + f21 ≤ f00 + f12 + f21 ∧ f00 + f12 + f21 ≤ f01 + f10 + f22 ∧ f00 + f12 + f21 ≤ f01 + f12 + f20 ∧ f00 + f12 + f21 ≤ f02 + f10 + f21 ∧ f00 + f12 + f21 ≤ f02 + f11 + f20) := by
  rw [show f00 + f21 + f12 = f00 + f12 + f21 by ac_rfl, show f00 + f22 + f11 = f00 + f11 + f22 by ac_rfl, show f01 + f20 + f12 = f01 + f12 + f20 by ac_rfl, show f02 + f21 + f10 = f02 + f10 + f21 by ac_rfl, show f01 + f22 + f10 = f01 + f10 + f22 by ac_rfl, show f02 + f20 + f11 = f02 + f11 + f20 by ac_rfl]
  exact ⟨fun ⟨h0, h1, h2, h3, h4⟩ => ⟨h0, Int.le_refl _, h3, h1, h2, h4⟩, fun ⟨g0, g1, g2, g3, g4, g5⟩ => ⟨g0, g3, g4, g2, g5⟩⟩
theorem perm2 (f00 f01 f02 f10 f11 f12 f20 f21 f22 : Int) : (f10 + f01 + f22 ≤ f10 + f02 + f21 ∧ f10 + f01 + f22 ≤ f11 + f00 + f22 ∧ f10 + f01 + f22 ≤ f12 + f01 + f20 ∧ f10 + f01 + f22 ≤ f11 + f02 + f20 ∧ f10 + f01 + f22 ≤ f12 + f00 + f21) ↔ (f01 + f10 + f22 ≤ f00 + f11 + f22 ∧ f01 + f10 + f22 ≤ f00 + f12 + f21 ∧ f01 + f10 + f22 ≤ f01 + f10 + f22 ∧ f01 + f10 + f22 ≤ f01 + f12 + f20 ∧ f01 + f10 + f22 ≤ f02 + f10 + f21 ∧ f01 + f10 + f22 ≤ f02 + f11 + f20) := by
  rw [show f10 + f01 + f22 = f01 + f10 + f22 by ac_rfl, show f10 + f02 + f21 = f02 + f10 + f21 by ac_rfl, show f11 + f00 + f22 = f00 + f11 + f22 by ac_rfl, show f12 + f01 + f20 = f01 + f12 + f20 by ac_rfl, show f11 + f02 + f20 = f02 + f11 + f20 by ac_rfl, show f12 + f00 + f21 = f00 + f12 + f21 by ac_rfl]
  exact ⟨fun ⟨h0, h1, h2, h3, h4⟩ => ⟨h1, h4, Int.le_refl _, h2, h0, h3⟩, fun ⟨g0, g1, g2, g3, g4, g5⟩ => ⟨g4, g0, g3, g5, g1⟩⟩
theorem perm3 (f00 f01 f02 f10 f11 f12 f20 f21 f22 : Int) : (f20 + f01 + f12 ≤ f20 + f02 + f11 ∧ f20 + f01 + f12 ≤ f21 + f00 + f12 ∧ f20 + f01 + f12 ≤ f22 + f01 + f10 ∧ f20 + f01 + f12 ≤ f21 + f02 + f10 ∧ f20 + f01 + f12 ≤ f22 + f00 + f11) ↔ (f01 + f12 + f20 ≤ f00 + f11 + f22 ∧ f01 + f12 + f20 ≤ f00 + f12 + f21 ∧ f01 + f12 + f20 ≤ f01 + f10 + f22 ∧ f01 + f12 + f20 ≤ f01 + f12 + f20 ∧ f01 + f12 + f20 ≤ f02 + f10 + f21 ∧ f01 + f12 + f20 ≤ f02 + f11 + f20) := by
  rw [show f20 + f01 + f12 = f01 + f12 + f20 by ac_rfl, show f20 + f02 + f11 = f02 + f11 + f20 by ac_rfl, show f21 + f00 + f12 = f00 + f12 + f21 by ac_rfl, show f22 + f01 + f10 = f01 + f10 + f22 by ac_rfl, show f21 + f02 + f10 = f02 + f10 + f21 by ac_rfl, show f22 + f00 + f11 = f00 + f11 + f22 by ac_rfl]
  exact ⟨fun ⟨h0, h1, h2, h3, h4⟩ => ⟨h4, h1, h2, Int.le_refl _, h3, h0⟩, fun ⟨g0, g1, g2, g3, g4, g5⟩ => ⟨g5, g1, g2, g4, g0⟩⟩
theorem perm4 (f00 f01 f02 f10 f11 f12 f20 f21 f22 : Int) : (f10 + f21 + f02 ≤ f10 + f22 + f01 ∧ f10 + f21 + f02 ≤ f11 + f20 + f02 ∧ f10 + f21 + f02 ≤ f12 + f21 + f00 ∧ f10 + f21 + f02 ≤ f11 + f22 + f00 ∧ f10 + f21 + f02 ≤ f12 + f20 + f01) ↔ (f02 + f10 + f21 ≤ f00 + f11 + f22 ∧ f02 + f10 + f21 ≤ f00 + f12 + f21 ∧ f02 + f10 + f21 ≤ f01 + f10 + f22 ∧ f02 + f10 + f21 ≤ f01 + f12 + f20 ∧ f02 + f10 + f21 ≤ f02 + f10 + f21 ∧ f02 + f10 + f21 ≤ f02 + f11 + f20) := by
  rw [show f10 + f21 + f02 = f02 + f10 + f21 by ac_rfl, show f10 + f22 + f01 = f01 + f10 + f22 by ac_rfl, show f11 + f20 + f02 = f02 + f11 + f20 by ac_rfl, show f12 + f21 + f00 = f00 + f12 + f21 by ac_rfl, show f11 + f22 + f00 = f00 + f11 + f22 by ac_rfl, show f12 + f20 + f01 = f01 + f12 + f20 by ac_rfl]
  exact ⟨fun ⟨h0, h1, h2, h3, h4⟩ => ⟨h3, h2, h0, h4, Int.le_refl _, h1⟩, fun ⟨g0, g1, g2, g3, g4, g5⟩ => ⟨g2, g5, g1, g0, g3⟩⟩
theorem perm5 (f00 f01 f02 f10 f11 f12 f20 f21 f22 : Int) : (f20 + f11 + f02 ≤ f20 + f12 + f01 ∧ f20 + f11 + f02 ≤ f21 + f10 + f02 ∧ f20 + f11 + f02 ≤ f22 + f11 + f00 ∧ f20 + f11 + f02 ≤ f21 + f12 + f00 ∧ f20 + f11 + f02 ≤ f22 + f10 + f01) ↔ (f02 + f11 + f20 ≤ f00 + f11 + f22 ∧ f02 + f11 + f20 ≤ f00 + f12 + f21 ∧ f02 + f11 + f20 ≤ f01 + f10 + f22 ∧ f02 + f11 + f20 ≤ f01 + f12 + f20 ∧ f02 + f11 + f20 ≤ f02 + f10 + f21 ∧ f02 + f11 + f20 ≤ f02 + f11 + f20) := by
  rw [show f20 + f11 + f02 = f02 + f11 + f20 by ac_rfl, show f20 + f12 + f01 = f01 + f12 + f20 by ac_rfl, show f21 + f10 + f02 = f02 + f10 + f21 by ac_rfl, show f22 + f11 + f00 = f00 + f11 + f22 by ac_rfl, show f21 + f12 + f00 = f00 + f12 + f21 by ac_rfl, show f22 + f10 + f01 = f01 + f10 + f22 by ac_rfl]
  exact ⟨fun ⟨h0, h1, h2, h3, h4⟩ => ⟨h2, h3, h4, h0, h1, Int.le_refl _⟩, fun ⟨g0, g1, g2, g3, g4, g5⟩ => ⟨g3, g4, g0, g1, g2⟩⟩
theorem still_iff (h : ord ∈ orders6) : Still (sv F ord (ivOf ord)) ↔ (costD F ord ≤ pc F 0 1 2 ∧ costD F ord ≤ pc F 0 2 1 ∧ costD F ord ≤ pc F 1 0 2 ∧ costD F ord ≤ pc F 1 2 0 ∧ costD F ord ≤ pc F 2 0 1 ∧ costD F ord ≤ pc F 2 1 0) := by
  have hv := (ord_ok h).2
  refine (still_x (x := fun a j => fD F (ivOf ord a) j) (fun a j ha => sv_fD hv ha)).trans ?_
  clear hv
  rcases ord_cases h with rfl | rfl | rfl | rfl | rfl | rfl
  · exact perm0 (fD F 0 0) (fD F 0 1) (fD F 0 2) (fD F 1 0) (fD F 1 1) (fD F 1 2) (fD F 2 0) (fD F 2 1) (fD F 2 2)
  · exact perm1 (fD F 0 0) (fD F 0 1) (fD F 0 2) (fD F 1 0) (fD F 1 1) (fD F 1 2) (fD F 2 0) (fD F 2 1) (fD F 2 2)
  · exact perm2 (fD F 0 0) (fD F 0 1) (fD F 0 2) (fD F 1 0) (fD F 1 1) (fD F 1 2) (fD F 2 0) (fD F 2 1) (fD F 2 2)
  · exact perm3 (fD F 0 0) (fD F 0 1) (fD F 0 2) (fD F 1 0) (fD F 1 1) (fD F 1 2) (fD F 2 0) (fD F 2 1) (fD F 2 2)
  · exact perm4 (fD F 0 0) (fD F 0 1) (fD F 0 2) (fD F 1 0) (fD F 1 1) (fD F 1 2) (fD F 2 0) (fD F 2 1) (fD F 2 2)
  · exact perm5 (fD F 0 0) (fD F 0 1) (fD F 0 2) (fD F 1 0) (fD F 1 1) (fD F 1 2) (fD F 2 0) (fD F 2 1) (fD F 2 2)
end
end
section
open PySem PySem.W PyProof.Rows PySem.Calls PySem.Spec
structure Met (D : Nat → Nat → Int) : Prop where
  sym : ∀ u v, u < 6 → v < 6 → D u v = D v u
  tri : ∀ u v x, u < 6 → v < 6 → x < 6 → D u x ≤ D u v + D v x
def wor (D : Nat → Nat → Int) (p : Nat → Int) (o : Nat → Nat) (u : Nat) : Int := if u < 3 then p (o u) + D u (3 + o u) else p (u - 3)
theorem lip {D : Nat → Nat → Int} {p : Nat → Int} {o iv : Nat → Nat} (hD : Met D) (ho : ∀ i, i < 3 → o i < 3) (hi : ∀ a, a < 3 → iv a < 3 ∧ o (iv a) = a)
    (hr : ∀ i j, i < 3 → j < 3 → p (o i) + (D i (3 + o i) - D i (3 + j)) ≤ p j) : ∀ u v, u < 6 → v < 6 → wor D p o u - wor D p o v ≤ D u v := by
  have hww : ∀ j k, j < 3 → k < 3 → p j - p k ≤ D (3 + j) (3 + k) := by
    intro j k hj hk
    obtain ⟨h1, h2⟩ := hi j hj
    have h3 := hr (iv j) k h1 hk
    rw [h2] at h3
    have h4 := hD.tri (iv j) (3 + j) (3 + k) (by omega) (by omega) (by omega)
    omega
  have htw : ∀ i k, i < 3 → k < 3 → p (o i) + D i (3 + o i) - p k ≤ D i (3 + k) := by
    intro i k h1 hk
    have := hr i k h1 hk
    omega
  intro u v hu hv
  unfold wor
  by_cases h1 : u < 3
  · have hou := ho u h1
    rw [if_pos h1]
    by_cases h2 : v < 3
    · rw [if_pos h2]
      have hov := ho v h2
      have h3 := htw u (o v) h1 hov
      have h4 := hD.tri u v (3 + o v) hu hv (by omega)
      omega
    · rw [if_neg h2]
      have h3 := htw u (v - 3) h1 (by omega)
      rw [show 3 + (v - 3) = v from by omega] at h3
      exact h3
  · rw [if_neg h1]
    by_cases h2 : v < 3
    · rw [if_pos h2]
      have hov := ho v h2
      have h3 := hww (u - 3) (o v) (by omega) hov
      rw [show 3 + (u - 3) = u from by omega] at h3
      have h4 := hD.tri u v (3 + o v) hu hv (by omega)
      omega
    · rw [if_neg h2]
      have h3 := hww (u - 3) (v - 3) (by omega) (by omega)
      rw [show 3 + (u - 3) = u from by omega, show 3 + (v - 3) = v from by omega] at h3
      exact h3
end
section
open PySem PySem.W PyProof.Rows PySem.Calls PySem.Spec
theorem wend_of {h₀ : Heap} {L : Addr} {s s' : Shared} {n : Nat} {J : Nat → (PySem.Str → Option Value) → LLed → Prop} (h : WEnd h₀ L s s' n J) : ∃ h' tk' m' news' n', s' = { s with heap := h', toks := tk' } ∧ Fr h₀ L h' m' ∧ News h₀ L h' news' ∧ n' < n ∧ J n' m' news' := by
  obtain ⟨a, b, c, d, e, h1, h2, h3, h4, h5⟩ := h
  exact ⟨a, b, c, d, e, h1, h2, h3, h4, h5⟩
theorem while_inv {prog : Program} {w : World} {A : Around} {E : Value → Shared → Prop} {Q : Flow → Shared → Prop} {s : Shared} {env : Env} {h₀ : Heap} {L : Addr} {test : PySem.Expr} {body : List Stmt} {pos : Pos} {m₀ : PySem.Str → Option Value} {news₀ : LLed}
    (F : Fr h₀ L s.heap m₀) (N : News h₀ L s.heap news₀)
    (J : (PySem.Str → Option Value) → LLed → Nat → (PySem.Str → Option Value) → LLed → Prop) (n₀ : Nat) (hJ : J m₀ news₀ n₀ m₀ news₀)
    (turn : ∀ n m₁ news₁ h₁ tk₁, J m₀ news₀ n m₁ news₁ → Fr h₀ L h₁ m₁ → News h₀ L h₁ news₁ →
      wpAny (model prog w) A (isTrue test env (eval test env)) (fun b s₂ =>
        if b = true then wpAny (model prog w) A (execs body env) (fun f s₃ => match f with
          | .ret v => Q (.ret v) s₃
          | .brk => Q .next s₃
          | _ => (WEnd h₀ L s s₃ n (J m₀ news₀))) E s₂ else Q .next s₂) E { s with heap := h₁, toks := tk₁ })
    (hE : PassesOwn (model prog w) A env E := by passes_own) :
    wpAny (model prog w) A (exec (.While test body [] pos) env) Q E s := by
  refine While_inv2 (J m₀ news₀) F N hJ (fun n m₁ news₁ h₁ tk₁ F₁ N₁ J₁ => wpAny_mono (turn n m₁ news₁ h₁ tk₁ J₁ F₁ N₁) (fun b s₂ q => ?_) fun _ _ x => x) hE
  cases b with
  | false => exact q
  | true =>
    simp only [if_true] at q ⊢
    refine wpAny_mono q (fun f s₃ r => ?_) fun _ _ x => x
    cases f with
    | next => exact wend_of r
    | cont => exact wend_of r
    | brk => exact r
    | ret v => exact r
def St (m₀ : PySem.Str → Option Value) (ks : List PySem.Str) (m : PySem.Str → Option Value) : Prop := ∀ y, ks.contains y = false → m y = m₀ y
theorem St.refl {m : PySem.Str → Option Value} {ks : List PySem.Str} : St m ks m := fun _ _ => rfl
theorem St.ovr {m₀ m : PySem.Str → Option Value} {ks : List PySem.Str} (h : St m₀ ks m) (y : PySem.Str) : m y = Mine.ovr ks m m₀ y := by
  unfold Mine.ovr
  by_cases e : ks.contains y = true
  · rw [if_pos e]
  · rw [if_neg e]; exact h y (by simpa using e)
section
variable {m₀ m : PySem.Str → Option Value} {ks : List PySem.Str} {k1 k2 k3 k4 k5 : PySem.Str} {v1 v2 v3 v4 v5 : Option Value}
theorem St.open0 (h : St m₀ ks m) : ∃ u, m = fun y => Mine.ovr ks u m₀ y := ⟨m, funext h.ovr⟩
theorem St.open1 (h : St m₀ ks m) (h1 : m k1 = v1) : ∃ u, m = fun y => if y = k1 then v1 else Mine.ovr ks u m₀ y :=
  ⟨m, funext fun y => by (by_cases e : y = k1); (· subst e; rw [if_pos rfl]; exact h1); (· rw [if_neg e]; exact h.ovr y)⟩
theorem St.open2 (h : St m₀ ks m) (h1 : m k1 = v1) (h2 : m k2 = v2) : ∃ u, m = fun y => if y = k1 then v1 else if y = k2 then v2 else Mine.ovr ks u m₀ y :=
  ⟨m, funext fun y => by
    by_cases e : y = k1
    · subst e; rw [if_pos rfl]; exact h1
    · rw [if_neg e]
      by_cases e : y = k2
      · subst e; rw [if_pos rfl]; exact h2
      · rw [if_neg e]; exact h.ovr y⟩
theorem St.open3 (h : St m₀ ks m) (h1 : m k1 = v1) (h2 : m k2 = v2) (h3 : m k3 = v3) : ∃ u, m = fun y => if y = k1 then v1 else if y = k2 then v2 else if y = k3 then v3 else Mine.ovr ks u m₀ y :=
  ⟨m, funext fun y => by
    by_cases e : y = k1
    · subst e; rw [if_pos rfl]; exact h1
    · rw [if_neg e]
      by_cases e : y = k2
      · subst e; rw [if_pos rfl]; exact h2
      · rw [if_neg e]
        by_cases e : y = k3
        · subst e; rw [if_pos rfl]; exact h3
        · rw [if_neg e]; exact h.ovr y⟩
theorem St.open4 (h : St m₀ ks m) (h1 : m k1 = v1) (h2 : m k2 = v2) (h3 : m k3 = v3) (h4 : m k4 = v4) : ∃ u, m = fun y => if y = k1 then v1 else if y = k2 then v2 else if y = k3 then v3 else if y = k4 then v4 else Mine.ovr ks u m₀ y :=
  ⟨m, funext fun y => by
    by_cases e : y = k1
    · subst e; rw [if_pos rfl]; exact h1
    · rw [if_neg e]
      by_cases e : y = k2
      · subst e; rw [if_pos rfl]; exact h2
      · rw [if_neg e]
        by_cases e : y = k3
        · subst e; rw [if_pos rfl]; exact h3
        · rw [if_neg e]
          by_cases e : y = k4
          · subst e; rw [if_pos rfl]; exact h4
          · rw [if_neg e]; exact h.ovr y⟩
end
open LCg in
theorem compU_inv {prog : Program} {w : World} {A : Around} {h₀ : Heap} {L : Addr} {m : PySem.Str → Option Value} {env : Env} {elt : PySem.Expr} {x : PySem.Str} {scope : Scope} {cl : List (PySem.Str × Addr)} {s : Shared} {S : LLed → Prop} {P : Nat → Value → Prop} {Fin : List Value → LLed → Prop} {news : LLed} {n : Nat}
    (J : LLed → Nat → List Value → LLed → Prop) (h0 : J news 0 [] news) (hS : ∀ i ys news', J news i ys news' → S news')
    (turn : ∀ i ys news' v I oI C oC D m₂ h tk (E' : Value → Shared → Prop), i < n → J news i ys news' → P i v → NsObj oC m₂ → m₂ x = some v → Fr h₀ L h m → News h₀ L h ((I, oI) :: (C, oC) :: (D, lst ys) :: news') → Off3 I C D news' → ((@Ne Nat I C) ∧ (@Ne Nat I D) ∧ (@Ne Nat C D)) →
      wpAny (model prog w) A (eval elt (compEnvC scope cl C env)) (fun y s'' => UEnd h₀ L I C D m oI oC (lst ys) s s'' (J news (i + 1) (ys ++ [y]))) E' { s with heap := h, toks := tk })
    (fin : ∀ ys news', J news n ys news' → Fin ys news') : CompRest prog w A h₀ L m env elt x scope cl s S P Fin n 0 [] news := by
  have key : ∀ k i ys news', i + k = n → J news i ys news' → CompRest prog w A h₀ L m env elt x scope cl s S P Fin k i ys news' := by
    intro k
    induction k with
    | zero => intro i ys news' e hi; exact CompRest.zero (fin ys news' (by simpa [← e] using hi))
    | succ k ih =>
      intro i ys news' e hi
      refine CompRest.succ fun v I oI C oC D m₂ h tk E' hv hC hx F N off ne => ?_
      refine wpAny_mono (turn i ys news' v I oI C oC D m₂ h tk E' (ik_lt e) hi hv hC hx F N off ne) (fun y s'' q => ?_) fun _ _ x => x
      obtain ⟨h', tk', news'', rfl, F', N', off', hi'⟩ := q
      exact ⟨h', tk', news'', rfl, F', N', off', hS _ _ _ hi', ih (i + 1) _ _ (ik_s e) hi'⟩
  exact key n 0 [] news (Nat.zero_add n) h0
open LCg in
theorem off3_of {I C D : Addr} {l : LLed} (h : ∀ p ∈ l, p.1 ≠ I ∧ p.1 ≠ C ∧ p.1 ≠ D) : Off3 I C D l := Off3.of h
theorem ovr_out {ks ks' : List PySem.Str} {u m : PySem.Str → Option Value} {y : PySem.Str} (hs : (ks'.all fun k => ks.contains k) = true) (hy : ks.contains y = false) : Mine.ovr ks' u m y = m y := by
  unfold Mine.ovr
  refine if_neg fun e => ?_
  have := List.all_eq_true.mp hs y (by simpa using e)
  rw [hy] at this
  cases this
theorem wp_execs_append {M : Model} {Γ : _} {E : Value → Pos → Shared → Prop} {env : Env} {Q : Flow → Pos → Shared → Prop} (rest : List Stmt) : ∀ (l : List Stmt) p (s : Shared),
    Sem.wp M Γ (execs l env) (fun f p' s' => match f with | .next => Sem.wp M Γ (execs rest env) Q E p' s' | f => Q f p' s') E p s → Sem.wp M Γ (execs (l ++ rest) env) Q E p s
  | [], p, s, h => h
  | st :: l, p, s, h => by
    show Sem.wp M Γ (execs (st :: (l ++ rest)) env) Q E p s
    rw [execs_cons, Sem.wp_bind'] at h ⊢
    refine Sem.wp_mono M Γ _ (fun f p' s' h' => ?_) (fun _ _ _ h' => h') _ _ h
    cases f with
    | next => exact wp_execs_append rest l p' s' h'
    | ret v => exact h'
    | brk => exact h'
    | cont => exact h'
theorem execs_cut {M : Model} {A : Around} {E : Value → Shared → Prop} {env : Env} {Q : Flow → Shared → Prop} (l rest : List Stmt) {s : Shared}
    (h : wpAny M A (execs l env) (fun f s' => match f with | .next => wpAny M A (execs rest env) Q E s' | f => Q f s') E s) : wpAny M A (execs (l ++ rest) env) Q E s := fun Γ p hΓ => by
  refine wp_execs_append rest l p s (Sem.wp_mono M Γ _ (fun f p' s' h' => ?_) (fun _ _ _ h' => h') _ _ (h Γ p hΓ))
  cases f with
  | next => exact h' Γ p' hΓ
  | ret v => exact h'
  | brk => exact h'
  | cont => exact h'
theorem execs_then {M : Model} {A : Around} {E : Value → Shared → Prop} {env : Env} {Q : Flow → Shared → Prop} {h₀ : Heap} {L : Addr} (n : Nat) {body : List Stmt} {s : Shared} (Dn : (PySem.Str → Option Value) → LLed → Prop)
    (h : wpAny M A (execs (body.take n) env) (fun f s' => match f with | .next => (DEnd h₀ L s s' Dn) | f => Q f s') E s)
    (rest : ∀ m' news' h' tk', Dn m' news' → Fr h₀ L h' m' → News h₀ L h' news' → wpAny M A (execs (body.drop n) env) Q E { s with heap := h', toks := tk' }) : wpAny M A (execs body env) Q E s := by
  rw [← List.take_append_drop n body]
  refine execs_cut _ _ (wpAny_mono h (fun f s' q => ?_) fun _ _ x => x)
  cases f with
  | next =>
    obtain ⟨h', tk', m', news', rfl, F, N, d⟩ := q
    exact rest m' news' h' tk' d F N
  | ret v => exact q
  | brk => exact q
  | cont => exact q
theorem while_cut {prog : Program} {w : World} {A : Around} {E : Value → Shared → Prop} {Q : Flow → Shared → Prop} {s : Shared} {env : Env} {h₀ : Heap} {L : Addr} {test : PySem.Expr} {body : List Stmt} {pos : Pos} {m₀ : PySem.Str → Option Value} {news₀ : LLed}
    (F : Fr h₀ L s.heap m₀) (N : News h₀ L s.heap news₀)
    (J : (PySem.Str → Option Value) → LLed → Nat → (PySem.Str → Option Value) → LLed → Prop) (Dn : (PySem.Str → Option Value) → LLed → (PySem.Str → Option Value) → LLed → Prop) (n₀ : Nat) (hJ : J m₀ news₀ n₀ m₀ news₀)
    (turn : ∀ n m₁ news₁ h₁ tk₁, J m₀ news₀ n m₁ news₁ → Fr h₀ L h₁ m₁ → News h₀ L h₁ news₁ →
      wpAny (model prog w) A (isTrue test env (eval test env)) (fun b s₂ =>
        if b = true then wpAny (model prog w) A (execs body env) (fun f s₃ => match f with
          | .ret v => Q (.ret v) s₃
          | .brk => (DEnd h₀ L s s₃ (Dn m₀ news₀))
          | _ => (WEnd h₀ L s s₃ n (J m₀ news₀))) E s₂
        else (DEnd h₀ L s s₂ (Dn m₀ news₀))) E { s with heap := h₁, toks := tk₁ })
    (done : ∀ m news h tk, Dn m₀ news₀ m news → Fr h₀ L h m → News h₀ L h news → Q .next { s with heap := h, toks := tk })
    (hE : PassesOwn (model prog w) A env E := by passes_own) :
    wpAny (model prog w) A (exec (.While test body [] pos) env) Q E s := by
  have fin : ∀ s₃, (DEnd h₀ L s s₃ (Dn m₀ news₀)) → Q .next s₃ := by
    rintro s₃ ⟨h', tk, m₂, news₂, rfl, F₂, N₂, d⟩
    exact done m₂ news₂ h' tk d F₂ N₂
  refine While_inv2 (J m₀ news₀) F N hJ (fun n m₁ news₁ h₁ tk₁ F₁ N₁ J₁ => wpAny_mono (turn n m₁ news₁ h₁ tk₁ J₁ F₁ N₁) (fun b s₂ q => ?_) fun _ _ x => x) hE
  cases b with
  | false => exact fin _ q
  | true =>
    simp only [if_true] at q ⊢
    refine wpAny_mono q (fun f s₃ r => ?_) fun _ _ x => x
    cases f with
    | next => exact wend_of r
    | cont => exact wend_of r
    | brk => exact fin _ r
    | ret v => exact r
theorem execs_step {M : Model} {A : Around} {E : Value → Shared → Prop} {env : Env} {Q : Flow → Shared → Prop} {h₀ : Heap} {L : Addr} {m₀ : PySem.Str → Option Value} {news₀ : LLed} (n : Nat) {body : List Stmt} {s : Shared} (F : Fr h₀ L s.heap m₀) (N : News h₀ L s.heap news₀)
    (Dn : (PySem.Str → Option Value) → LLed → (PySem.Str → Option Value) → LLed → Prop)
    (h : wpAny M A (execs (body.take n) env) (fun f s' => match f with | .next => (DEnd h₀ L s s' (Dn m₀ news₀)) | f => Q f s') E s)
    (rest : ∀ m' news' h' tk', Dn m₀ news₀ m' news' → Fr h₀ L h' m' → News h₀ L h' news' → wpAny M A (execs (body.drop n) env) Q E { s with heap := h', toks := tk' }) : wpAny M A (execs body env) Q E s :=
  execs_then n (Dn m₀ news₀) h rest
section
variable {m₀ m : PySem.Str → Option Value} {ks : List PySem.Str} {x : PySem.Str} {v : Option Value}
theorem St.upd (h : St m₀ ks m) (hx : ks.contains x = true) : St m₀ ks (fun y => if y = x then v else m y) := fun y hy => (if_neg fun e => by subst e; rw [hx] at hy; cases hy).trans (h y hy)
theorem St.over {ks' : List PySem.Str} {u : PySem.Str → Option Value} (h : St m₀ ks m) (hs : (ks'.all fun k => ks.contains k) = true) : St m₀ ks (fun y => Mine.ovr ks' u m y) := fun y hy => (ovr_out hs hy).trans (h y hy)
end
end
local macro_rules | `(tactic| walk_at "st_base") => `(tactic| (repeat (first | (with_reducible exact St.refl) | (refine St.upd ?_ (by decide)) | (refine St.over ?_ (by decide)) | exact St.refl)))
section
open PySem PySem.W PyProof.Rows PySem.Calls PySem.Spec
def subC (a b : PySem.Str) : Int := if a == b then 0 else if Txt.lower a == Txt.lower b then 1 else 2
theorem subc_c (w : World) (news : LLed) (x y : PySem.Str) (t u : Tok) (hx : x.length ≤ 10) (hy : y.length ≤ 10) : Ctr w 131 [.str x t, .str y u] [] 1 news fun N Q => ∀ t' h' tk', N h' news → Q (.int (subC x y) t') h' tk' := by
  unfold Ctr
  have hdummy : PySem.Challenge.rw_wo0075_01 = PySem.Challenge.rw_wo0075_01 ∧ hd.heap_39 w.params = hd.heap_39 w.params := by k_fill; exact ⟨rfl, rfl⟩
  clear hdummy
  intro loose mean mg mb dp un gd cn cs a ccd cl outer A₀ base h₀ L m s Q E hB hF hX hN hT hk hdp hun hret
  rcases cs with ⟨ki, na, g1, g2, mo⟩
  dsimp only at hk
  subst hk
  unfold subC at hret
  repeat' (walk_at "Y")
  all_goals (simp only [*, if_true, Bool.false_eq_true, if_false] at hret)
  all_goals exact hret _ _ _ ⟨by k_asm, by k_asm⟩
theorem subc_le (x y : PySem.Str) : 0 ≤ subC x y ∧ subC x y ≤ 2 := by
  unfold subC
  split
  · omega
  · split <;> omega
end
section
open PySem PySem.W PyProof.Rows PySem.Calls PySem.Spec
def scan : List Nat → List Nat
  | [] => []
  | [c] => if c = 34 then [] else [c]
  | c :: d :: r => if c = 34 then (if d = 34 then 34 :: scan r else []) else c :: scan (d :: r)
theorem item_list {x : PySem.Str} {i : Nat} (h : i < x.length) : ∃ c, x.cps.toList.drop i = c :: x.cps.toList.drop (i + 1) ∧ Txt.item x (i : Int) = ⟨#[c]⟩ := by
  have h' : i < x.cps.toList.length := h
  refine ⟨x.cps.toList[i], List.drop_eq_getElem_cons h', item_at (by simp [h'])⟩
theorem quote_eq (c : Nat) : ((⟨#[c]⟩ : PySem.Str) == PySem.Str.ofString "\"") = decide (c = 34) := by
  have e : PySem.Str.ofString "\"" = ⟨#[34]⟩ := by decide
  rw [e]
  by_cases h : c = 34
  · subst h; rfl
  · rw [decide_eq_false h]
    refine beq_false_of_ne fun e => h ?_
    injection e with e
    injection e with e
    injection e
theorem scan_dq (r : List Nat) : scan (34 :: 34 :: r) = 34 :: scan r := by simp [scan]
theorem scan_q1 : scan [34] = [] := by simp [scan]
theorem scan_q {c : Nat} (r : List Nat) (h : c ≠ 34) : scan (34 :: c :: r) = [] := by simp [scan, h]
theorem scan_c {c : Nat} (r : List Nat) (h : c ≠ 34) : scan (c :: r) = c :: scan r := by
  cases r with
  | nil => simp [scan, h]
  | cons d r => simp [scan, h]
theorem str_of {d : PySem.Str} {l : List Nat} (h : d.cps.toList = l) : d = ⟨l.toArray⟩ := by
  subst h
  rfl
theorem app_list (d y : PySem.Str) : (d ++ y).cps.toList = d.cps.toList ++ y.cps.toList := by
  show (d.cps ++ y.cps).toList = _
  simp
theorem p257_c (w : World) (news : LLed) (x : PySem.Str) (t : Tok) (hx : x.length ≤ 100) (h5 : 5 ≤ x.length) (h1 : (Txt.slice x none (some 3) != PySem.Str.ofString "257") = false) (h2 : (Txt.slice x (some 3) (some 5) != PySem.Str.ofString " \"") = false) :
    Ctr w 89 [.str x t] [] 1 news fun N Q => ∀ t' h' tk', N h' news → Q (.str ⟨(scan (x.cps.toList.drop 5)).toArray⟩ t') h' tk' := by
  unfold Ctr
  have hdummy : PySem.Challenge.rw_wo0075_01 = PySem.Challenge.rw_wo0075_01 ∧ hd.heap_39 w.params = hd.heap_39 w.params := by k_fill; exact ⟨rfl, rfl⟩
  clear hdummy
  intro loose mean mg mb dp un gd cn cs a ccd cl outer A₀ base h₀ L m s Q E hB hF hX hN hT hk hdp hun hret
  rcases cs with ⟨ki, na, g1, g2, mo⟩
  dsimp only at hk
  subst hk
  walk_at "fd"
  (repeat' (first | tb_start | (walk_at "S0"; first | (k_end; wrow_close) | walk_at "Z")))
  rename Fr _ _ _ _ => hF9
  rename News _ _ _ news => hN9
  let JJ1 : JTw := fun m₀ news₀ n m' news' => An2 (news' = news₀) (Ex4 fun (i : Nat) (d : PySem.Str) (ti td : Tok) => An8 (n = x.length - i) (5 ≤ i) (i ≤ x.length) (d.cps.toList ++ scan (x.cps.toList.drop i) = scan (x.cps.toList.drop 5)) (d.length ≤ i) (St m₀ [PySem.Str.ofString "i", PySem.Str.ofString "dirname", PySem.Str.ofString "c"] m') (m' (PySem.Str.ofString "i") = some (.int (i : Int) ti)) (m' (PySem.Str.ofString "dirname") = some (.str d td)))
  refine while_inv hF9 hN9 JJ1 (x.length - 5) ?_ ?_
  · exact ⟨rfl, 5, PySem.Str.ofString "", _, _, rfl, by omega, h5, rfl, by decide, St.refl, rfl, rfl⟩
  · intro n m₁ news₁ h₁ tk₁ zj0 F9 N9
    walk_at "fg"
    obtain ⟨rfl, i, d, ti, td, rfl, hi5, hil, hsc, hdl, hst, hi9, hd9⟩ := zj0
    revert F9; intro F9; revert N9; intro N9
    obtain ⟨u, rfl⟩ := hst.open2 hi9 hd9
    clear hst hi9 hd9
    refine letF (G := zG) F9 ?_; clear F9; intro mT F9
    walk_at "ug"
    (repeat' (first | tb_start | (walk_at "S0"; first | (k_end; wrow_close) | walk_at "Z")))
    · obtain ⟨c, hdr, hit⟩ := item_list (x := x) (i := i) (by omega)
      rename ((Txt.item x (i : Int) == _) = true) => hq
      rw [hit, quote_eq, decide_eq_true_eq] at hq
      subst hq
      have e : x.cps.toList.drop (i + 1) = [] := List.drop_of_length_le (by have : x.cps.toList.length = x.length := rfl; omega)
      rw [hdr, e, scan_q1, List.append_nil] at hsc
      rw [str_of hsc]
      exact hret _ _ _ ⟨by k_asm, by k_asm⟩
    · obtain ⟨c, hdr, hit⟩ := item_list (x := x) (i := i) (by omega)
      obtain ⟨c2, hdr2, hit2⟩ := item_list (x := x) (i := i + 1) (by omega)
      rename ((Txt.item x (i : Int) == _) = true) => hq
      rename ((Txt.item x ((i : Int) + 1) != _) = true) => hq2
      rw [hit, quote_eq, decide_eq_true_eq] at hq
      rw [show ((i : Int) + 1) = ((i + 1 : Nat) : Int) from rfl, hit2, bne, quote_eq] at hq2
      have hq3 : c2 ≠ 34 := by simpa using hq2
      subst hq
      rw [hdr, hdr2, scan_q _ hq3, List.append_nil] at hsc
      rw [str_of hsc]
      exact hret _ _ _ ⟨by k_asm, by k_asm⟩
    · obtain ⟨c, hdr, hit⟩ := item_list (x := x) (i := i) (by omega)
      obtain ⟨c2, hdr2, hit2⟩ := item_list (x := x) (i := i + 1) (by omega)
      rename ((Txt.item x (i : Int) == _) = true) => hq
      rename ((Txt.item x ((i : Int) + 1) != _) = false) => hq2
      rw [hit, quote_eq, decide_eq_true_eq] at hq
      rw [show ((i : Int) + 1) = ((i + 1 : Nat) : Int) from rfl, hit2, bne, quote_eq] at hq2
      have hq3 : c2 = 34 := by simpa using hq2
      subst hq
      subst hq3
      rename Fr _ _ _ _ => hF5
      rename News _ _ _ _ => hN5
      rw [hdr, hdr2, scan_dq] at hsc
      (try dsimp only)
      refine ⟨_, _, _, _, x.length - (i + 1 + 1), rfl, hF5, hN5, by omega, ?_⟩
      unfold Kept
      refine ⟨rfl, i + 1 + 1, d ++ Txt.item x (i : Int), _, _, rfl, by omega, by omega, ?_, ?_, ?_, rfl, rfl⟩
      · rw [app_list, hit, ← hsc]
        simp
      · show (d ++ Txt.item x (i : Int)).length ≤ _
        omega
      · walk_at "st_base"
    · obtain ⟨c, hdr, hit⟩ := item_list (x := x) (i := i) (by omega)
      rename ((Txt.item x (i : Int) == _) = false) => hq
      rw [hit, quote_eq, decide_eq_false_iff_not] at hq
      rename Fr _ _ _ _ => hF5
      rename News _ _ _ _ => hN5
      rw [hdr, scan_c _ hq] at hsc
      (try dsimp only)
      refine ⟨_, _, _, _, x.length - (i + 1), rfl, hF5, hN5, by omega, ?_⟩
      unfold Kept
      refine ⟨rfl, i + 1, d ++ Txt.item x (i : Int), _, _, rfl, by omega, by omega, ?_, ?_, ?_, rfl, rfl⟩
      · rw [app_list, hit, ← hsc]
        simp
      · show (d ++ Txt.item x (i : Int)).length ≤ _
        omega
      · walk_at "st_base"
    · have e : x.cps.toList.drop i = [] := List.drop_of_length_le (by have : x.cps.toList.length = x.length := rfl; omega)
      rw [e] at hsc
      have e2 : scan [] = [] := rfl
      rw [e2, List.append_nil] at hsc
      rw [str_of hsc]
      exact hret _ _ _ ⟨by k_asm, by k_asm⟩
end
section
open PySem PySem.W PyProof.Rows PySem.Calls PySem.Spec
def strip : List Nat → List Nat → List Nat × List Nat
  | x :: u, y :: v => if x = y then strip u v else (x :: u, y :: v)
  | u, v => (u, v)
def dpIn (cost : Nat → Nat → Int) (bc : Nat) : List Nat → List Int → List Int → Int → Int → Int → List Int × Int × Int
  | a :: as, dn, r :: rs, dist, res, mn => dpIn cost bc as (dn ++ [min (min res r + 2) (dist + cost bc a)]) rs r (min (min res r + 2) (dist + cost bc a)) (if min (min res r + 2) (dist + cost bc a) < mn then min (min res r + 2) (dist + cost bc a) else mn)
  | _, dn, rs, _, res, mn => (dn ++ rs, res, mn)
def dpOut (cost : Nat → Nat → Int) (A : List Nat) (mx : Int) : List Nat → Int → List Int → Int → Int
  | b :: bs, k, row, _ => if (dpIn cost b A [] row (2 * k) (2 * k) 9223372036854775807).2.2 > mx then mx + 1 else dpOut cost A mx bs (k + 1) (dpIn cost b A [] row (2 * k) (2 * k) 9223372036854775807).1 (dpIn cost b A [] row (2 * k) (2 * k) 9223372036854775807).2.1
  | [], _, _, res => res
def rowL (n : Nat) : List Int := (List.range n).map fun (k : Nat) => 2 * ((k : Int) + 1)
def lev2 (cost : Nat → Nat → Int) (mx : Int) (A B : List Nat) : Int := if ((B.length : Int) - (A.length : Int)) * 2 > mx then mx + 1 else dpOut cost A mx B 0 (rowL A.length) 0
def lev1 (cost : Nat → Nat → Int) (mx : Int) (A B : List Nat) : Int := if A = [] ∨ B = [] then 2 * ((A.length : Int) + (B.length : Int)) else if B.length < A.length then lev2 cost mx B A else lev2 cost mx A B
def levG (cost : Nat → Nat → Int) (mx : Int) (X Y : List Nat) : Int :=
  if X = Y then 0 else lev1 cost mx (strip (strip X Y).1.reverse (strip X Y).2.reverse).1.reverse (strip (strip X Y).1.reverse (strip X Y).2.reverse).2.reverse
def subL (c d : Nat) : Int := subC ⟨#[c]⟩ ⟨#[d]⟩
theorem strip_step {x : Nat} (u v : List Nat) : strip (x :: u) (x :: v) = strip u v := by simp [strip]
theorem strip_stop {x y : Nat} (u v : List Nat) (h : x ≠ y) : strip (x :: u) (y :: v) = (x :: u, y :: v) := by simp [strip, h]
theorem strip_nil (v : List Nat) : strip [] v = ([], v) := by simp [strip]
theorem strip_nil' (u : List Nat) : strip u [] = (u, []) := by cases u <;> simp [strip]
theorem slice_fromL {x : PySem.Str} {i : Nat} (h : i ≤ x.length) : Txt.slice x (some (i : Int)) none = ⟨(x.cps.toList.drop i).toArray⟩ := by
  rw [slice_from_eq (x := x) (i := (i : Int)) (b := (x.length : Int)) (by omega) (by omega) rfl]
  congr 2
  rw [show ((i : Int)).toNat = i from Int.toNat_natCast i, show ((x.length : Int) - (i : Int)).toNat = x.length - i from Int.toNat_sub _ _]
  refine List.take_of_length_le ?_
  rw [List.length_drop]
  have : x.cps.toList.length = x.length := rfl
  omega
theorem slice_fromL_len {x : PySem.Str} {i : Nat} (h : i ≤ x.length) : (Txt.slice x (some (i : Int)) none).length = x.length - i := by
  rw [slice_fromL h]
  show (x.cps.toList.drop i).toArray.size = _
  rw [List.size_toArray, List.length_drop]
  rfl
theorem sgl_eq (c d : Nat) : ((⟨#[c]⟩ : PySem.Str) == ⟨#[d]⟩) = decide (c = d) := by
  by_cases h : c = d
  · subst h; simp
  · rw [decide_eq_false h]
    refine beq_false_of_ne fun e => h ?_
    injection e with e
    injection e with e
    injection e
theorem strip_go {x y : PySem.Str} {i : Nat} (hx : i < x.length) (hy : i < y.length) (h : (Txt.item x (i : Int) == Txt.item y (i : Int)) = true) : strip (x.cps.toList.drop i) (y.cps.toList.drop i) = strip (x.cps.toList.drop (i + 1)) (y.cps.toList.drop (i + 1)) := by
  obtain ⟨c, e1, e2⟩ := item_list hx
  obtain ⟨d, e3, e4⟩ := item_list hy
  rw [e2, e4, sgl_eq, decide_eq_true_eq] at h
  subst h
  rw [e1, e3, strip_step]
theorem strip_end {x y : PySem.Str} {i : Nat} (hx : i < x.length) (hy : i < y.length) (h : (Txt.item x (i : Int) == Txt.item y (i : Int)) = false) : (x.cps.toList.drop i, y.cps.toList.drop i) = strip (x.cps.toList.drop i) (y.cps.toList.drop i) := by
  obtain ⟨c, e1, e2⟩ := item_list hx
  obtain ⟨d, e3, e4⟩ := item_list hy
  rw [e2, e4, sgl_eq, decide_eq_false_iff_not] at h
  rw [e1, e3, strip_stop _ _ h]
theorem strip_endx {u v : List Nat} {i : Nat} (h : u.length - i = 0) : (u.drop i, v.drop i) = strip (u.drop i) (v.drop i) := by
  rw [List.drop_of_length_le (by omega), strip_nil]
theorem strip_endy {u v : List Nat} {i : Nat} (h : v.length - i = 0) : (u.drop i, v.drop i) = strip (u.drop i) (v.drop i) := by
  rw [List.drop_of_length_le (l := v) (by omega), strip_nil']
theorem slice_nn (x : PySem.Str) : Txt.slice x none none = x := by
  have h : Txt.slice x none none = Txt.slice x none (some (x.length : Int)) := by
    unfold Txt.slice
    rw [StrLaws.sliceIdx_none_hi]
  rw [h, slice_to (Nat.le_refl _)]
  have : List.take x.length x.cps.toList = x.cps.toList := List.take_length
  rw [this]
theorem slice_neg {x : PySem.Str} {k : Nat} (h : k ≤ x.length) (hk : 0 < k) : Txt.slice x none (some (-(k : Int))) = ⟨(x.cps.toList.take (x.length - k)).toArray⟩ := by
  have e : Txt.slice x none (some (-(k : Int))) = Txt.slice x none (some ((x.length - k : Nat) : Int)) := by
    unfold Txt.slice
    have e2 : PySem.Builtin.Str.strSliceIndices none (some (-(k : Int))) 1 x.length = PySem.Builtin.Str.strSliceIndices none (some ((x.length - k : Nat) : Int)) 1 x.length := by
      unfold PySem.Builtin.Str.strSliceIndices
      have a1 : (-(k : Int)) < 0 := by omega
      have a2 : ¬ (((x.length - k : Nat) : Int) < 0) := by omega
      have a3 : (-(k : Int)) + (x.length : Int) = ((x.length - k : Nat) : Int) := by omega
      simp only [a1, a2, if_true, if_false, a3]
    rw [e2]
  rw [e, slice_to (by omega)]
theorem slice_neg_len {x : PySem.Str} {k : Nat} (h : k ≤ x.length) (hk : 0 < k) : (Txt.slice x none (some (-(k : Int)))).length = x.length - k := by
  rw [slice_neg h hk]
  show (x.cps.toList.take (x.length - k)).toArray.size = _
  rw [List.size_toArray, List.length_take]
  have : x.cps.toList.length = x.length := rfl
  omega
theorem item_neg {x : PySem.Str} {k : Nat} (h : k < x.length) : ∃ c, x.cps.toList.reverse.drop k = c :: x.cps.toList.reverse.drop (k + 1) ∧ Txt.item x (-(k : Int) - 1) = ⟨#[c]⟩ := by
  have hl : x.cps.toList.length = x.length := rfl
  have h' : k < x.cps.toList.reverse.length := by rw [List.length_reverse]; exact h
  refine ⟨x.cps.toList.reverse[k], List.drop_eq_getElem_cons h', ?_⟩
  unfold Txt.item Txt.charAt
  have e : seqIndex? (-(k : Int) - 1) x.length = some (x.length - 1 - k) := by
    rw [StrLaws.seqIndex_neg (by omega) (by omega)]
    congr 1
    omega
  rw [e, Option.bind_some]
  have e2 : x.cps[x.length - 1 - k]? = some x.cps.toList.reverse[k] := by
    rw [List.getElem_reverse]
    have : x.cps[x.length - 1 - k]? = x.cps.toList[x.length - 1 - k]? := by simp
    rw [this]
    rw [List.getElem?_eq_getElem (by omega)]
    congr 1
  rw [e2]
  rfl
theorem strip_goR {x y : PySem.Str} {k : Nat} (hx : k < x.length) (hy : k < y.length) (h : (Txt.item x (-(k : Int) - 1) == Txt.item y (-(k : Int) - 1)) = true) : strip (x.cps.toList.reverse.drop k) (y.cps.toList.reverse.drop k) = strip (x.cps.toList.reverse.drop (k + 1)) (y.cps.toList.reverse.drop (k + 1)) := by
  obtain ⟨c, e1, e2⟩ := item_neg hx
  obtain ⟨d, e3, e4⟩ := item_neg hy
  rw [e2, e4, sgl_eq, decide_eq_true_eq] at h
  subst h
  rw [e1, e3, strip_step]
theorem strip_endR {x y : PySem.Str} {k : Nat} (hx : k < x.length) (hy : k < y.length) (h : (Txt.item x (-(k : Int) - 1) == Txt.item y (-(k : Int) - 1)) = false) : (x.cps.toList.reverse.drop k, y.cps.toList.reverse.drop k) = strip (x.cps.toList.reverse.drop k) (y.cps.toList.reverse.drop k) := by
  obtain ⟨c, e1, e2⟩ := item_neg hx
  obtain ⟨d, e3, e4⟩ := item_neg hy
  rw [e2, e4, sgl_eq, decide_eq_false_iff_not] at h
  rw [e1, e3, strip_stop _ _ h]
theorem strip_goE {x y : PySem.Str} {k : Nat} {e : Int} (he : e = -(k : Int) - 1) (hx : k < x.length) (hy : k < y.length) (h : (Txt.item x e == Txt.item y e) = true) : strip (x.cps.toList.reverse.drop (k + 1)) (y.cps.toList.reverse.drop (k + 1)) = strip (x.cps.toList.reverse.drop k) (y.cps.toList.reverse.drop k) := by
  subst he; exact (strip_goR hx hy h).symm
theorem strip_endE {x y : PySem.Str} {k : Nat} {e : Int} (he : e = -(k : Int) - 1) (hx : k < x.length) (hy : k < y.length) (h : (Txt.item x e == Txt.item y e) = false) : (x.cps.toList.reverse.drop k, y.cps.toList.reverse.drop k) = strip (x.cps.toList.reverse.drop k) (y.cps.toList.reverse.drop k) := by
  subst he; exact strip_endR hx hy h
theorem strip_endRx {x y : PySem.Str} {k : Nat} (h : x.length ≤ k) : (x.cps.toList.reverse.drop k, y.cps.toList.reverse.drop k) = strip (x.cps.toList.reverse.drop k) (y.cps.toList.reverse.drop k) :=
  strip_endx (by rw [List.length_reverse]; have : x.cps.toList.length = x.length := rfl; omega)
theorem strip_endRy {x y : PySem.Str} {k : Nat} (h : y.length ≤ k) : (x.cps.toList.reverse.drop k, y.cps.toList.reverse.drop k) = strip (x.cps.toList.reverse.drop k) (y.cps.toList.reverse.drop k) :=
  strip_endy (by rw [List.length_reverse]; have : y.cps.toList.length = y.length := rfl; omega)
theorem slice_post {x : PySem.Str} {k : Nat} (h : k ≤ x.length) (hk : 0 < k) : (Txt.slice x none (some (-(k : Int)))).cps.toList = (x.cps.toList.reverse.drop k).reverse := by
  rw [slice_neg h hk, List.drop_reverse, List.reverse_reverse]
  rfl
theorem lev_one {x y A B : PySem.Str} {k : Nat} (hxy : (x == y) = false) (h1 : A.cps.toList = (strip x.cps.toList y.cps.toList).1) (h2 : B.cps.toList = (strip x.cps.toList y.cps.toList).2) (h3 : (A.cps.toList.reverse.drop k, B.cps.toList.reverse.drop k) = strip A.cps.toList.reverse B.cps.toList.reverse) :
    levG subL 9 x.cps.toList y.cps.toList = lev1 subL 9 (A.cps.toList.reverse.drop k).reverse (B.cps.toList.reverse.drop k).reverse := by
  have hne : ¬ x.cps.toList = y.cps.toList := by
    intro e
    have : x = y := by
      obtain ⟨⟨a⟩⟩ := x
      obtain ⟨⟨b⟩⟩ := y
      simp at e
      rw [e]
    subst this
    simp at hxy
  unfold levG
  rw [if_neg hne, ← h1, ← h2, ← h3]
theorem lev1_nil {A B : List Nat} (h : A.length = 0 ∨ B.length = 0) : lev1 subL 9 A B = 2 * ((A.length : Int) + (B.length : Int)) := by
  unfold lev1
  rw [if_pos]
  rcases h with h | h
  · exact .inl (List.eq_nil_of_length_eq_zero h)
  · exact .inr (List.eq_nil_of_length_eq_zero h)
theorem lev1_swap {A B : List Nat} (h1 : A.length ≠ 0) (h2 : B.length ≠ 0) (h : B.length < A.length) : lev1 subL 9 A B = lev2 subL 9 B A := by
  unfold lev1
  rw [if_neg, if_pos h]
  rintro (rfl | rfl)
  · exact h1 rfl
  · exact h2 rfl
theorem lev1_keep {A B : List Nat} (h1 : A.length ≠ 0) (h2 : B.length ≠ 0) (h : ¬ B.length < A.length) : lev1 subL 9 A B = lev2 subL 9 A B := by
  unfold lev1
  rw [if_neg, if_neg h]
  rintro (rfl | rfl)
  · exact h1 rfl
  · exact h2 rfl
theorem ble_le {a b n : Nat} (h : a ≤ b) (hb : Nat.ble b n = true) : Nat.ble a n = true := Nat.ble_eq_true_of_le (Nat.le_trans h (Nat.le_of_ble_eq_true hb))
theorem levS_nil {A B : PySem.Str} (h : A.length = 0 ∨ B.length = 0) : lev1 subL 9 A.cps.toList B.cps.toList = 2 * ((A.length : Int) + (B.length : Int)) := lev1_nil h
theorem levS_swap {A B : PySem.Str} (h1 : A.length ≠ 0) (h2 : B.length ≠ 0) (h : B.length < A.length) : lev1 subL 9 A.cps.toList B.cps.toList = lev2 subL 9 B.cps.toList A.cps.toList := lev1_swap h1 h2 h
theorem levS_keep {A B : PySem.Str} (h1 : A.length ≠ 0) (h2 : B.length ≠ 0) (h : ¬ B.length < A.length) : lev1 subL 9 A.cps.toList B.cps.toList = lev2 subL 9 A.cps.toList B.cps.toList := lev1_keep h1 h2 h
theorem rowL_eq (n : Nat) : rangeInts 2 2 n = rowL n := by
  unfold rangeInts rowL
  refine List.map_congr_left fun k _ => ?_
  omega
theorem item_dropL {x : PySem.Str} {ri : Int} {i : Nat} (hri : ri = 0 + (i : Int)) (h : i < x.length) : ∃ c, x.cps.toList.drop i = c :: x.cps.toList.drop (i + 1) ∧ Txt.item x ri = ⟨#[c]⟩ := by
  have e : ri = (i : Int) := by omega
  subst e
  exact item_list h
theorem min_two (a b : Int) : (if b < a then b else a) = min a b := by
  split <;> omega
theorem dp_step {A B : PySem.Str} {ri rk : Int} {i k : Nat} (hri : ri = 0 + (i : Int)) (hi : i < A.length) (hrk : rk = 0 + (k : Int)) (hk : k < B.length) {row : List Int} (hrl : row.length = A.length) {dist res mn W mn' : Int} {R : List Int × Int × Int}
    (hW : W = min (min res (row.getD ri.toNat 0) + 2) (dist + subC (Txt.item B rk) (Txt.item A ri))) (hmn : mn' = if W < mn then W else mn)
    (h : dpIn subL ((B.cps.toList.drop k).headD 0) (A.cps.toList.drop i) (row.take i) (row.drop i) dist res mn = R) :
    dpIn subL ((B.cps.toList.drop k).headD 0) (A.cps.toList.drop (i + 1)) ((row.set ri.toNat W).take (i + 1)) ((row.set ri.toNat W).drop (i + 1)) (row.getD ri.toNat 0) W mn' = R := by
  obtain ⟨c, e1, e2⟩ := item_dropL hri hi
  obtain ⟨d, e3, e4⟩ := item_dropL hrk hk
  have e5 : ri.toNat = i := by omega
  rw [e2, e4] at hW
  rw [e5] at hW ⊢
  have hlt : i < row.length := by omega
  have e6 : row.drop i = row.getD i 0 :: row.drop (i + 1) := by
    rw [List.drop_eq_getElem_cons hlt, List.getD_eq_getElem?_getD, List.getElem?_eq_getElem hlt]
    rfl
  have e7 : (row.set i W).take (i + 1) = row.take i ++ [W] := by
    rw [List.take_add_one, List.getElem?_set_self hlt, List.take_set_of_le (Nat.le_refl _)]
    rfl
  have e8 : (row.set i W).drop (i + 1) = row.drop (i + 1) := List.drop_set_of_lt (Nat.lt_succ_self i)
  rw [e7, e8, ← h, e1, e6, e3]
  subst hW hmn
  rfl
theorem dp_end {A B : PySem.Str} {rk : Int} {k : Nat} (hrk : rk = 0 + (k : Int)) (hk : k < B.length) {row row2 : List Int} {dist res mn res0 T : Int} (hrl : row.length = A.length)
    (h : dpIn subL ((B.cps.toList.drop k).headD 0) (A.cps.toList.drop A.length) (row.take A.length) (row.drop A.length) dist res mn = dpIn subL ((B.cps.toList.drop k).headD 0) A.cps.toList [] row2 (rk * 2) (rk * 2) 9223372036854775807)
    (ht : dpOut subL A.cps.toList 9 (B.cps.toList.drop k) (k : Int) row2 res0 = T) :
    (9 < mn → T = 9 + 1) ∧ (¬ 9 < mn → dpOut subL A.cps.toList 9 (B.cps.toList.drop (k + 1)) ((k + 1 : Nat) : Int) row res = T) := by
  obtain ⟨d, e3, _⟩ := item_dropL hrk hk
  have e1 : A.cps.toList.drop A.length = [] := List.drop_of_length_le (Nat.le_refl _)
  have e2 : dpIn subL ((B.cps.toList.drop k).headD 0) [] (row.take A.length) (row.drop A.length) dist res mn = (row, res, mn) := by
    show (row.take A.length ++ row.drop A.length, res, mn) = _
    rw [List.take_append_drop]
  rw [e1, e2] at h
  have e4 : rk * 2 = 2 * (k : Int) := by omega
  rw [e4, e3] at h
  rw [e3] at ht
  have h2 : dpIn subL d A.cps.toList [] row2 (2 * (k : Int)) (2 * (k : Int)) 9223372036854775807 = (row, res, mn) := h.symm
  have e5 : dpOut subL A.cps.toList 9 (d :: B.cps.toList.drop (k + 1)) (k : Int) row2 res0 = if mn > 9 then 9 + 1 else dpOut subL A.cps.toList 9 (B.cps.toList.drop (k + 1)) ((k : Int) + 1) row res := by
    show (if (dpIn subL d A.cps.toList [] row2 (2 * (k : Int)) (2 * (k : Int)) 9223372036854775807).2.2 > 9 then (9 : Int) + 1 else dpOut subL A.cps.toList 9 (B.cps.toList.drop (k + 1)) ((k : Int) + 1) (dpIn subL d A.cps.toList [] row2 (2 * (k : Int)) (2 * (k : Int)) 9223372036854775807).1 (dpIn subL d A.cps.toList [] row2 (2 * (k : Int)) (2 * (k : Int)) 9223372036854775807).2.1) = _
    rw [h2]
  rw [e5] at ht
  constructor
  · intro hm
    rw [if_pos hm] at ht
    exact ht.symm
  · intro hm
    rw [if_neg hm] at ht
    exact ht
end
section
open PySem PySem.W PyProof.Rows PySem.Calls PySem.Spec
theorem foldQ {α : Type} {M : Model} {A : Around} {c : Sem α} {Q : α → Shared → Prop} {E : Value → Shared → Prop} {s : Shared} (h : let q := Q; wpAny M A c q E s) : wpAny M A c Q E s := h
local macro_rules | `(tactic| k_ne) => `(tactic| ((try dsimp only); assumption))
theorem truthy_pos {prog : Program} {w : World} {A : Around} {E : Value → Shared → Prop} {s : Shared} {z : Int} {t : Tok} {Q : Bool → Shared → Prop} (hz : z ≠ 0) (h : Q true s) : wpAny (model prog w) A (truthy (.int z t)) Q E s :=
  PySem.P.truthy_int (by rw [bne_iff_ne.mpr hz]; exact h)
theorem truthy_zero {prog : Program} {w : World} {A : Around} {E : Value → Shared → Prop} {s : Shared} {z : Int} {t : Tok} {Q : Bool → Shared → Prop} (hz : z = 0) (h : Q false s) : wpAny (model prog w) A (truthy (.int z t)) Q E s :=
  PySem.P.truthy_int (by subst hz; exact h)
def cutE (v : PySem.Str) (z : Int) : PySem.Str := if z = 0 then v else Txt.slice v none (some z)
theorem cutE_post {x : PySem.Str} {k : Nat} (h : k ≤ x.length) : (cutE x (-(k : Int))).cps.toList = (x.cps.toList.reverse.drop k).reverse := by
  unfold cutE
  rcases Nat.eq_zero_or_pos k with rfl | hk
  · rw [if_pos (by rfl)]; exact (List.reverse_reverse _).symm
  · rw [if_neg (by omega)]; exact slice_post h hk
theorem cutE_len {x : PySem.Str} {k : Nat} (h : k ≤ x.length) : (cutE x (-(k : Int))).length = x.length - k := by
  unfold cutE
  rcases Nat.eq_zero_or_pos k with rfl | hk
  · rw [if_pos (by rfl)]; rfl
  · rw [if_neg (by omega)]; exact slice_neg_len h hk
theorem cut_eval {prog : Program} {w : World} {A : Around} {E : Value → Shared → Prop} {s : Shared} {h₀ : Heap} {L a : Addr} {m : PySem.Str → Option Value} {cn : PySem.Str} {cs : Scope} {ccd : Value} {cl : List (PySem.Str × Addr)} {news : LLed} {x y v v' : PySem.Str} {px py pc pb ps pq : Pos} {kc : Nat} {t tz : Tok} {z : Int} {Q : Value → Shared → Prop}
    (F : Fr h₀ L s.heap m) (N : News h₀ L s.heap news) (hx : m x = some (.str v t)) (hy : m y = some (.int z tz)) (hsz : v.length ≤ sizeLine) (hc : cutE v z = v')
    (h : ∀ h' t' tk', Fr h₀ L h' m → News h₀ L h' news → Q (.str v' t') { s with heap := h', toks := tk' })
    (hk : cs.kind = .function) (hkx : (envX cn cs L a ccd cl).kindOf x = some .local) (hky : (envX cn cs L a ccd cl).kindOf y = some .local) (hdx : (x == ("__debug__" : Str)) = false) (hdy : (y == ("__debug__" : Str)) = false) :
    wpAny (model prog w) A (eval (.Subscript (.Name x px) (.Slice none (some (.BoolOp .Or [.Name y py, .Constant .none kc pc] pb)) none ps) pq) (envX cn cs L a ccd cl)) Q E s := by
  refine Subscript_ (nameX_L F hx (wpAny_Slice (evalPart_none_step (evalPart_some_step (BoolOp_or (nameX_L F hy ?_ hk hky hdy))))) hk hkx hdx)
  subst hc
  by_cases hz : z = 0
  · refine truthy_zero hz (BoolOp_one (wpAny_Constant_none (evalPart_none_step (slice_strN_nn F N (fun h' t' k F' N' => ?_) (by with_unfolding_all rfl) (by intro _; with_unfolding_all rfl) hsz))))
    have := h h' t' k F' N'
    unfold cutE at this
    rw [if_pos hz] at this
    rw [slice_nn]
    exact this
  · refine truthy_pos hz (evalPart_none_step (slice_strN_ns F N (fun h' t' k F' N' => ?_) (by with_unfolding_all rfl) (by intro _; with_unfolding_all rfl) hsz))
    have := h h' t' k F' N'
    unfold cutE at this
    rw [if_neg hz] at this
    exact this
theorem sn_eq {prog : Program} {w : World} {A : Around} {E : Value → Shared → Prop} {s : Shared} {h₀ : Heap} {L : Addr} {m : PySem.Str → Option Value} {news : LLed} {x v' : PySem.Str} {t ui : Tok} {i : Int} {Q : Value → Shared → Prop} {value slice : PySem.Expr}
    (hF : Fr h₀ L s.heap m) (hN : News h₀ L s.heap news) (hc : Txt.slice x (some i) none = v') (h : ∀ h' t' k, Fr h₀ L h' m → News h₀ L h' news → Q (.str v' t') { s with heap := h', toks := k })
    (hs : subscripted slice false (.str x t) (.ref s.heap.objs.size) = operate [.ref s.heap.objs.size, .str x t] (getItem (.str x t) (.ref s.heap.objs.size)) := by with_unfolding_all rfl)
    (ht : ∀ r, letTemporaryGo value (.str x t) r = pure () := by intro _; with_unfolding_all rfl) (hsz : x.length ≤ sizeLine := by size_fits) :
    wpAny (model prog w) A (subscriptTail value slice (.str x t) (.ref s.heap.objs.size)) Q E { s with heap := s.heap.push { cls := .type "slice", data := .fields #[.int i ui, .none, .none] } } := by
  subst hc
  exact slice_strN_sn hF hN h hs ht hsz
theorem lev_c (w : World) (news : LLed) (x y : PySem.Str) (t u v : Tok) (hx3 : Nat.ble x.length 3 = true) (hy3 : Nat.ble y.length 3 = true) (hx : x.length ≤ 30) (hy : y.length ≤ 30) : Ctr w 138 [.str x t, .str y u, .int 9 v] [] 3 news fun N Q => ∀ t' h' tk', N h' news → Q (.int (levG subL 9 x.cps.toList y.cps.toList) t') h' tk' := by
  unfold Ctr
  have hdummy : PySem.Challenge.rw_wo0075_01 = PySem.Challenge.rw_wo0075_01 ∧ hd.heap_39 w.params = hd.heap_39 w.params := by k_fill; exact ⟨rfl, rfl⟩
  clear hdummy
  intro loose mean mg mb dp un gd cn cs a ccd cl outer A₀ base h₀ L m s Q E hB hF hX hN hT hk hdp hun hret
  rcases cs with ⟨ki, na, g1, g2, mo⟩
  dsimp only at hk
  subst hk
  walk_at "fd"
  (repeat' (first | tb_start | (walk_at "S0"; first | (k_end; wrow_close) | walk_at "Z")))
  · rename ((x == y) = true) => hxy
    have e : x = y := eq_of_beq hxy
    subst e
    have e2 : levG subL 9 x.cps.toList x.cps.toList = 0 := if_pos rfl
    rw [e2] at hret
    exact hret _ _ _ ⟨by k_asm, by k_asm⟩
  · rename ((x == y) = false) => hxy
    rename Fr _ _ _ _ => hF9
    rename News _ _ _ news => hN9
    let JJ1 : JTw := fun m₀ news₀ n m' news' => An2 (news' = news₀) (Ex2 fun (i : Nat) (ti : Tok) => An6 (n = x.length - i) (i ≤ x.length) (i ≤ y.length) (strip (x.cps.toList.drop i) (y.cps.toList.drop i) = strip x.cps.toList y.cps.toList) (St m₀ [PySem.Str.ofString "pre"] m') (m' (PySem.Str.ofString "pre") = some (.int (i : Int) ti)))
    let JJ2 : JTd := fun m₀ news₀ m' news' => An2 (news' = news₀) (Ex2 fun (i : Nat) (ti : Tok) => An5 (i ≤ x.length) (i ≤ y.length) ((x.cps.toList.drop i, y.cps.toList.drop i) = strip x.cps.toList y.cps.toList) (St m₀ [PySem.Str.ofString "pre"] m') (m' (PySem.Str.ofString "pre") = some (.int (i : Int) ti)))
    refine while_cut hF9 hN9 JJ1
      JJ2 x.length ?_ ?_ ?_
    · exact ⟨rfl, 0, _, rfl, by omega, by omega, rfl, St.refl, rfl⟩
    · intro n m₁ news₁ h₁ tk₁ zj0 F9 N9
      walk_at "fg"
      obtain ⟨rfl, i, ti, rfl, hix, hiy, hs, hst, hi9⟩ := zj0
      revert F9; intro F9; revert N9; intro N9
      obtain ⟨u1, rfl⟩ := hst.open1 hi9
      clear hst hi9
      have hla := slice_fromL_len hix
      have hlb := slice_fromL_len hiy
      have za1 := l63 (sle hla hx)
      have za2 := l63 (sle hlb hy)
      have za3 := c63 hix hx
      have za4 : -(x.length : Int) ≤ (i : Int) := ncl (Int.neg_nonpos_of_nonneg (Int.natCast_nonneg _))
      have za5 : -(y.length : Int) ≤ (i : Int) := ncl (Int.neg_nonpos_of_nonneg (Int.natCast_nonneg _))
      refine letF (G := zG) F9 ?_; clear F9; intro mT F9
      walk_at "ug"
      (repeat' (first | tb_start | (walk_at "S0"; walk_at "Z")))
      all_goals (try k_data)
      · rename ((Txt.item x (i : Int) == _) = true) => hq
        rename Fr _ _ _ _ => hF5
        rename News _ _ _ _ => hN5
        (try dsimp only)
        refine ⟨_, _, _, _, x.length - (i + 1), rfl, hF5, hN5, kdec (klt hla (by with_reducible assumption)), ?_⟩
        unfold Kept
        refine ⟨rfl, i + 1, _, rfl, klt hla (by with_reducible assumption), klt hlb (by with_reducible assumption), ?_, ?_, rfl⟩
        · rw [← hs]
          exact (strip_go (klt hla (by with_reducible assumption)) (klt hlb (by with_reducible assumption)) hq).symm
        · walk_at "st_base"
      · rename ((Txt.item x (i : Int) == _) = false) => hq
        refine ⟨_, _, _, _, rfl, by k_asm, by k_asm, ?_⟩
        unfold Kept
        refine ⟨rfl, i, ti, hix, hiy, ?_, ?_, rfl⟩
        · rw [← hs]
          exact strip_end (klt hla (by with_reducible assumption)) (klt hlb (by with_reducible assumption)) hq
        · walk_at "st_base"
      · refine ⟨_, _, _, _, rfl, by k_asm, by k_asm, ?_⟩
        unfold Kept
        refine ⟨rfl, i, ti, hix, hiy, ?_, ?_, rfl⟩
        · rw [← hs]
          exact strip_endy (by have : y.cps.toList.length = y.length := rfl; omega)
        · walk_at "st_base"
      · refine ⟨_, _, _, _, rfl, by k_asm, by k_asm, ?_⟩
        unfold Kept
        refine ⟨rfl, i, ti, hix, hiy, ?_, ?_, rfl⟩
        · rw [← hs]
          exact strip_endx (by have : x.cps.toList.length = x.length := rfl; omega)
        · walk_at "st_base"
    · intro m₁ news₁ h₁ tk₁ zj0 F9 N9
      walk_at "fg"
      obtain ⟨rfl, i, ti, hix, hiy, hs, hst, hi9⟩ := zj0
      revert F9; intro F9; revert N9; intro N9
      obtain ⟨u1, rfl⟩ := hst.open1 hi9
      clear hst hi9
      refine letF (G := zG) F9 ?_; clear F9; intro mT F9
      walk_at "ug"
      (try dsimp only)
      obtain ⟨A, hcA⟩ : ∃ A, Txt.slice x (some (i : Int)) none = A := ⟨_, rfl⟩
      obtain ⟨B, hcB⟩ : ∃ B, Txt.slice y (some (i : Int)) none = B := ⟨_, rfl⟩
      (repeat' (first | tb_start | (walk_at "S0"; first | (k_end; wrow_close) | (((with_reducible show wpAny _ _ (subscriptTail _ (PySem.Expr.Slice (some _) none none _) _ _) _ _ _); (with_reducible rename Fr _ _ _ _ => F'); (with_reducible rename News _ _ _ _ => N'); (refine' sn_eq (hsz := ?hszy38) (s := ⟨_, _, _, _, _⟩) F' N' ?cy38 ?_); (case hszy38 => size_fits); (case cy38 => assumption); intro _ _ _ _ _; (try dsimp only)); all_goals (try walk_at "fq")) | walk_at "Z")))
      have hlA : A.length = x.length - i := hcA ▸ slice_fromL_len hix
      have hlB : B.length = y.length - i := hcB ▸ slice_fromL_len hiy
      have hs1 : A.cps.toList = (strip x.cps.toList y.cps.toList).1 := by rw [← hcA, slice_fromL hix, ← hs]
      have hs2 : B.cps.toList = (strip x.cps.toList y.cps.toList).2 := by rw [← hcB, slice_fromL hiy, ← hs]
      have hA30 := sle hlA hx
      have hB30 := sle hlB hy
      have hAx := sle hlA (Nat.le_refl _)
      have hBy := sle hlB (Nat.le_refl _)
      have hA24 := l24 hA30
      have hB24 := l24 hB30
      clear hcA hcB hlA hlB
      rename Fr _ _ _ _ => hF8
      rename News _ _ _ _ => hN8
      let JJ3 : JTw := fun m₀ news₀ n m' news' => An2 (news' = news₀) (Ex2 fun (k : Nat) (tk : Tok) => An6 (n = A.length - k) (k ≤ A.length) (k ≤ B.length) (strip (A.cps.toList.reverse.drop k) (B.cps.toList.reverse.drop k) = strip A.cps.toList.reverse B.cps.toList.reverse) (St m₀ [PySem.Str.ofString "post"] m') (m' (PySem.Str.ofString "post") = some (.int (-(k : Int)) tk)))
      let JJ4 : JTd := fun m₀ news₀ m' news' => An2 (news' = news₀) (Ex2 fun (k : Nat) (tk : Tok) => An5 (k ≤ A.length) (k ≤ B.length) ((A.cps.toList.reverse.drop k, B.cps.toList.reverse.drop k) = strip A.cps.toList.reverse B.cps.toList.reverse) (St m₀ [PySem.Str.ofString "post"] m') (m' (PySem.Str.ofString "post") = some (.int (-(k : Int)) tk)))
      refine while_cut hF8 hN8 JJ3
        JJ4 A.length ?_ ?_ ?_
      · exact ⟨rfl, 0, _, rfl, by omega, by omega, rfl, St.refl, rfl⟩
      · intro n m₂ news₂ h₂ tk₂ zj0 F7 N7
        walk_at "fg"
        obtain ⟨rfl, k, tk3, rfl, hkA, hkB, hs3, hst, hk9⟩ := zj0
        revert F7; intro F7; revert N7; intro N7
        obtain ⟨u2, rfl⟩ := hst.open1 hk9
        clear hst hk9
        obtain ⟨A1, hcA⟩ : ∃ A1, cutE A (-(k : Int)) = A1 := ⟨_, rfl⟩
        obtain ⟨B1, hcB⟩ : ∃ B1, cutE B (-(k : Int)) = B1 := ⟨_, rfl⟩
        have hlC : A1.length = A.length - k := hcA ▸ cutE_len hkA
        have hlD : B1.length = B.length - k := hcB ▸ cutE_len hkB
        have zb1 := l63 (sle hlC hA30)
        have zb2 := l63 (sle hlD hB30)
        have zb3 := kn2 hkA hA30
        refine letF (G := zG) F7 ?_; clear F7; intro mT F7
        walk_at "ug"
        (repeat' (first | tb_start | (walk_at "S0"; first | ((first | ((with_reducible show wpAny _ _ (eval (PySem.Expr.Subscript _ (PySem.Expr.Slice none (some (PySem.Expr.BoolOp _ _ _)) none _) _) _) _ _ _); k_dflt (refine' cut_eval ?Fy55 ?Ny55 ?xy55 ?yy55 ?zy55 ?cy55 ?_ ?ay55 ?by55 ?dy55 ?ey55 ?fy55; (case Fy55 => k_asm); (case Ny55 => k_asm); (case xy55 => rfl); (case yy55 => rfl); (case zy55 => size_fits); (case cy55 => assumption); (case ay55 => rfl); (case by55 => rfl); (case dy55 => rfl); (case ey55 => decide); (case fy55 => decide); k_whole; intro _ _ _ _ _)) | ((with_reducible show wpAny _ _ (subscriptTail _ _ (Value.str _ _) (Value.int _ _)) _ _ _); (refine item_str (fitsSsize_of (N := 9223372036854775808) (by omega) (by omega) (Int.le_refl _)) (by omega) (by omega) ?_; intro zhL9; clear zhL9))); all_goals (try walk_at "fq")) | walk_at "Z")))
        all_goals (try k_data)
        · rename ((Txt.item A _ == _) = true) => hq
          rename Fr _ _ _ _ => hF5
          rename News _ _ _ _ => hN5
          (try dsimp only)
          refine ⟨_, _, _, _, A.length - (k + 1), rfl, hF5, hN5, kdec (klt hlC (by with_reducible assumption)), ?_⟩
          unfold Kept
          refine ⟨rfl, k + 1, _, rfl, klt hlC (by with_reducible assumption), klt hlD (by with_reducible assumption), ?_, ?_, congrArg (fun z => some (Value.int z _)) (show (-(k : Int) - 1) = -((k + 1 : Nat) : Int) by omega)⟩
          · rw [← hs3]
            exact strip_goE (by omega) (klt hlC (by with_reducible assumption)) (klt hlD (by with_reducible assumption)) hq
          · walk_at "st_base"
        · rename ((Txt.item A _ == _) = false) => hq
          (try dsimp only)
          refine ⟨_, _, _, _, rfl, by k_asm, by k_asm, ?_⟩
          unfold Kept
          refine ⟨rfl, k, _, hkA, hkB, ?_, ?_, rfl⟩
          · rw [← hs3]
            exact strip_endE (by omega) (klt hlC (by with_reducible assumption)) (klt hlD (by with_reducible assumption)) hq
          · walk_at "st_base"
        · (try dsimp only)
          refine ⟨_, _, _, _, rfl, by k_asm, by k_asm, ?_⟩
          unfold Kept
          refine ⟨rfl, k, _, hkA, hkB, ?_, ?_, rfl⟩
          · rw [← hs3]
            exact strip_endRy (kle hlD (by with_reducible assumption))
          · walk_at "st_base"
        · (try dsimp only)
          refine ⟨_, _, _, _, rfl, by k_asm, by k_asm, ?_⟩
          unfold Kept
          refine ⟨rfl, k, _, hkA, hkB, ?_, ?_, rfl⟩
          · rw [← hs3]
            exact strip_endRx (kle hlC (by with_reducible assumption))
          · walk_at "st_base"
      · intro m₂ news₂ h₂ tk₂ zj0 F7 N7
        walk_at "fg"
        obtain ⟨rfl, k, tk3, hkA, hkB, hs3, hst, hk9⟩ := zj0
        revert F7; intro F7; revert N7; intro N7
        obtain ⟨u2, rfl⟩ := hst.open1 hk9
        clear hst hk9
        refine letF (G := zG) F7 ?_; clear F7; intro mT F7
        walk_at "ug"
        (try dsimp only)
        have hP := lev_one hxy hs1 hs2 hs3
        obtain ⟨A1, hcA⟩ : ∃ A1, cutE A (-(k : Int)) = A1 := ⟨_, rfl⟩
        obtain ⟨B1, hcB⟩ : ∃ B1, cutE B (-(k : Int)) = B1 := ⟨_, rfl⟩
        have hlC : A1.length = A.length - k := hcA ▸ cutE_len hkA
        have hlD : B1.length = B.length - k := hcB ▸ cutE_len hkB
        have hlev : levG subL 9 x.cps.toList y.cps.toList = lev1 subL 9 A1.cps.toList B1.cps.toList := by
          rw [hP, ← hcA, ← hcB, cutE_post hkA, cutE_post hkB]
        have hA1 := sle hlC (Nat.le_refl _)
        have hB1 := sle hlD (Nat.le_refl _)
        have hble1 := ble_le (Nat.le_trans hA1 hAx) hx3
        have hble2 := ble_le (Nat.le_trans hB1 hBy) hy3
        have hA130 := Nat.le_trans hA1 hA30
        have hB130 := Nat.le_trans hB1 hB30
        have zc1 := l63 hA130
        have zc2 := l63 hB130
        have zc3 := nl63 hA130
        have zc4 := nl63 hB130
        have zc5 := nl40 hA130
        have zc6 := nl40 hB130
        clear hlC hlD
        let JJ5 : JTd := fun m₀ news₀ m' news' => An2 (∀ p ∈ news₀, p ∈ news') (Ex4 fun (A2 B2 : PySem.Str) (tA tB : Tok) => An8 (St m₀ [PySem.Str.ofString "a", PySem.Str.ofString "b"] m') (m' (PySem.Str.ofString "a") = some (.str A2 tA)) (m' (PySem.Str.ofString "b") = some (.str B2 tB)) (levG subL 9 x.cps.toList y.cps.toList = lev2 subL 9 A2.cps.toList B2.cps.toList) (A2.length ≤ B2.length) (A2.length ≠ 0) (Nat.ble B2.length 3 = true) (B2.length ≤ 30))
        refine execs_step 5 F7 N7 JJ5 ?_ ?_
        · show wpAny _ _ (execs [_, _, _, _, _] _) _ _ _
          (repeat' (first | tb_start | (walk_at "S0"; first | (((with_reducible show wpAny _ _ (eval (PySem.Expr.Subscript _ (PySem.Expr.Slice none (some (PySem.Expr.BoolOp _ _ _)) none _) _) _) _ _ _); k_dflt (refine' cut_eval ?Fy73 ?Ny73 ?xy73 ?yy73 ?zy73 ?cy73 ?_ ?ay73 ?by73 ?dy73 ?ey73 ?fy73; (case Fy73 => k_asm); (case Ny73 => k_asm); (case xy73 => rfl); (case yy73 => rfl); (case zy73 => size_fits); (case cy73 => assumption); (case ay73 => rfl); (case by73 => rfl); (case dy73 => rfl); (case ey73 => decide); (case fy73 => decide); k_whole; intro _ _ _ _ _)); all_goals (try walk_at "fq")) | walk_at "Z")))
          all_goals (try k_data)
          · (try dsimp only)
            rename Fr _ _ _ _ => hF5
            rename News _ _ _ _ => hN5
            refine ⟨_, _, _, _, rfl, hF5, hN5, ?_⟩
            unfold Kept
            refine ⟨fun p hp => by first | exact hp | exact List.mem_cons_of_mem _ hp, _, _, _, _, ?_, rfl, rfl, hlev.trans (levS_swap (by omega) (by omega) (by omega)), by omega, by omega, hble1, by omega⟩
            walk_at "st_base"
          · (try dsimp only)
            rename Fr _ _ _ _ => hF5
            rename News _ _ _ _ => hN5
            refine ⟨_, _, _, _, rfl, hF5, hN5, ?_⟩
            unfold Kept
            refine ⟨fun p hp => hp, _, _, _, _, ?_, rfl, rfl, hlev.trans (levS_keep (by omega) (by omega) (by omega)), by omega, by omega, hble2, by omega⟩
            walk_at "st_base"
          · have e9 := hlev.trans (levS_nil (.inr (by omega)))
            rw [e9] at hret
            exact hret _ _ _ ⟨by k_asm, by k_asm⟩
          · have e9 := hlev.trans (levS_nil (.inl (by omega)))
            rw [e9] at hret
            exact hret _ _ _ ⟨by k_asm, by k_asm⟩
        · intro m₃ news₃ h₃ tk₃ zj0 F6 N6
          walk_at "fg"
          obtain ⟨hsub3, A2, B2, tA, tB, hst, hma, hmb, hlv, hAB, hA0, hB3, hB30⟩ := zj0
          revert F6; intro F6; revert N6; intro N6
          obtain ⟨u3, rfl⟩ := hst.open2 hma hmb
          clear hst hma hmb
          refine letF (G := zG) F6 ?_; clear F6; intro mT F6
          walk_at "ug"
          show wpAny _ _ (execs [_, _, _, _, _] _) _ _ _
          let JJ6 : JTd := fun m₀ news₀ m' news' => Ex3 fun (D : Addr) (rv : List Value) (kr : Nat) => An5 (St m₀ [PySem.Str.ofString "row"] m') (m' (PySem.Str.ofString "row") = some (.ref D)) (news' = (D, W.listOf rv.toArray kr) :: news₀) (IntsAre rv (rowL A2.length)) (∀ p ∈ news₀, p.1 ≠ D)
          refine execs_step 2 F6 N6 JJ6 ?_ ?_
          · show wpAny _ _ (execs [_, _] _) _ _ _
            have hA3 := Nat.le_of_ble_eq_true (ble_le hAB hB3)
            have hB4 := Nat.le_of_ble_eq_true hB3
            have hA4 : A2.length = 1 ∨ A2.length = 2 ∨ A2.length = 3 := by omega
            have hsm : PySem.Builtin.Range.small 2 (2 * ((A2.length : Int) + 1)) 2 = true := by rcases hA4 with h | h | h <;> rw [h] <;> decide
            have hrs : PySem.Builtin.Range.rangeSize 2 (2 * ((A2.length : Int) + 1)) 2 = (A2.length : Int) := by rcases hA4 with h | h | h <;> rw [h] <;> decide
            (repeat' (first | tb_start | (walk_at "S0"; walk_at "Z")))
            rename IsRange _ _ _ _ _ _ _ _ => hR9
            rename Fr _ _ _ _ => hF5
            rename News _ _ _ _ => hN5
            refine list_rangeD rfl hF5 hN5 hR9 hsm hrs (by omega) ?_
            intro h' tk' ys F' N' hk' hn' hl' hp' hc'
            obtain ⟨kr, N2⟩ := made_enters hp' F' N' hn'
            clear N' hN5 hF5
            (repeat' (first | tb_start | (walk_at "S0"; walk_at "Z")))
            all_goals (try k_data)
            rename Fr _ _ _ _ => hF5
            rename News _ _ _ _ => hN5
            (try dsimp only)
            refine ⟨_, _, _, _, rfl, hF5, hN5, ?_⟩
            unfold Kept
            refine ⟨_, ys, kr, ?_, rfl, rfl, ?_, hp'.2⟩
            · walk_at "st_base"
            · have := IntsAre.ofCarried hc'
              rw [rowL_eq] at this
              exact this
          · intro m₄ news₄ h₄ tk₄ zj0 F5 N5
            walk_at "fg"
            obtain ⟨D, rv, kr, hst, hmr, rfl, hrv, hDlt⟩ := zj0
            revert F5; intro F5; revert N5; intro N5
            obtain ⟨u4, rfl⟩ := hst.open1 hmr
            clear hst hmr
            refine letF (G := zG) F5 ?_; clear F5; intro mT F5
            walk_at "ug"
            show wpAny _ _ (execs [_, _, _] _) _ _ _
            have hA3 := Nat.le_of_ble_eq_true (ble_le hAB hB3)
            have hB4 := Nat.le_of_ble_eq_true hB3
            have hlv2 : lev2 subL 9 A2.cps.toList B2.cps.toList = dpOut subL A2.cps.toList 9 B2.cps.toList 0 (rowL A2.length) 0 := if_neg (by
              have e1 : A2.cps.toList.length = A2.length := rfl
              have e2 : B2.cps.toList.length = B2.length := rfl
              omega)
            rw [hlv2] at hlv
            clear hA3 hB4
            have hA30 : A2.length ≤ 30 := by omega
            (repeat' (first | tb_start | (walk_at "S0"; walk_at "Z")))
            refine For_invVF (by k_asm) rfl rfl ?_
            (repeat' (first | tb_start | (walk_at "S0"; walk_at "Z")))
            rename IsRange _ _ _ _ _ _ _ _ => hR
            rename News _ _ _ _ => hN4
            let JJ7 : JT6 := fun m₀ news₀ I k m news' => Ex5 fun rv kr row res tr => An7 (St m₀ [PySem.Str.ofString "bindex", PySem.Str.ofString "bchar", PySem.Str.ofString "distance", PySem.Str.ofString "result", PySem.Str.ofString "minimum", PySem.Str.ofString "index", PySem.Str.ofString "substitute", PySem.Str.ofString "insert_delete"] m) (m (PySem.Str.ofString "result") = some (.int res tr)) (news' = (D, W.listOf rv.toArray kr) :: news₃) (IntsAre rv row) (row.length = A2.length) (dpOut subL A2.cps.toList 9 (B2.cps.toList.drop k) (k : Int) row res = levG subL 9 x.cps.toList y.cps.toList) (∀ p ∈ news', p.1 ≠ I)
            refine range_inv (n := B2.length) (by rfl) hR (small_one (by omega) (by omega) (by omega) (by omega)) (by rw [rangeSize_nat]; omega) (by k_asm) hN4
              JJ7
              (fun I hI => ⟨rv, kr, rowL A2.length, 0, _, St.refl, rfl, rfl, hrv, by simp [rowL], hlv.symm, fun p hp => Nat.ne_of_lt (hI p hp)⟩) (fun I i m news h => ?d5) ?_ ?_
            case d5 =>
              obtain ⟨_, _, _, _, _, _, _, _, _, _, _, h9⟩ := h
              exact h9
            · intro I k2 rk m news' h5 tk5 t5 oI hk2 hrk zj0 F4 N4
              walk_at "fg"
              obtain ⟨rv2, kr2, row2, res2, tr2, hst, hres, rfl, hrv2, hrl2, htot, q4⟩ := zj0
              revert F4; intro F4; revert N4; intro N4
              obtain ⟨u5, rfl⟩ := hst.open1 hres
              clear hst hres
              have hrk0 : 0 ≤ rk := by omega
              have hrk1 : rk < (B2.length : Int) := by omega
              have hDI := q4 _ (List.mem_cons_self ..)
              have hDI' := hDI.symm
              refine letF (G := zG) F4 ?_; clear F4; intro mT F4
              walk_at "ug"
              (repeat' (first | tb_start | (walk_at "S0"; walk_at "Z")))
              refine For_invVF (by k_asm) rfl rfl ?_
              (repeat' (first | tb_start | (walk_at "S0"; walk_at "Z")))
              rename IsRange _ _ _ _ _ _ _ _ => hR2
              rename News _ _ _ _ => hN3
              let JJ8 : JT6 := fun m₀ news₀ I2 i m news' => Ex9 fun rv kr row dist res mn td tr tm => An9 (St m₀ [PySem.Str.ofString "distance", PySem.Str.ofString "result", PySem.Str.ofString "minimum", PySem.Str.ofString "index", PySem.Str.ofString "substitute", PySem.Str.ofString "insert_delete"] m) (m (PySem.Str.ofString "distance") = some (.int dist td)) (m (PySem.Str.ofString "result") = some (.int res tr)) (m (PySem.Str.ofString "minimum") = some (.int mn tm)) (news' = (I, oI) :: (D, W.listOf rv.toArray kr) :: news₃) (IntsAre rv row) (row.length = A2.length) (dpIn subL ((B2.cps.toList.drop k2).headD 0) (A2.cps.toList.drop i) (row.take i) (row.drop i) dist res mn = dpIn subL ((B2.cps.toList.drop k2).headD 0) A2.cps.toList [] row2 (rk * 2) (rk * 2) 9223372036854775807) (∀ p ∈ news', p.1 ≠ I2)
              refine range_inv (n := A2.length) (by rfl) hR2 (small_one (by omega) (by omega) (by omega) (by omega)) (by rw [rangeSize_nat]; omega) (by k_asm) hN3
                JJ8
                (fun I2 hI => ⟨rv2, kr2, row2, rk * 2, rk * 2, 9223372036854775807, _, _, _, St.refl, rfl, rfl, rfl, rfl, hrv2, hrl2, rfl, fun p hp => Nat.ne_of_lt (hI p hp)⟩) (fun I i m news h => ?e5) ?_ ?_
              case e5 =>
                obtain ⟨_, _, _, _, _, _, _, _, _, _, _, _, _, _, _, _, _, h9⟩ := h
                exact h9
              · intro I2 i3 ri m news' h6 tk6 t6 oI2 hi3 hri3 zj0 F3 N3
                walk_at "fg"
                obtain ⟨rv3, kr3, row3, dist3, res3, mn3, td3, tr3, tm3, hst, hm1, hm2, hm3, rfl, hrv3, hrl3, htot3, q5⟩ := zj0
                revert F3; intro F3; revert N3; intro N3
                obtain ⟨u6, rfl⟩ := hst.open3 hm1 hm2 hm3
                clear hst hm1 hm2 hm3 hrv2 hrv
                have hri0 : 0 ≤ ri := by omega
                have hri1 : ri < (A2.length : Int) := by omega
                have hI2a := q5 _ (List.mem_cons_self ..)
                have hI2b := q5 _ (List.mem_cons_of_mem _ (List.mem_cons_self ..))
                have hI2a' := hI2a.symm
                have hI2b' := hI2b.symm
                refine letF (G := zG) F3 ?_; clear F3; intro mT F3
                walk_at "ug"
                (repeat' (first | tb_start | (walk_at "S0"; first | (((with_reducible show wpAny _ _ (call (Value.ref 131) _ _) _ _ _); k_dflt (refine' Ctr.use (subc_c _ _ _ _ _ _ ?p0y202 ?p1y202) ?k1y202 ?k2y202 ?k3y202 ?k4y202 ?k5y202 ?kKy202 ?kdy202 ?kuy202 ?_; (case k1y202 => k_asm); (case k2y202 => k_asm); (case k3y202 => k_asm); (case k4y202 => k_asm); (case k5y202 => k_asm); (case kKy202 => first | exact rfl | assumption); (case kdy202 => ((try dsimp +zetaDelta only); first | exact dm1 (by with_reducible assumption) rfl | ktr_room)); (case kuy202 => ((try dsimp +zetaDelta only); first | exact um1 (by with_reducible assumption) rfl | ktr_units)); (case p0y202 => exact (show (1 : Nat) ≤ 10 by decide)); (case p1y202 => exact (show (1 : Nat) ≤ 10 by decide)); (rintro _ _ _ ⟨_, _⟩; (try dsimp only); (try k_fold)))); all_goals (try walk_at "fq")) | walk_at "Z")))
                all_goals (try k_data)
                · (try dsimp only)
                  rename Fr _ _ _ _ => hF5
                  rename News _ _ _ _ => hN5
                  rename IntsAre (rv3.set _ _) _ => hi5
                  rename (_ < mn3) => hlt9
                  refine ⟨_, _, _, _, rfl, hF5, hN5, ?_⟩
                  unfold Kept
                  refine ⟨_, _, _, _, _, _, _, _, _, ?_, rfl, rfl, rfl, rfl, hi5, by rw [List.length_set]; exact hrl3, dp_step hri3 hi3 hrk hk2 hrl3 ?_ ?_ htot3, ?_⟩
                  · walk_at "st_base"
                  · simp only [min_two]
                  · exact (if_pos hlt9).symm
                  · intro p hp
                    (first | (revert p; refine all_cons ?_ (fun p hp => ?_)) | rcases List.mem_cons.mp hp with rfl | hp)
                    · exact hI2a
                    (first | (revert p; refine all_cons ?_ (fun p hp => ?_)) | rcases List.mem_cons.mp hp with rfl | hp)
                    · exact hI2b
                    · exact q5 p (List.mem_cons_of_mem _ (List.mem_cons_of_mem _ hp))
                · (try dsimp only)
                  rename Fr _ _ _ _ => hF5
                  rename News _ _ _ _ => hN5
                  rename IntsAre (rv3.set _ _) _ => hi5
                  rename (¬ _ < mn3) => hlt9
                  refine ⟨_, _, _, _, rfl, hF5, hN5, ?_⟩
                  unfold Kept
                  refine ⟨_, _, _, _, _, _, _, _, _, ?_, rfl, rfl, rfl, rfl, hi5, by rw [List.length_set]; exact hrl3, dp_step hri3 hi3 hrk hk2 hrl3 ?_ ?_ htot3, ?_⟩
                  · walk_at "st_base"
                  · simp only [min_two]
                  · exact (if_neg hlt9).symm
                  · intro p hp
                    (first | (revert p; refine all_cons ?_ (fun p hp => ?_)) | rcases List.mem_cons.mp hp with rfl | hp)
                    · exact hI2a
                    (first | (revert p; refine all_cons ?_ (fun p hp => ?_)) | rcases List.mem_cons.mp hp with rfl | hp)
                    · exact hI2b
                    · exact q5 p (List.mem_cons_of_mem _ (List.mem_cons_of_mem _ hp))
              · intro I2 m news' h6 tk6 zj0 F3 N3
                walk_at "fg"
                obtain ⟨rv3, kr3, row3, dist3, res3, mn3, td3, tr3, tm3, hst, hm1, hm2, hm3, rfl, hrv3, hrl3, htot3, q5⟩ := zj0
                revert F3; intro F3; revert N3; intro N3
                obtain ⟨u6, rfl⟩ := hst.open3 hm1 hm2 hm3
                clear hst hm1 hm2 hm3
                refine letF (G := zG) F3 ?_; clear F3; intro mT F3
                walk_at "ug"
                (try dsimp only)
                (repeat' (first | tb_start | (walk_at "S0"; walk_at "Z")))
                all_goals (try k_data)
                · rename (9 < mn3) => hlt9
                  have e9 := (dp_end hrk hk2 hrl3 htot3 htot).1 hlt9
                  rw [e9] at hret
                  rename News h₀ L _ _ => hN5
                  exact hret _ _ _ ⟨by k_asm, News.sub hN5 (fun p hp => List.mem_cons_of_mem _ (List.mem_cons_of_mem _ (hsub3 p hp)))⟩
                · rename (¬ 9 < mn3) => hlt9
                  (try dsimp only)
                  rename Fr _ _ _ _ => hF5
                  rename News _ _ _ _ => hN5
                  refine ⟨_, _, _, _, rfl, hF5, hN5, ?_⟩
                  unfold Kept
                  refine ⟨rv3, kr3, row3, res3, tr3, ?_, rfl, rfl, hrv3, hrl3, (dp_end hrk hk2 hrl3 htot3 htot).2 hlt9, ?_⟩
                  · walk_at "st_base"
                  · intro p hp
                    (first | (revert p; refine all_cons ?_ (fun p hp => ?_)) | rcases List.mem_cons.mp hp with rfl | hp)
                    · exact hDI
                    · exact q4 p (List.mem_cons_of_mem _ hp)
            · intro I m news' h5 tk5 zj0 F4 N4
              walk_at "fg"
              obtain ⟨rv2, kr2, row2, res2, tr2, hst, hres, rfl, hrv2, hrl2, htot, q4⟩ := zj0
              revert F4; intro F4; revert N4; intro N4
              obtain ⟨u5, rfl⟩ := hst.open1 hres
              clear hst hres
              refine letF (G := zG) F4 ?_; clear F4; intro mT F4
              walk_at "ug"
              (try dsimp only)
              (repeat' (first | tb_start | (walk_at "S0"; walk_at "Z")))
              all_goals (try k_data)
              rw [List.drop_of_length_le (show B2.cps.toList.length ≤ B2.length from Nat.le_refl _)] at htot
              have e9 : res2 = levG subL 9 x.cps.toList y.cps.toList := htot
              rw [← e9] at hret
              rename News h₀ L _ _ => hN5
              exact hret _ _ _ ⟨by k_asm, News.sub hN5 (fun p hp => List.mem_cons_of_mem _ (hsub3 p hp))⟩
end
section
open PySem PySem.W PyProof.Rows PySem.Calls PySem.Spec
def costC (x y : PySem.Str) : Int := if x == y then 0 else if Txt.upper x == Txt.upper y then 1 else 2
def cst (c d : Nat) : Int := costC ⟨#[c]⟩ ⟨#[d]⟩
def minI (a : Int) (l : List Int) : Int := l.foldl min a
def prRow (rec : List Nat → Int) (c : Nat → Int) (i : Int) : Int → List Nat → List Int
  | _, [] => []
  | j, y :: s => (2 * (i + j) + c y + rec s) :: prRow rec c i (j + 1) s
def prAll : List Nat → Int → List Nat → List Int
  | [], _, _ => []
  | x :: f, i, s => prRow (fun s' => minI (2 * ((f.length : Int) + (s'.length : Int))) (prAll f 0 s')) (cst x) i 0 s ++ prAll f (i + 1) s
def prL (f s : List Nat) : Int := minI (2 * ((f.length : Int) + (s.length : Int))) (prAll f 0 s)
def prS (x y : PySem.Str) : Int := prL x.cps.toList y.cps.toList
theorem slice_from {x : PySem.Str} {i : Nat} (h : i ≤ x.length) : Txt.slice x (some (i : Int)) none = ⟨(x.cps.toList.drop i).toArray⟩ := by
  rw [slice_from_eq (x := x) (i := (i : Int)) (b := (x.length : Int)) (by omega) (by omega) rfl]
  congr 2
  rw [show ((i : Int)).toNat = i from Int.toNat_natCast i, show ((x.length : Int) - (i : Int)).toNat = x.length - i from Int.toNat_sub _ _]
  refine List.take_of_length_le ?_
  rw [List.length_drop]
  have : x.cps.toList.length = x.length := rfl
  omega
def PriceIH (w : World) (n : Nat) : Prop := ∀ x : PySem.Str, x.length < n → ∀ (news : LLed) (y : PySem.Str) (t u : Tok), Nat.ble x.length 3 = true → Nat.ble y.length 3 = true → x.length ≤ 1000 → y.length ≤ 1000 → Ctr w 307 [.str x t, .str y u] [] (x.length + 3) news fun N Q => ∀ t' h' tk', N h' news → Q (.int (prS x y) t') h' tk'
theorem PriceIH.use {w : World} {n : Nat} (ih : PriceIH w n) {x : PySem.Str} (hx : x.length < n) (news : LLed) (y : PySem.Str) (t u : Tok) (h1 : Nat.ble x.length 3 = true) (h2 : Nat.ble y.length 3 = true) (h3 : x.length ≤ 1000) (h4 : y.length ≤ 1000) : Ctr w 307 [.str x t, .str y u] [] (x.length + 3) news fun N Q => ∀ t' h' tk', N h' news → Q (.int (prS x y) t') h' tk' := ih x hx news y t u h1 h2 h3 h4
theorem minI_le (l : List Int) : ∀ a : Int, minI a l ≤ a ∧ ∀ b ∈ l, minI a l ≤ b := by
  induction l with
  | nil => intro a; exact ⟨Int.le_refl _, fun _ h => nomatch h⟩
  | cons c l ih =>
    intro a
    have h := ih (min a c)
    show minI (min a c) l ≤ a ∧ _
    refine ⟨Int.le_trans h.1 (Int.min_le_left _ _), fun b hb => ?_⟩
    show minI (min a c) l ≤ b
    rcases List.mem_cons.mp hb with rfl | hb
    · exact Int.le_trans h.1 (Int.min_le_right _ _)
    · exact h.2 b hb
theorem minI_mem (l : List Int) : ∀ a : Int, minI a l ∈ a :: l := by
  induction l with
  | nil => intro a; exact List.mem_cons_self ..
  | cons c l ih =>
    intro a
    have h := ih (min a c)
    show minI (min a c) l ∈ a :: c :: l
    rcases List.mem_cons.mp h with h | h
    · rw [h]
      have : min a c = a ∨ min a c = c := by omega
      rcases this with e | e <;> rw [e] <;> simp
    · exact List.mem_cons_of_mem _ (List.mem_cons_of_mem _ h)
theorem minI_eq {M a : Int} {l : List Int} (hm : M ∈ a :: l) (hle : ∀ b, b ∈ a :: l → M ≤ b) : M = minI a l := by
  have h1 := hle _ (minI_mem l a)
  have h2 := minI_le l a
  rcases List.mem_cons.mp hm with rfl | h
  · omega
  · have := h2.2 M h; omega
theorem slice_drop {x : PySem.Str} {ri : Int} {i : Nat} (hri : ri = 0 + (i : Int)) (h : i < x.length) : Txt.slice x (some (ri + 1)) none = ⟨(x.cps.toList.drop (i + 1)).toArray⟩ := by
  rw [← slice_from (x := x) (i := i + 1) (by omega)]
  congr 2
  omega
theorem slice_drop_len {x : PySem.Str} {ri : Int} {i : Nat} (hri : ri = 0 + (i : Int)) (h : i < x.length) : (Txt.slice x (some (ri + 1)) none).length + (i + 1) = x.length := by
  rw [slice_drop hri h]
  show (x.cps.toList.drop (i + 1)).toArray.size + (i + 1) = x.length
  rw [List.size_toArray, List.length_drop]
  exact Nat.sub_add_cancel h
theorem item_dropI {x : PySem.Str} {ri : Int} {i : Nat} (hri : ri = 0 + (i : Int)) (h : i < x.length) : ∃ c, x.cps.toList.drop i = c :: x.cps.toList.drop (i + 1) ∧ Txt.item x ri = ⟨#[c]⟩ := by
  have e : ri = (i : Int) := by omega
  subst e
  exact item_list h
theorem pr_step {x y : PySem.Str} {ri rj q : Int} {i j : Nat} {cs T rest : List Int} (hri : ri = 0 + (i : Int)) (hi : i < x.length) (hrj : rj = 0 + (j : Int)) (hj : j < y.length) (hq : costC (Txt.item x ri) (Txt.item y rj) = q)
    (h : cs ++ (prRow (fun s' => minI (2 * (((x.cps.toList.drop (i + 1)).length : Int) + (s'.length : Int))) (prAll (x.cps.toList.drop (i + 1)) 0 s')) (cst ((x.cps.toList.drop i).headD 0)) (i : Int) (j : Int) (y.cps.toList.drop j) ++ rest) = T) :
    (cs ++ [2 * (ri + rj) + q + prS (Txt.slice x (some (ri + 1)) none) (Txt.slice y (some (rj + 1)) none)]) ++ (prRow (fun s' => minI (2 * (((x.cps.toList.drop (i + 1)).length : Int) + (s'.length : Int))) (prAll (x.cps.toList.drop (i + 1)) 0 s')) (cst ((x.cps.toList.drop i).headD 0)) (i : Int) ((j + 1 : Nat) : Int) (y.cps.toList.drop (j + 1)) ++ rest) = T := by
  obtain ⟨c, hdr, hit⟩ := item_dropI hri hi
  obtain ⟨d, hdr2, hit2⟩ := item_dropI hrj hj
  rw [← h, slice_drop hri hi, slice_drop hrj hj]
  rw [hit, hit2] at hq
  rw [hdr2, hdr]
  have e1 : ri = (i : Int) := by omega
  have e2 : rj = (j : Int) := by omega
  subst e1 e2 hq
  show (cs ++ [_]) ++ _ = cs ++ ((_ :: prRow _ _ _ _ _) ++ rest)
  rw [List.append_assoc]
  rfl
local macro_rules | `(tactic| k_ne) => `(tactic| ((try dsimp only); assumption))
theorem price_c (w : World) (x : PySem.Str) (ih : PriceIH w x.length)
   (news : LLed) (y : PySem.Str) (t u : Tok) (hx3 : Nat.ble x.length 3 = true) (hy3 : Nat.ble y.length 3 = true) (hx : x.length ≤ 1000) (hy : y.length ≤ 1000) :
    Ctr w 307 [.str x t, .str y u] [] (x.length + 3) news fun N Q => ∀ t' h' tk', N h' news → Q (.int (prS x y) t') h' tk' := by
  unfold Ctr
  have hdummy : PySem.Challenge.rw_wo0075_01 = PySem.Challenge.rw_wo0075_01 ∧ hd.heap_39 w.params = hd.heap_39 w.params := by k_fill; exact ⟨rfl, rfl⟩
  clear hdummy
  intro loose mean mg mb dp un gd cn cs a ccd cl outer A₀ base h₀ L m s Q E hB hF hX hN hT hk hdp hun hret
  rcases cs with ⟨ki, na, g1, g2, mo⟩
  dsimp only at hk
  subst hk
  walk_at "fd"
  (repeat' (first | tb_start | (walk_at "S0"; first | (k_end; wrow_close) | walk_at "Z")))
  rename (∀ p ∈ news, p.1 < _) => hlt0
  refine For_invVF (by k_asm) rfl rfl ?_
  (repeat' (first | tb_start | (walk_at "S0"; first | (k_end; wrow_close) | walk_at "Z")))
  rename IsRange _ _ _ _ _ _ _ _ => hR
  rename News _ _ _ _ => hN7
  refine range_inv (n := x.length) (by rfl) hR (small_one (by omega) (by omega) (by omega) (by omega)) (by rw [rangeSize_nat]; omega) (by k_asm) hN7
      (fun m₀ news₀ I i m news' => Ex3 fun vs cs k => An6 (St m₀ [PySem.Str.ofString "i", PySem.Str.ofString "j", PySem.Str.ofString "cost"] m) (news' = (_, W.listOf vs.toArray k) :: news) (IntsAre vs cs) (cs ++ prAll (x.cps.toList.drop i) (i : Int) y.cps.toList = (2 * ((x.length : Int) + (y.length : Int))) :: prAll x.cps.toList 0 y.cps.toList) (cs.length ≤ 1 + 4 * i) (∀ p ∈ news', p.1 ≠ I))
      (fun I hI => ⟨_, [2 * ((x.length : Int) + (y.length : Int))], _, St.refl, rfl, .cons _ _ .nil, rfl, by simp, fun p hp => Nat.ne_of_lt (hI p hp)⟩) (fun I i m news h => ?d5) ?_ ?_
  case d5 =>
    obtain ⟨_, _, _, _, _, _, _, _, h9⟩ := h
    exact h9
  · intro I i ri m news' h1 tk1 t1 oI hi hri zj0 F9 N9
    walk_at "fg"
    obtain ⟨vs, cs, k, hst, rfl, hvs, htot, hcl, q4⟩ := zj0
    revert F9; intro F9; revert N9; intro N9
    obtain ⟨u1, rfl⟩ := hst.open0
    clear hst
    have hri0 : 0 ≤ ri := by omega
    have hri1 : ri < (x.length : Int) := by omega
    refine letF (G := zG) F9 ?_; clear F9; intro mT F9
    walk_at "ug"
    (repeat' (first | tb_start | (walk_at "S0"; first | (k_end; wrow_close) | walk_at "Z")))
    refine For_invVF (by k_asm) rfl rfl ?_
    (repeat' (first | tb_start | (walk_at "S0"; first | (k_end; wrow_close) | walk_at "Z")))
    rename IsRange _ _ _ _ _ _ _ _ => hR2
    rename News _ _ _ _ => hN6
    have hN5 := hN6
    refine range_inv (n := y.length) (by rfl) hR2 (small_one (by omega) (by omega) (by omega) (by omega)) (by rw [rangeSize_nat]; omega) (by k_asm) hN5
      (fun m₀ news₀ I2 j m news' => Ex3 fun vs cs k => An6 (St m₀ [PySem.Str.ofString "j", PySem.Str.ofString "cost"] m) (news' = (I, oI) :: (_, W.listOf vs.toArray k) :: news) (IntsAre vs cs) (cs ++ (prRow (fun s' => minI (2 * (((x.cps.toList.drop (i + 1)).length : Int) + (s'.length : Int))) (prAll (x.cps.toList.drop (i + 1)) 0 s')) (cst ((x.cps.toList.drop i).headD 0)) (i : Int) (j : Int) (y.cps.toList.drop j) ++ prAll (x.cps.toList.drop (i + 1)) ((i : Int) + 1) y.cps.toList) = (2 * ((x.length : Int) + (y.length : Int))) :: prAll x.cps.toList 0 y.cps.toList) (cs.length ≤ 1 + 4 * i + j) (∀ p ∈ news', p.1 ≠ I2))
      (fun I2 hI => ⟨vs, cs, _, St.refl, rfl, hvs, ?e1, by omega, fun p hp => Nat.ne_of_lt (hI p hp)⟩) (fun I i m news h => ?e5) ?_ ?_
    case e5 =>
      obtain ⟨_, _, _, _, _, _, _, _, h9⟩ := h
      exact h9
    case e1 =>
      obtain ⟨c, hdr, _⟩ := item_dropI hri hi
      rw [← htot, hdr]
      rfl
    · intro I2 j rj m news' h2 tk2 t2 oI2 hj hrj zj0 F8 N8
      walk_at "fg"
      obtain ⟨vs2, cs2, k2, hst2, rfl, hvs2, htot2, hcl2, q5⟩ := zj0
      revert F8; intro F8; revert N8; intro N8
      obtain ⟨u2, rfl⟩ := hst2.open0
      clear hst2 hvs htot
      have hrj0 : 0 ≤ rj := by omega
      have hrj1 : rj < (y.length : Int) := by omega
      have hxl := slice_drop_len hri hi
      have hyl := slice_drop_len hrj hj
      have hxlt : (Txt.slice x (some (ri + 1)) none).length < x.length := by omega
      have hxb := ble_le (show (Txt.slice x (some (ri + 1)) none).length ≤ x.length by omega) hx3
      have hyb := ble_le (show (Txt.slice y (some (rj + 1)) none).length ≤ y.length by omega) hy3
      have hx1 : (Txt.slice x (some (ri + 1)) none).length ≤ 1000 := by omega
      have hy1 : (Txt.slice y (some (rj + 1)) none).length ≤ 1000 := by omega
      have hI2a := q5 _ (List.mem_cons_self ..)
      have hI2b := q5 _ (List.mem_cons_of_mem _ (List.mem_cons_self ..))
      have hIa := q4 _ (List.mem_cons_self ..)
      have hIa' := hIa.symm
      have hI2a' := hI2a.symm
      have hI2b' := hI2b.symm
      have hne0 : ∀ p ∈ news, p.1 ≠ _ := fun p hp => Nat.ne_of_lt (hlt0 p hp)
      have hvl2 := hvs2.length
      refine letF (G := zG) F8 ?_; clear F8; intro mT F8
      walk_at "ug"
      (repeat' (first | tb_start | (walk_at "S0"; first | (k_end; wrow_close) | ((first | ((with_reducible show wpAny _ _ (call (Value.builtin "list.append") _ _) _ _ _); (k_dflt (refine' append_K ?k1y73 ?k2y73 ?k3y73 ?_ ?zy73; (case k1y73 => k_asm); (case k2y73 => k_asm); (case k3y73 => k_upd); (case zy73 => (rw [sizeLine_eq]; simp; omega))); intro _ _ _)) | ((with_reducible show wpAny _ _ (call (Value.ref 307) _ _) _ _ _); k_dflt (refine' Ctr.use (PriceIH.use ?p0y74 ?p1y74 _ _ _ _ ?p2y74 ?p3y74 ?p4y74 ?p5y74) ?k1y74 ?k2y74 ?k3y74 ?k4y74 ?k5y74 ?kKy74 ?kdy74 ?kuy74 ?_; (case p0y74 => assumption); (case p1y74 => assumption); (case k1y74 => k_asm); (case k2y74 => k_asm); (case k3y74 => k_asm); (case k4y74 => k_asm); (case k5y74 => k_asm); (case kKy74 => first | exact rfl | assumption); (case kdy74 => ((try dsimp +zetaDelta only); first | exact dm1 (by with_reducible assumption) rfl | ktr_room)); (case kuy74 => ((try dsimp +zetaDelta only); first | exact um1 (by with_reducible assumption) rfl | ktr_units)); (case p2y74 => assumption); (case p3y74 => assumption); (case p4y74 => assumption); (case p5y74 => assumption); (rintro _ _ _ ⟨_, _⟩; (try dsimp only); (try k_fold))))); all_goals (try walk_at "fq")) | walk_at "Z")))
      all_goals (try k_data)
      all_goals (try dsimp only)
      all_goals (rename Fr _ _ _ _ => hF5)
      all_goals (rename News _ _ _ _ => hN5)
      all_goals (rw [push_list] at hN5)
      all_goals (refine ⟨_, _, _, _, rfl, hF5, hN5, ?_⟩)
      all_goals (unfold Kept)
      all_goals (refine ⟨_, _, _, ?_, rfl, IntsAre.append hvs2 (.cons _ _ .nil), pr_step hri hi hrj hj ?_ htot2, by simp; omega, ?_⟩)
      all_goals first
        | (walk_at "st_base"; done)
        | (unfold costC; first | exact if_pos (by assumption) | exact (if_neg (ne_true_of_eq_false (by assumption))).trans (if_pos (by assumption)) | exact (if_neg (ne_true_of_eq_false (by assumption))).trans (if_neg (ne_true_of_eq_false (by assumption))))
        | (intro p hp
           (first | (revert p; refine all_cons ?_ (fun p hp => ?_)) | rcases List.mem_cons.mp hp with rfl | hp)
           · exact hI2a
           (first | (revert p; refine all_cons ?_ (fun p hp => ?_)) | rcases List.mem_cons.mp hp with rfl | hp)
           · exact hI2b
           · exact q5 p (List.mem_cons_of_mem _ (List.mem_cons_of_mem _ hp)))
    · intro I2 m news' h2 tk2 zj0 F8 N8
      walk_at "fg"
      obtain ⟨vs2, cs2, k2, hst2, rfl, hvs2, htot2, hcl2, q5⟩ := zj0
      revert F8; intro F8; revert N8; intro N8
      obtain ⟨u2, rfl⟩ := hst2.open0
      clear hst2
      refine letF (G := zG) F8 ?_; clear F8; intro mT F8
      walk_at "ug"
      (repeat' (first | tb_start | (walk_at "S0"; first | (k_end; wrow_close) | walk_at "Z")))
      (try dsimp only)
      have hIa := q4 _ (List.mem_cons_self ..)
      refine ⟨_, _, _, _, rfl, F8, N8, ?_⟩
      unfold Kept
      refine ⟨vs2, cs2, _, ?_, rfl, hvs2, ?_, ?_, fun p hp => by
        (first | (revert p; refine all_cons ?_ (fun p hp => ?_)) | rcases List.mem_cons.mp hp with rfl | hp)
        · exact hIa
        · exact q4 p (List.mem_cons_of_mem _ hp)⟩
      · walk_at "st_base"
      · have e : y.cps.toList.drop y.length = [] := List.drop_of_length_le (Nat.le_refl _)
        rw [← htot2, e]
        rfl
      · have := Nat.le_of_ble_eq_true hy3
        omega
  · intro I m news' h1 tk1 zj0 F9 N9
    walk_at "fg"
    obtain ⟨vs, cs, k, hst, rfl, hvs, htot, hcl, q4⟩ := zj0
    revert F9; intro F9; revert N9; intro N9
    obtain ⟨u1, rfl⟩ := hst.open0
    clear hst
    rw [List.drop_of_length_le (by have : x.cps.toList.length = x.length := rfl; omega)] at htot
    have htot3 : cs = (2 * ((x.length : Int) + (y.length : Int))) :: prAll x.cps.toList 0 y.cps.toList := by rw [← htot]; simp [prAll]
    subst htot3
    refine letF (G := zG) F9 ?_; clear F9; intro mT F9
    walk_at "ug"
    (try dsimp only)
    (repeat' (first | tb_start | (walk_at "S0"; first | (k_end; wrow_close) | walk_at "Z")))
    all_goals (try k_data)
    rename (_ ∨ _) => hm9
    rename (_ ≤ _ ∧ _) => hle9
    have hM := minI_eq (a := 2 * ((x.length : Int) + (y.length : Int))) (l := prAll x.cps.toList 0 y.cps.toList) (List.mem_cons.mpr hm9) (fun b hb => by
      rcases List.mem_cons.mp hb with rfl | hb
      · exact hle9.1
      · exact hle9.2 b hb)
    rw [hM]
    rename News h₀ L _ _ => hN5
    exact hret _ _ _ ⟨by k_asm, News.sub hN5 (fun p hp => List.mem_cons_of_mem _ hp)⟩
theorem price_all (w : World) (news : LLed) (x y : PySem.Str) (t u : Tok) (hx3 : Nat.ble x.length 3 = true) (hy3 : Nat.ble y.length 3 = true) :
    Ctr w 307 [.str x t, .str y u] [] (x.length + 3) news fun N Q => ∀ t' h' tk', N h' news → Q (.int (prS x y) t') h' tk' := by
  have key : ∀ n, PriceIH w n := by
    intro n
    induction n with
    | zero => intro x hx; omega
    | succ n ih =>
      intro x hx news y t u h1 h2 h3 h4
      exact price_c w x (fun x' hx' => ih x' (by omega)) news y t u h1 h2 h3 h4
  have h3 := Nat.le_of_ble_eq_true hx3
  have h4 := Nat.le_of_ble_eq_true hy3
  exact key (x.length + 1) x (by omega) news y t u hx3 hy3 (by omega) (by omega)
end
section
def sc (x y : Nat) : Nat := if Nat.beq x y then 0 else if Nat.beq (Nat.add x y) 162 && !(Nat.beq x 64) && !(Nat.beq y 64) then 1 else 2
def edGo (x : Nat) (f : List Nat → Nat) (n : Nat) : List Nat → Nat
  | [] => n
  | y :: v => min (f v + sc x y) (min (f (y :: v) + 2) (edGo x f n v + 2))
def ed : List Nat → List Nat → Nat
  | [], v => 2 * v.length
  | x :: u, v => edGo x (ed u) (2 * (u.length + 1)) v
theorem ed_nil (v : List Nat) : ed [] v = 2 * v.length := rfl
theorem ed_nil' : ∀ u : List Nat, ed u [] = 2 * u.length
  | [] => rfl
  | _ :: _ => rfl
theorem ed_cons (x y : Nat) (u v : List Nat) : ed (x :: u) (y :: v) = min (ed u v + sc x y) (min (ed u (y :: v) + 2) (ed (x :: u) v + 2)) := rfl
def okC (c : Nat) : Prop := c = 97 ∨ c = 65 ∨ c = 98 ∨ c = 34
def okL (u : List Nat) : Prop := ∀ c ∈ u, okC c
theorem sc_tri {x y z : Nat} (hx : okC x) (hy : okC y) (hz : okC z) : sc x z ≤ sc x y + sc y z := by
  rcases hx with rfl | rfl | rfl | rfl <;> rcases hy with rfl | rfl | rfl | rfl <;> rcases hz with rfl | rfl | rfl | rfl <;> decide
theorem sc_comm {x y : Nat} (hx : okC x) (hy : okC y) : sc x y = sc y x := by
  rcases hx with rfl | rfl | rfl | rfl <;> rcases hy with rfl | rfl | rfl | rfl <;> decide
theorem ed_del (x : Nat) (u v : List Nat) : ed (x :: u) v ≤ ed u v + 2 := by
  cases v with
  | nil => rw [ed_nil', ed_nil']; simp; omega
  | cons y v => rw [ed_cons]; omega
theorem ed_ins (y : Nat) (u v : List Nat) : ed u (y :: v) ≤ ed u v + 2 := by
  cases u with
  | nil => rw [ed_nil, ed_nil]; simp; omega
  | cons x u => rw [ed_cons]; omega
theorem ed_sub (x y : Nat) (u v : List Nat) : ed (x :: u) (y :: v) ≤ ed u v + sc x y := by
  rw [ed_cons]; omega
theorem ed_len : ∀ (u v : List Nat), 2 * u.length ≤ ed u v + 2 * v.length ∧ 2 * v.length ≤ ed u v + 2 * u.length
  | [], v => by rw [ed_nil]; simp
  | x :: u, v => by
    induction v with
    | nil => rw [ed_nil']; simp
    | cons y v ih =>
      have h1 := ed_len u v
      have h2 := ed_len u (y :: v)
      rw [ed_cons]
      simp only [List.length_cons] at *
      omega
theorem ed_tri : ∀ (n : Nat) (u v w : List Nat), u.length + v.length + w.length ≤ n → okL u → okL v → okL w → ed u w ≤ ed u v + ed v w := by
  intro n
  induction n with
  | zero =>
    intro u v w h _ _ _
    cases u <;> cases v <;> cases w <;> simp_all [ed]
  | succ n ih =>
    intro u v w h hu hv hw
    cases u with
    | nil => have := ed_len v w; rw [ed_nil, ed_nil]; omega
    | cons x u =>
      cases w with
      | nil => have := ed_len (x :: u) v; rw [ed_nil', ed_nil']; omega
      | cons z w =>
        cases v with
        | nil =>
          rw [ed_nil', ed_nil]
          have : ∀ (p q : List Nat), ed p q ≤ 2 * p.length + 2 * q.length := by
            intro p
            induction p with
            | nil => intro q; rw [ed_nil]; omega
            | cons a p ihp => intro q; have := ed_del a p q; have := ihp q; simp only [List.length_cons]; omega
          exact this _ _
        | cons y v =>
          simp only [List.length_cons] at h
          have hx := hu x (List.mem_cons_self ..)
          have hy := hv y (List.mem_cons_self ..)
          have hz := hw z (List.mem_cons_self ..)
          have hu' : okL u := fun c hc => hu c (List.mem_cons_of_mem _ hc)
          have hv' : okL v := fun c hc => hv c (List.mem_cons_of_mem _ hc)
          have hw' : okL w := fun c hc => hw c (List.mem_cons_of_mem _ hc)
          have t := sc_tri hx hy hz
          have a1 := ih u v w (by omega) hu' hv' hw'
          have a2 := ih u (y :: v) (z :: w) (by simp only [List.length_cons]; omega) hu' hv hw
          have a3 := ih (x :: u) (y :: v) w (by simp only [List.length_cons]; omega) hu hv hw'
          have a4 := ih (x :: u) v (z :: w) (by simp only [List.length_cons]; omega) hu hv' hw
          have a5 := ih u v (z :: w) (by simp only [List.length_cons]; omega) hu' hv' hw
          have a6 := ih (x :: u) v w (by simp only [List.length_cons]; omega) hu hv' hw'
          have b1 := ed_sub x z u w
          have b2 := ed_del x u (z :: w)
          have b3 := ed_ins z (x :: u) w
          have c1 := ed_cons x y u v
          have c2 := ed_cons y z v w
          omega
theorem ed_triangle {u v w : List Nat} (hu : okL u) (hv : okL v) (hw : okL w) : ed u w ≤ ed u v + ed v w := ed_tri _ u v w (Nat.le_refl _) hu hv hw
theorem ed_comm : ∀ (n : Nat) (u v : List Nat), u.length + v.length ≤ n → okL u → okL v → ed u v = ed v u := by
  intro n
  induction n with
  | zero => intro u v h _ _; cases u <;> cases v <;> simp_all [ed]
  | succ n ih =>
    intro u v h hu hv
    cases u with
    | nil => rw [ed_nil, ed_nil']
    | cons x u =>
      cases v with
      | nil => rw [ed_nil, ed_nil']
      | cons y v =>
        simp only [List.length_cons] at h
        have hx := hu x (List.mem_cons_self ..)
        have hy := hv y (List.mem_cons_self ..)
        have hu' : okL u := fun c hc => hu c (List.mem_cons_of_mem _ hc)
        have hv' : okL v := fun c hc => hv c (List.mem_cons_of_mem _ hc)
        rw [ed_cons, ed_cons, ih u v (by omega) hu' hv', ih u (y :: v) (by simp only [List.length_cons]; omega) hu' hv, ih (x :: u) v (by simp only [List.length_cons]; omega) hu hv', sc_comm hx hy]
        omega
def pcost (x y : Nat) : Nat := sc x y
def minL (a : Nat) : List Nat → Nat
  | [] => a
  | b :: r => minL (min a b) r
def prIn (f : List Nat → Nat) (x i : Nat) : Nat → List Nat → List Nat
  | _, [] => []
  | j, y :: v => (2 * (i + j) + sc x y + f v) :: prIn f x i (j + 1) v
end
section
open PySem PySem.W PyProof.Rows PySem.Calls PySem.Spec
def scI (x y : Nat) : Int := (sc x y : Int)
def prAllG (c : Nat → Nat → Int) : List Nat → Int → List Nat → List Int
  | [], _, _ => []
  | x :: f, i, s => prRow (fun s' => minI (2 * ((f.length : Int) + (s'.length : Int))) (prAllG c f 0 s')) (c x) i 0 s ++ prAllG c f (i + 1) s
def prLG (c : Nat → Nat → Int) (f s : List Nat) : Int := minI (2 * ((f.length : Int) + (s.length : Int))) (prAllG c f 0 s)
def four : List Nat := [97, 65, 98, 34]
def w84 : List (List Nat) := four.map (fun a => [a]) ++ four.flatMap (fun a => four.map fun b => [a, b]) ++ four.flatMap (fun a => four.flatMap fun b => four.map fun c => [a, b, c])
def good (u v : List Nat) : Bool := decide (levG scI 9 u v = (ed u v : Int)) && decide (prLG scI u v = (ed u v : Int))
theorem good_1 : ((four.map (fun a => [a]) ++ four.flatMap (fun a => four.map fun b => [a, b])).all fun u => w84.all fun v => good u v) = true := by decide +kernel
theorem good_2a : ((four.flatMap (fun b => four.map fun c => [four.getD 0 0, b, c])).all fun u => w84.all fun v => good u v) = true := by decide +kernel
theorem good_2b : ((four.flatMap (fun b => four.map fun c => [four.getD 1 0, b, c])).all fun u => w84.all fun v => good u v) = true := by decide +kernel
theorem good_2c : ((four.flatMap (fun b => four.map fun c => [four.getD 2 0, b, c])).all fun u => w84.all fun v => good u v) = true := by decide +kernel
theorem good_2d : ((four.flatMap (fun b => four.map fun c => [four.getD 3 0, b, c])).all fun u => w84.all fun v => good u v) = true := by decide +kernel
theorem okL_cons {c : Nat} {u : List Nat} (h : okL (c :: u)) : okC c ∧ okL u := ⟨h c (List.mem_cons_self ..), fun d hd => h d (List.mem_cons_of_mem _ hd)⟩
theorem four_mem {c : Nat} (h : okC c) : c ∈ four := by
  rcases h with rfl | rfl | rfl | rfl <;> decide
theorem four_at {c : Nat} (h : okC c) : c = four.getD 0 0 ∨ c = four.getD 1 0 ∨ c = four.getD 2 0 ∨ c = four.getD 3 0 := by
  rcases h with rfl | rfl | rfl | rfl <;> decide
theorem mem_w84 {u : List Nat} (h : okL u) (h1 : 1 ≤ u.length) (h3 : u.length ≤ 3) : u ∈ w84 := by
  unfold w84
  match u, h, h1, h3 with
  | [a], h, _, _ =>
    refine List.mem_append_left _ (List.mem_append_left _ (List.mem_map.mpr ⟨a, four_mem (okL_cons h).1, rfl⟩))
  | [a, b], h, _, _ =>
    have hb := (okL_cons (okL_cons h).2).1
    refine List.mem_append_left _ (List.mem_append_right _ (List.mem_flatMap.mpr ⟨a, four_mem (okL_cons h).1, List.mem_map.mpr ⟨b, four_mem hb, rfl⟩⟩))
  | [a, b, c], h, _, _ =>
    have hb := (okL_cons (okL_cons h).2).1
    have hc := (okL_cons (okL_cons (okL_cons h).2).2).1
    exact List.mem_append_right _ (List.mem_flatMap.mpr ⟨a, four_mem (okL_cons h).1, List.mem_flatMap.mpr ⟨b, four_mem hb, List.mem_map.mpr ⟨c, four_mem hc, rfl⟩⟩⟩)
theorem good_all {u v : List Nat} (hu : okL u) (h1 : 1 ≤ u.length) (h3 : u.length ≤ 3) (hv : okL v) (k1 : 1 ≤ v.length) (k3 : v.length ≤ 3) : levG scI 9 u v = (ed u v : Int) ∧ prLG scI u v = (ed u v : Int) := by
  have hvm := mem_w84 hv k1 k3
  have key : good u v = true := by
    match u, hu, h1, h3 with
    | [a], h, _, _ =>
      exact List.all_eq_true.mp (List.all_eq_true.mp good_1 [a] (List.mem_append_left _ (List.mem_map.mpr ⟨a, four_mem (okL_cons h).1, rfl⟩))) v hvm
    | [a, b], h, _, _ =>
      have hb := (okL_cons (okL_cons h).2).1
      exact List.all_eq_true.mp (List.all_eq_true.mp good_1 [a, b] (List.mem_append_right _ (List.mem_flatMap.mpr ⟨a, four_mem (okL_cons h).1, List.mem_map.mpr ⟨b, four_mem hb, rfl⟩⟩))) v hvm
    | [a, b, c], h, _, _ =>
      have hb := (okL_cons (okL_cons h).2).1
      have hc := (okL_cons (okL_cons (okL_cons h).2).2).1
      have hm : ∀ x, [x, b, c] ∈ four.flatMap (fun b => four.map fun c => [x, b, c]) := fun x => List.mem_flatMap.mpr ⟨b, four_mem hb, List.mem_map.mpr ⟨c, four_mem hc, rfl⟩⟩
      rcases four_at (okL_cons h).1 with e | e | e | e <;> rw [e]
      · exact List.all_eq_true.mp (List.all_eq_true.mp good_2a _ (hm _)) v hvm
      · exact List.all_eq_true.mp (List.all_eq_true.mp good_2b _ (hm _)) v hvm
      · exact List.all_eq_true.mp (List.all_eq_true.mp good_2c _ (hm _)) v hvm
      · exact List.all_eq_true.mp (List.all_eq_true.mp good_2d _ (hm _)) v hvm
  unfold good at key
  rw [Bool.and_eq_true, decide_eq_true_eq, decide_eq_true_eq] at key
  exact key
theorem sub_sc {c d : Nat} (hc : okC c) (hd : okC d) : subL c d = scI c d ∧ cst c d = scI c d := by
  rcases hc with rfl | rfl | rfl | rfl <;> rcases hd with rfl | rfl | rfl | rfl <;> decide +kernel
theorem strip_ok : ∀ {u v : List Nat}, okL u → okL v → okL (strip u v).1 ∧ okL (strip u v).2
  | [], v, hu, hv => by rw [strip_nil]; exact ⟨hu, hv⟩
  | x :: u, [], hu, hv => by rw [strip_nil']; exact ⟨hu, hv⟩
  | x :: u, y :: v, hu, hv => by
    by_cases e : x = y
    · subst e
      rw [strip_step]
      exact strip_ok (okL_cons hu).2 (okL_cons hv).2
    · rw [strip_stop _ _ e]
      exact ⟨hu, hv⟩
theorem okL_rev {u : List Nat} (h : okL u) : okL u.reverse := fun c hc => h c (List.mem_reverse.mp hc)
theorem dpIn_congr {c c' : Nat → Nat → Int} {b : Nat} : ∀ {as : List Nat}, (∀ a ∈ as, c b a = c' b a) → ∀ (dn rs : List Int) (dist res mn : Int), dpIn c b as dn rs dist res mn = dpIn c' b as dn rs dist res mn
  | [], _, _, _, _, _, _ => rfl
  | a :: as, h, dn, [], dist, res, mn => rfl
  | a :: as, h, dn, r :: rs, dist, res, mn => by
    have e := h a (List.mem_cons_self ..)
    show dpIn c b as _ rs r _ _ = dpIn c' b as _ rs r _ _
    rw [e]
    exact dpIn_congr (fun a' ha => h a' (List.mem_cons_of_mem _ ha)) _ _ _ _ _
theorem dpOut_congr {c c' : Nat → Nat → Int} {A : List Nat} {mx : Int} : ∀ {bs : List Nat}, (∀ b ∈ bs, ∀ a ∈ A, c b a = c' b a) → ∀ (k : Int) (row : List Int) (res : Int), dpOut c A mx bs k row res = dpOut c' A mx bs k row res
  | [], _, _, _, _ => rfl
  | b :: bs, h, k, row, res => by
    have e := dpIn_congr (as := A) (h b (List.mem_cons_self ..)) [] row (2 * k) (2 * k) 9223372036854775807
    show (if _ then _ else _) = (if _ then _ else _)
    rw [e, dpOut_congr (fun b' hb => h b' (List.mem_cons_of_mem _ hb))]
theorem lev2_congr {A B : List Nat} (hA : okL A) (hB : okL B) : lev2 subL 9 A B = lev2 scI 9 A B := by
  unfold lev2
  rw [dpOut_congr (c' := scI) (fun b hb a ha => (sub_sc (hB b hb) (hA a ha)).1)]
theorem levG_congr {u v : List Nat} (hu : okL u) (hv : okL v) : levG subL 9 u v = levG scI 9 u v := by
  unfold levG
  have h := strip_ok hu hv
  have h2 := strip_ok (okL_rev h.1) (okL_rev h.2)
  have hA := okL_rev h2.1
  have hB := okL_rev h2.2
  unfold lev1
  rw [lev2_congr hA hB, lev2_congr hB hA]
theorem prRow_congr {f g : List Nat → Int} {c c' : Nat → Int} {i : Int} : ∀ {s : List Nat} (j : Int), (∀ s', okL s' → f s' = g s') → okL s → (∀ y ∈ s, c y = c' y) → prRow f c i j s = prRow g c' i j s
  | [], _, _, _, _ => rfl
  | y :: s, j, hf, hs, hc => by
    show (2 * (i + j) + c y + f s) :: prRow f c i (j + 1) s = (2 * (i + j) + c' y + g s) :: prRow g c' i (j + 1) s
    rw [hc y (List.mem_cons_self ..), hf s (okL_cons hs).2, prRow_congr (j + 1) hf (okL_cons hs).2 (fun y' hy => hc y' (List.mem_cons_of_mem _ hy))]
theorem prAll_congr : ∀ {u : List Nat}, okL u → ∀ (i : Int) {v : List Nat}, okL v → prAll u i v = prAllG scI u i v
  | [], _, _, _, _ => rfl
  | x :: u, hu, i, v, hv => by
    show prRow _ (cst x) i 0 v ++ prAll u (i + 1) v = prRow _ (scI x) i 0 v ++ prAllG scI u (i + 1) v
    have h := okL_cons hu
    rw [prAll_congr h.2 (i + 1) hv]
    congr 1
    refine prRow_congr 0 (fun s' hs => ?_) hv (fun y hy => (sub_sc h.1 (hv y hy)).2)
    rw [prAll_congr h.2 0 hs]
theorem okW_L {x : PySem.Str} (h : OkW x) : okL x.cps.toList ∧ 1 ≤ x.cps.toList.length ∧ x.cps.toList.length ≤ 3 := ⟨h.2.2, h.1, h.2.1⟩
theorem lev_ed {x y : PySem.Str} (hx : OkW x) (hy : OkW y) : levG subL 9 x.cps.toList y.cps.toList = (ed x.cps.toList y.cps.toList : Int) := by
  obtain ⟨a, b, c⟩ := okW_L hx
  obtain ⟨d, e, f⟩ := okW_L hy
  rw [levG_congr a d]
  exact (good_all a b c d e f).1
theorem pr_eq_lev {x y : PySem.Str} (hx : OkW x) (hy : OkW y) : prS x y = levG subL 9 x.cps.toList y.cps.toList := by
  obtain ⟨a, b, c⟩ := okW_L hx
  obtain ⟨d, e, f⟩ := okW_L hy
  rw [lev_ed hx hy]
  unfold prS prL
  rw [prAll_congr a 0 d]
  exact (good_all a b c d e f).2
end
section
open PySem PySem.W PyProof.Rows PySem.Calls PySem.Spec
def rowsLed (rs : List (Addr × List Value)) : LLed := rs.map fun r => (r.1, LCg.lst r.2)
def RowsOff (news : LLed) : List (Addr × List Value) → Prop
  | [] => True
  | r :: rs => (∀ q ∈ rs, q.1 ≠ r.1) ∧ (∀ p ∈ news, p.1 ≠ r.1) ∧ RowsOff news rs
theorem off1_all {D : Addr} : ∀ {l : LLed}, LCg.Off1 D l → ∀ p ∈ l, p.1 ≠ D
  | [], _, _, h => nomatch h
  | _ :: _, h, q, hq => by
    rcases List.mem_cons.mp hq with rfl | hq
    · exact h.1
    · exact off1_all h.2 q hq
def rowsO (a : Nat → Addr) (ob : Nat → Obj) : LLed := [(a 0, ob 0), (a 1, ob 1), (a 2, ob 2), (a 3, ob 3), (a 4, ob 4), (a 5, ob 5)]
theorem six {i : Nat} (h : i < 6) : i = 0 ∨ i = 1 ∨ i = 2 ∨ i = 3 ∨ i = 4 ∨ i = 5 := by omega
theorem rowsO_mem {a : Nat → Addr} {ob : Nat → Obj} {i : Nat} (h : i < 6) {T : LLed} : (a i, ob i) ∈ rowsO a ob ++ T := by
  refine List.mem_append_left _ ?_
  rcases six h with rfl | rfl | rfl | rfl | rfl | rfl <;> simp [rowsO]
theorem rowsO_off {a : Nat → Addr} {ob : Nat → Obj} {T : LLed} {x : Addr} (ha : ∀ k, k < 6 → a k ≠ x) (hT : ∀ p ∈ T, p.1 ≠ x) : ∀ p ∈ rowsO a ob ++ T, p.1 ≠ x := by
  intro p hp
  rcases List.mem_append.mp hp with hp | hp
  · simp only [rowsO, List.mem_cons, List.not_mem_nil, or_false] at hp
    rcases hp with rfl | rfl | rfl | rfl | rfl | rfl
    · exact ha 0 (by omega)
    · exact ha 1 (by omega)
    · exact ha 2 (by omega)
    · exact ha 3 (by omega)
    · exact ha 4 (by omega)
    · exact ha 5 (by omega)
  · exact hT p hp
theorem rowsO_tail {a : Nat → Addr} {ob : Nat → Obj} {T : LLed} {x : Addr} {n : Nat} {p : Addr × Obj} (hp : p ∈ (rowsO a ob).drop n ++ T) (ha : ∀ k, n ≤ k → k < 6 → a k ≠ x) (hT : ∀ p ∈ T, p.1 ≠ x) : p.1 ≠ x := by
  rcases List.mem_append.mp hp with hp | hp
  · obtain ⟨k, hk⟩ := List.getElem?_of_mem hp
    rw [List.getElem?_drop] at hk
    have hlt := (List.getElem?_eq_some_iff.mp hk).1
    have h6 : n + k < 6 := hlt
    have e : (rowsO a ob)[n + k]? = some (a (n + k), ob (n + k)) := by
      rcases six h6 with h | h | h | h | h | h <;> rw [h] <;> rfl
    rw [e] at hk
    cases hk
    exact ha _ (by omega) h6
  · exact hT p hp
theorem rowsO_upd {a : Nat → Addr} {ob : Nat → Obj} {new : Obj} {i : Nat} (h : i < 6) {T : LLed} (hi : ∀ k l, k < 6 → l < 6 → k ≠ l → a k ≠ a l) (hT : ∀ k, k < 6 → ∀ p ∈ T, p.1 ≠ a k) :
    Upd (a i) (ob i) new (rowsO a ob ++ T) (rowsO a (fun k => if k = i then new else ob k) ++ T) := by
  have e : ∀ k l : Nat, k < 6 → l < 6 → k ≠ l → a k ≠ a l := hi
  have ht := hT i h
  rcases six h with rfl | rfl | rfl | rfl | rfl | rfl
  · exact .head fun p hp => rowsO_tail (n := 1) hp (fun k h1 h2 => e k 0 h2 (by omega) (by omega)) ht
  · exact .tail (e 0 1 (by omega) (by omega) (by omega)) (.head fun p hp => rowsO_tail (n := 2) hp (fun k h1 h2 => e k 1 h2 (by omega) (by omega)) ht)
  · exact .tail (e 0 2 (by omega) (by omega) (by omega)) (.tail (e 1 2 (by omega) (by omega) (by omega)) (.head fun p hp => rowsO_tail (n := 3) hp (fun k h1 h2 => e k 2 h2 (by omega) (by omega)) ht))
  · exact .tail (e 0 3 (by omega) (by omega) (by omega)) (.tail (e 1 3 (by omega) (by omega) (by omega)) (.tail (e 2 3 (by omega) (by omega) (by omega)) (.head fun p hp => rowsO_tail (n := 4) hp (fun k h1 h2 => e k 3 h2 (by omega) (by omega)) ht)))
  · exact .tail (e 0 4 (by omega) (by omega) (by omega)) (.tail (e 1 4 (by omega) (by omega) (by omega)) (.tail (e 2 4 (by omega) (by omega) (by omega)) (.tail (e 3 4 (by omega) (by omega) (by omega)) (.head fun p hp => rowsO_tail (n := 5) hp (fun k h1 h2 => e k 4 h2 (by omega) (by omega)) ht))))
  · exact .tail (e 0 5 (by omega) (by omega) (by omega)) (.tail (e 1 5 (by omega) (by omega) (by omega)) (.tail (e 2 5 (by omega) (by omega) (by omega)) (.tail (e 3 5 (by omega) (by omega) (by omega)) (.tail (e 4 5 (by omega) (by omega) (by omega)) (.head ht)))))
theorem RowsOff.ne {news : LLed} : ∀ {rs : List (Addr × List Value)}, RowsOff news rs → ∀ {i j : Nat} {r q : Addr × List Value}, rs[i]? = some r → rs[j]? = some q → i ≠ j → r.1 ≠ q.1
  | [], _, _, _, _, _, h, _, _ => nomatch h
  | r0 :: rs, h, i, j, r, q, hi, hj, hne => by
    cases i with
    | zero =>
      cases j with
      | zero => exact absurd rfl hne
      | succ j => rw [← Option.some.inj hi]; exact Ne.symm (h.1 q (List.mem_of_getElem? hj))
    | succ i =>
      cases j with
      | zero => rw [← Option.some.inj hj]; exact h.1 r (List.mem_of_getElem? hi)
      | succ j => exact RowsOff.ne h.2.2 hi hj fun e => hne (congrArg _ e)
theorem RowsOff.off {news : LLed} : ∀ {rs : List (Addr × List Value)}, RowsOff news rs → ∀ {i : Nat} {r : Addr × List Value}, rs[i]? = some r → ∀ p ∈ news, p.1 ≠ r.1
  | [], _, _, _, h => nomatch h
  | r0 :: rs, h, i, r, hi => by
    cases i with
    | zero => rw [← Option.some.inj hi]; exact h.2.1
    | succ i => exact RowsOff.off h.2.2 hi
theorem rows_six {news : LLed} : ∀ {rs : List (Addr × List Value)}, rs.length = 6 → RowsOff news rs → (∀ r ∈ rs, IntsAre r.2 [0, 0, 0, 0, 0, 0]) →
    ∃ (a : Nat → Addr) (rv : Nat → List Value) (rn : Nat → Nat), rs.reverse.map (fun r => Value.ref r.1) = [.ref (a 0), .ref (a 1), .ref (a 2), .ref (a 3), .ref (a 4), .ref (a 5)] ∧ (∀ p ∈ rowsO a fun k => W.listOf (rv k).toArray (rn k), p ∈ rowsLed rs) ∧
      (∀ k, k < 6 → IntsAre (rv k) [0, 0, 0, 0, 0, 0]) ∧ (∀ k l, k < 6 → l < 6 → k ≠ l → a k ≠ a l) ∧ (∀ k, k < 6 → ∀ p ∈ news, p.1 ≠ a k) := by
  intro rs hl ho hz
  have g : ∀ k, k < 6 → rs[5 - k]? = some (rs.getD (5 - k) (0, [])) := fun k hk => by
    have h : 5 - k < rs.length := by rw [hl]; exact Nat.lt_of_le_of_lt (Nat.sub_le 5 k) (by decide)
    rw [List.getD_eq_getElem?_getD, List.getElem?_eq_getElem h]; rfl
  obtain ⟨r5, r4, r3, r2, r1, r0, e⟩ := list_six hl
  refine ⟨fun k => (rs.getD (5 - k) (0, [])).1, fun k => (rs.getD (5 - k) (0, [])).2, fun k => (rs.getD (5 - k) (0, [])).2.length, by subst e; rfl, ?_, fun k hk => hz _ (List.mem_of_getElem? (g k hk)), fun k l hk hl hn => ho.ne (g k hk) (g l hl) fun e => hn (by rw [← Nat.sub_sub_self (Nat.le_of_lt_succ hk), e, Nat.sub_sub_self (Nat.le_of_lt_succ hl)]), fun k hk => ho.off (g k hk)⟩
  subst e
  exact sub_cons (.tail _ (.tail _ (.tail _ (.tail _ (.tail _ (.head _)))))) (sub_cons (.tail _ (.tail _ (.tail _ (.tail _ (.head _))))) (sub_cons (.tail _ (.tail _ (.tail _ (.head _)))) (sub_cons (.tail _ (.tail _ (.head _))) (sub_cons (.tail _ (.head _)) (sub_cons (.head _) fun _ h => nomatch h)))))
theorem okw_ble {x : PySem.Str} (h : OkW x) : Nat.ble x.length 3 = true := Nat.ble_eq_true_of_le h.2.1
theorem okw_30 {x : PySem.Str} (h : OkW x) : x.length ≤ 30 := Nat.le_trans h.2.1 (by decide)
theorem price_lev (w : World) (news : LLed) (x y : PySem.Str) (t u : Tok) (hx : OkW x) (hy : OkW y) :
    Ctr w 307 [.str x t, .str y u] [] 6 news fun N Q => ∀ t' h' tk', N h' news → Q (.int (levG subL 9 x.cps.toList y.cps.toList) t') h' tk' := by
  have h := price_all w news x y t u (okw_ble hx) (okw_ble hy)
  rw [pr_eq_lev hx hy] at h
  unfold Ctr at *
  intro loose mean mg mb dp un gd cn cs a ccd cl outer A₀ base h₀ L m s Q E hB hF hX hN hT hk hdp hun hret
  have := hx.2.1
  exact h loose mean mg mb dp un gd cn cs a ccd cl outer A₀ base h₀ L m s Q E hB hF hX hN hT hk (by omega) (by omega) hret
def dstW (wd : Int → PySem.Str) (p q : Nat) : Int := levG subL 9 (wd (p : Int)).cps.toList (wd (q : Int)).cps.toList
def matV (d : Nat → Nat → Int) (i j k l : Nat) : Int := if k = l then 0 else if min k l < i ∨ (min k l = i ∧ max k l < j) then d (min k l) (max k l) else 0
theorem my_len {prog : Program} {w : World} {A : Around} {E Q : Value → Shared → Prop} {s : Shared} {h₀ : Heap} {L l : Addr} {news : LLed} {vs : List Value} {n c : Nat} (N : News h₀ L s.heap news) (hm : (l, W.listOf vs.toArray n) ∈ news) (hl : vs.length = c) (hc : c ≤ 1000) (h : Q (.int (c : Int) (s.toks + 1)) { s with toks := s.toks + 1 + 1 }) :
    wpAny (model prog w) A (call (.builtin "len") [.ref l]) Q E s := by
  have hL : s.heap.IsList l vs.toArray := News.isList N hm
  refine len_list hL (by rw [List.size_toArray]; omega) ?_
  rw [List.size_toArray, hl]
  exact h
theorem head_mem {T news : LLed} {p : Addr × Obj} (h : T = p :: news) : p ∈ T ∧ ∀ q ∈ news, q ∈ T := by
  subst h
  exact ⟨List.mem_cons_self .., fun q hq => List.mem_cons_of_mem _ hq⟩
theorem rows_six' {news : LLed} {rs : List (Addr × List Value)} (hl : rs.length = 6) (ho : RowsOff news rs) (hz : ∀ r ∈ rs, IntsAre r.2 [0, 0, 0, 0, 0, 0]) :
    ∃ (T : LLed) (a : Nat → Addr) (rv : Nat → List Value) (rn : Nat → Nat), T = news ∧ rs.reverse.map (fun r => Value.ref r.1) = [.ref (a 0), .ref (a 1), .ref (a 2), .ref (a 3), .ref (a 4), .ref (a 5)] ∧ (∀ p ∈ rowsO a fun k => W.listOf (rv k).toArray (rn k), p ∈ rowsLed rs) ∧
      (∀ k, k < 6 → IntsAre (rv k) [0, 0, 0, 0, 0, 0]) ∧ (∀ k l, k < 6 → l < 6 → k ≠ l → a k ≠ a l) ∧ (∀ k, k < 6 → ∀ p ∈ T, p.1 ≠ a k) := by
  obtain ⟨a, rv, rn, h⟩ := rows_six hl ho hz
  exact ⟨news, a, rv, rn, rfl, h⟩
theorem rows_put {rv : Nat → List Value} {rn : Nat → Nat} {M : Nat → List Int} (hM : ∀ k, k < 6 → IntsAre (rv k) (M k)) (hMl : ∀ k, k < 6 → (M k).length = 6) {i j : Nat} (hi : i < 6) (hj : j < 6) (v : Int) (t : Tok) :
    ∃ (rv' : Nat → List Value) (M' : Nat → List Int), (fun k => if k = i then W.listOf ((rv i).set j (.int v t)).toArray (rn i) else W.listOf (rv k).toArray (rn k)) = (fun k => W.listOf (rv' k).toArray (rn k)) ∧ (∀ k, k < 6 → IntsAre (rv' k) (M' k)) ∧ (∀ k, k < 6 → (M' k).length = 6) ∧
      (∀ k l, k < 6 → l < 6 → (M' k).getD l 0 = if k = i ∧ l = j then v else (M k).getD l 0) := by
  refine ⟨fun k => if k = i then (rv i).set j (.int v t) else rv k, fun k => if k = i then (M i).set j v else M k, ?_, ?_, ?_, ?_⟩
  · funext k
    by_cases e : k = i
    · subst e; simp
    · simp [e]
  · intro k hk
    by_cases e : k = i
    · subst e; simp only [if_true]; exact ints_set (hM _ hk) _
    · simp only [if_neg e]; exact hM k hk
  · intro k hk
    by_cases e : k = i
    · subst e; simp only [if_true, List.length_set]; exact hMl _ hk
    · simp only [if_neg e]; exact hMl k hk
  · intro k l hk hl
    by_cases e : k = i
    · subst e
      simp only [if_true, true_and]
      rw [getD_set _ _ _ _ (by rw [hMl _ hk]; exact hj)]
      by_cases e2 : j = l
      · rw [if_pos e2, if_pos e2.symm]
      · rw [if_neg e2, if_neg (fun h => e2 h.symm)]
    · rw [if_neg (fun h => e h.1)]
      simp only [if_neg e]
theorem mat_step {d : Nat → Nat → Int} {i j k l : Nat} (hij : i < j) : (if k = j ∧ l = i then d i j else if k = i ∧ l = j then d i j else matV d i j k l) = matV d i (j + 1) k l := by
  by_cases h1 : k = j ∧ l = i
  · obtain ⟨rfl, rfl⟩ := h1
    rw [if_pos ⟨rfl, rfl⟩]
    unfold matV
    rw [if_neg (by omega), if_pos (.inr ⟨by omega, by omega⟩), show min k l = l from by omega, show max k l = k from by omega]
  · rw [if_neg h1]
    by_cases h2 : k = i ∧ l = j
    · obtain ⟨rfl, rfl⟩ := h2
      rw [if_pos ⟨rfl, rfl⟩]
      unfold matV
      rw [if_neg (by omega), if_pos (.inr ⟨by omega, by omega⟩), show min k l = k from by omega, show max k l = l from by omega]
    · rw [if_neg h2]
      unfold matV
      by_cases h3 : k = l
      · rw [if_pos h3, if_pos h3]
      · rw [if_neg h3, if_neg h3]
        by_cases h4 : min k l < i ∨ (min k l = i ∧ max k l < j)
        · rw [if_pos h4, if_pos (by omega)]
        · rw [if_neg h4, if_neg (by omega)]
theorem mat_zero {d : Nat → Nat → Int} {k l : Nat} : matV d 0 0 k l = 0 := by
  unfold matV
  by_cases h3 : k = l
  · rw [if_pos h3]
  · rw [if_neg h3, if_neg (by omega)]
theorem mat_start {d : Nat → Nat → Int} {i k l : Nat} : matV d i 0 k l = matV d i (i + 1 + 0) k l := by
  unfold matV
  by_cases h3 : k = l
  · rw [if_pos h3, if_pos h3]
  · rw [if_neg h3, if_neg h3]
    by_cases h4 : min k l < i ∨ (min k l = i ∧ max k l < 0)
    · rw [if_pos h4, if_pos (by omega)]
    · rw [if_neg h4, if_neg (by omega)]
theorem mat_next {d : Nat → Nat → Int} {i k l : Nat} (hi : i < 6) (hk : k < 6) (hl : l < 6) : matV d i (i + 1 + (5 - i)) k l = matV d (i + 1) 0 k l := by
  unfold matV
  by_cases h3 : k = l
  · rw [if_pos h3, if_pos h3]
  · rw [if_neg h3, if_neg h3]
    by_cases h4 : min k l < i ∨ (min k l = i ∧ max k l < i + 1 + (5 - i))
    · rw [if_pos h4, if_pos (by omega)]
    · rw [if_neg h4, if_neg (by omega)]
theorem mat_end {d : Nat → Nat → Int} {k l : Nat} (hk : k < 6) (hl : l < 6) : matV d 6 0 k l = if k = l then 0 else d (min k l) (max k l) := by
  unfold matV
  by_cases h3 : k = l
  · rw [if_pos h3, if_pos h3]
  · rw [if_neg h3, if_neg h3, if_pos (by omega)]
end
section
open PySem PySem.W PyProof.Rows PySem.Calls PySem.Spec
def LO (news : LLed) (ol : List Value) : Prop := ∀ i, i < 6 → ∃ a vs, ol[i]? = some (Value.ref a) ∧ (a, W.listOf vs.toArray 0) ∈ news ∧ IntsAre vs (orders6.getD i [])
theorem LO.mono {news news' : LLed} {ol : List Value} (h : LO news ol) (hs : ∀ p ∈ news, p ∈ news') : LO news' ol := fun i hi => by
  obtain ⟨a, vs, h1, h2, h3⟩ := h i hi
  exact ⟨a, vs, h1, hs _ h2, h3⟩
theorem ints3 {a b c : Int} {t u v : Tok} : IntsAre [.int a t, .int b u, .int c v] [a, b, c] := .cons _ _ (.cons _ _ (.cons _ _ .nil))
theorem lo_make {news : LLed} {a0 a1 a2 a3 a4 a5 : Addr} {t00 t01 t02 t10 t11 t12 t20 t21 t22 t30 t31 t32 t40 t41 t42 t50 t51 t52 : Tok}
    (h0 : (a0, W.listOf #[.int 0 t00, .int 1 t01, .int 2 t02] 0) ∈ news) (h1 : (a1, W.listOf #[.int 0 t10, .int 2 t11, .int 1 t12] 0) ∈ news) (h2 : (a2, W.listOf #[.int 1 t20, .int 0 t21, .int 2 t22] 0) ∈ news)
    (h3 : (a3, W.listOf #[.int 1 t30, .int 2 t31, .int 0 t32] 0) ∈ news) (h4 : (a4, W.listOf #[.int 2 t40, .int 0 t41, .int 1 t42] 0) ∈ news) (h5 : (a5, W.listOf #[.int 2 t50, .int 1 t51, .int 0 t52] 0) ∈ news) :
    LO news [.ref a0, .ref a1, .ref a2, .ref a3, .ref a4, .ref a5] := by
  intro i hi
  rcases (show i = 0 ∨ i = 1 ∨ i = 2 ∨ i = 3 ∨ i = 4 ∨ i = 5 by omega) with rfl | rfl | rfl | rfl | rfl | rfl
  · exact ⟨a0, [_, _, _], rfl, h0, ints3⟩
  · exact ⟨a1, [_, _, _], rfl, h1, ints3⟩
  · exact ⟨a2, [_, _, _], rfl, h2, ints3⟩
  · exact ⟨a3, [_, _, _], rfl, h3, ints3⟩
  · exact ⟨a4, [_, _, _], rfl, h4, ints3⟩
  · exact ⟨a5, [_, _, _], rfl, h5, ints3⟩
theorem law_start {g h : Heap} {L : Addr} {l x6 x5 x4 x3 x2 x1 d0 c7 c6 c5 c4 c3 c2 c1 : Addr × Obj} (N : News g L h [l, x6, x5, x4, x3, x2, x1, d0, c7, c6, c5, c4, c3, c2, c1])
    (e12 : @LT.lt Nat instLTNat c1.1 c3.1) (e23 : @LT.lt Nat instLTNat c2.1 c3.1) (e34 : @LT.lt Nat instLTNat c3.1 c4.1) (e45 : @LT.lt Nat instLTNat c4.1 c5.1) (e56 : @LT.lt Nat instLTNat c5.1 c6.1) (e67 : @LT.lt Nat instLTNat c6.1 c7.1) (ed : @LT.lt Nat instLTNat c7.1 d0.1) (el : @LT.lt Nat instLTNat c7.1 l.1)
    (f1 : @LT.lt Nat instLTNat c7.1 x1.1) (f2 : @LT.lt Nat instLTNat c7.1 x2.1) (f3 : @LT.lt Nat instLTNat c7.1 x3.1) (f4 : @LT.lt Nat instLTNat c7.1 x4.1) (f5 : @LT.lt Nat instLTNat c7.1 x5.1) (f6 : @LT.lt Nat instLTNat c7.1 x6.1) :
    Ex1 fun T : LLed => An7 (News g L h (c3 :: c4 :: c5 :: c6 :: c7 :: T)) (∀ p ∈ [l, x6, x5, x4, x3, x2, x1, d0, c2, c1], p ∈ T) (∀ p ∈ T, @LT.lt Nat instLTNat p.1 c3.1 ∨ @LT.lt Nat instLTNat c7.1 p.1) (@LT.lt Nat instLTNat c3.1 c4.1) (@LT.lt Nat instLTNat c4.1 c5.1) (@LT.lt Nat instLTNat c5.1 c6.1) (@LT.lt Nat instLTNat c6.1 c7.1) := by
  refine ⟨[l, x6, x5, x4, x3, x2, x1, d0, c2, c1], News.sub N (fun p hp => ?_), fun p hp => hp, fun p hp => ?_, e34, e45, e56, e67⟩
  · revert p; (repeat (refine sub_cons (by repeat (first | exact List.Mem.head _ | apply List.Mem.tail)) ?_)); (repeat (first | exact fun _ h => h | refine sub_tail ?_))
  · revert p; refine all_cons ?_ (all_cons ?_ (all_cons ?_ (all_cons ?_ (all_cons ?_ (all_cons ?_ (all_cons ?_ (all_cons ?_ (all_cons ?_ (all_cons ?_ (List.forall_mem_nil _))))))))))
    · exact .inr el
    · exact .inr f6
    · exact .inr f5
    · exact .inr f4
    · exact .inr f3
    · exact .inr f2
    · exact .inr f1
    · exact .inr ed
    · exact .inl e23
    · exact .inl e12
theorem law_lo {g h : Heap} {L : Addr} {l a0 a1 a2 a3 a4 a5 : Addr} {t00 t01 t02 t10 t11 t12 t20 t21 t22 t30 t31 t32 t40 t41 t42 t50 t51 t52 : Tok} {T : LLed}
    (_N : News g L h ((l, W.listOf #[.ref a0, .ref a1, .ref a2, .ref a3, .ref a4, .ref a5] 0) :: (a5, W.listOf #[.int 2 t50, .int 1 t51, .int 0 t52] 0) :: (a4, W.listOf #[.int 2 t40, .int 0 t41, .int 1 t42] 0) :: (a3, W.listOf #[.int 1 t30, .int 2 t31, .int 0 t32] 0) ::
      (a2, W.listOf #[.int 1 t20, .int 0 t21, .int 2 t22] 0) :: (a1, W.listOf #[.int 0 t10, .int 2 t11, .int 1 t12] 0) :: (a0, W.listOf #[.int 0 t00, .int 1 t01, .int 2 t02] 0) :: T)) :
    LO [(l, W.listOf #[.ref a0, .ref a1, .ref a2, .ref a3, .ref a4, .ref a5] 0), (a5, W.listOf #[.int 2 t50, .int 1 t51, .int 0 t52] 0), (a4, W.listOf #[.int 2 t40, .int 0 t41, .int 1 t42] 0), (a3, W.listOf #[.int 1 t30, .int 2 t31, .int 0 t32] 0),
      (a2, W.listOf #[.int 1 t20, .int 0 t21, .int 2 t22] 0), (a1, W.listOf #[.int 0 t10, .int 2 t11, .int 1 t12] 0), (a0, W.listOf #[.int 0 t00, .int 1 t01, .int 2 t02] 0)] [.ref a0, .ref a1, .ref a2, .ref a3, .ref a4, .ref a5] :=
  lo_make (.tail _ (.tail _ (.tail _ (.tail _ (.tail _ (.tail _ (.head _))))))) (.tail _ (.tail _ (.tail _ (.tail _ (.tail _ (.head _)))))) (.tail _ (.tail _ (.tail _ (.tail _ (.head _))))) (.tail _ (.tail _ (.tail _ (.head _)))) (.tail _ (.tail _ (.head _))) (.tail _ (.head _))
theorem vs_lv {ws : List Value} {xs : List PySem.Str} (h : VS ws xs) : ∃ tw : Int → Tok, ∀ k : Int, 0 ≤ k → k < (xs.length : Int) → ws[k.toNat]? = some (.str (xs.getD k.toNat (PySem.Str.ofString "")) (tw k)) := by
  have key : ∀ {ws : List Value} {xs : List PySem.Str}, VS ws xs → ∀ n : Nat, n < xs.length → ∃ t, ws[n]? = some (.str (xs.getD n (PySem.Str.ofString "")) t) := by
    intro ws xs h
    induction ws generalizing xs with
    | nil => intro n hn; cases xs with
      | nil => simp at hn
      | cons _ _ => exact h.elim
    | cons v r ih =>
      intro n hn
      cases xs with
      | nil => exact h.elim
      | cons x xs =>
        cases n with
        | zero => obtain ⟨t, e⟩ := h.1; exact ⟨t, by rw [e]; rfl⟩
        | succ n => exact ih h.2 n (by simpa using hn)
  have hc : ∀ k : Int, ∃ t, 0 ≤ k → k < (xs.length : Int) → ws[k.toNat]? = some (.str (xs.getD k.toNat (PySem.Str.ofString "")) t) := by
    intro k
    by_cases h0 : 0 ≤ k ∧ k < (xs.length : Int)
    · obtain ⟨t, e⟩ := key h k.toNat (by omega)
      exact ⟨t, fun _ _ => e⟩
    · exact ⟨default, fun a b => absurd ⟨a, b⟩ h0⟩
  exact ⟨fun k => (hc k).choose, fun k h0 h1 => (hc k).choose_spec h0 h1⟩
theorem law_off {T : LLed} {c3 c4 c5 c6 c7 : Addr × Obj} (h : ∀ p ∈ T, @LT.lt Nat instLTNat p.1 c3.1 ∨ @LT.lt Nat instLTNat c7.1 p.1) (e34 : @LT.lt Nat instLTNat c3.1 c4.1) (e45 : @LT.lt Nat instLTNat c4.1 c5.1) (e56 : @LT.lt Nat instLTNat c5.1 c6.1) (e67 : @LT.lt Nat instLTNat c6.1 c7.1) :
    An5 (∀ p ∈ T, p.1 ≠ c3.1) (∀ p ∈ T, p.1 ≠ c4.1) (∀ p ∈ T, p.1 ≠ c5.1) (∀ p ∈ T, p.1 ≠ c6.1) (∀ p ∈ T, p.1 ≠ c7.1) := by
  refine ⟨?_, ?_, ?_, ?_, ?_⟩ <;> (intro p hp; have := h p hp; refine neN ?_; omega)
theorem law_far {g h : Heap} {L : Addr} {d2 d1 c3 c4 c5 c6 c7 : Addr × Obj} {ra : Nat → Addr} {ob : Nat → Obj} {T : LLed} (N : News g L h (d2 :: (rowsO ra ob ++ (d1 :: c3 :: c4 :: c5 :: c6 :: c7 :: T))))
    (hra : ∀ k, k < 6 → ∀ p ∈ (d1 :: c3 :: c4 :: c5 :: c6 :: c7 :: T : LLed), p.1 ≠ ra k) (hd : ∀ p ∈ (d1 :: c3 :: c4 :: c5 :: c6 :: c7 :: T : LLed), p.1 ≠ d2.1) (h1 : ∀ p ∈ (c3 :: c4 :: c5 :: c6 :: c7 :: T : LLed), p.1 ≠ d1.1)
    (e34 : @LT.lt Nat instLTNat c3.1 c4.1) (e45 : @LT.lt Nat instLTNat c4.1 c5.1) (e56 : @LT.lt Nat instLTNat c5.1 c6.1) (e67 : @LT.lt Nat instLTNat c6.1 c7.1)
    (t4 : ∀ p ∈ T, p.1 ≠ c4.1) (t5 : ∀ p ∈ T, p.1 ≠ c5.1) (t6 : ∀ p ∈ T, p.1 ≠ c6.1) (t7 : ∀ p ∈ T, p.1 ≠ c7.1) :
    Ex1 fun T' : LLed => An10 (News g L h (c4 :: c5 :: c6 :: c7 :: T')) (d2 ∈ T') (∀ k, k < 6 → (ra k, ob k) ∈ T') (d1 ∈ T') (c3 ∈ T') (∀ p ∈ T, p ∈ T') (∀ p ∈ T', p.1 ≠ c4.1) (∀ p ∈ T', p.1 ≠ c5.1) (∀ p ∈ T', p.1 ≠ c6.1) (∀ p ∈ T', p.1 ≠ c7.1) := by
  have key : ∀ c : Addr × Obj, c ∈ (c4 :: c5 :: c6 :: c7 :: T : LLed) → (c3.1 ≠ c.1) → (∀ p ∈ T, p.1 ≠ c.1) → ∀ p ∈ (d2 :: (rowsO ra ob ++ (d1 :: c3 :: T)) : LLed), p.1 ≠ c.1 := by
    intro c hc h3 ht p hp
    have hc' : c ∈ (c3 :: c4 :: c5 :: c6 :: c7 :: T : LLed) := List.mem_cons_of_mem _ hc
    (first | (revert p; refine all_cons ?_ (fun p hp => ?_)) | rcases List.mem_cons.mp hp with rfl | hp)
    · exact (hd c (List.mem_cons_of_mem _ hc')).symm
    refine rowsO_off (T := d1 :: c3 :: T) (x := c.1) (fun k hk => (hra k hk c (List.mem_cons_of_mem _ hc')).symm) (fun p hp => ?_) p hp
    (first | (revert p; refine all_cons ?_ (fun p hp => ?_)) | rcases List.mem_cons.mp hp with rfl | hp)
    · exact (h1 c hc').symm
    (first | (revert p; refine all_cons ?_ (fun p hp => ?_)) | rcases List.mem_cons.mp hp with rfl | hp)
    · exact h3
    · exact ht p hp
  refine ⟨d2 :: (rowsO ra ob ++ (d1 :: c3 :: T)), News.sub N (fun p hp => ?_), List.mem_cons_self .., fun k hk => List.mem_cons_of_mem _ (rowsO_mem hk), ?_, ?_, ?_, key c4 (by repeat (first | exact List.Mem.head _ | apply List.Mem.tail)) (neN (by omega)) t4, key c5 (by repeat (first | exact List.Mem.head _ | apply List.Mem.tail)) (neN (by omega)) t5, key c6 (by repeat (first | exact List.Mem.head _ | apply List.Mem.tail)) (neN (by omega)) t6, key c7 (by repeat (first | exact List.Mem.head _ | apply List.Mem.tail)) (neN (by omega)) t7⟩
  · revert p
    have up : ∀ {q : Addr × Obj}, q ∈ (d1 :: c3 :: c4 :: c5 :: c6 :: c7 :: T : LLed) → q ∈ (d2 :: (rowsO ra ob ++ (d1 :: c3 :: c4 :: c5 :: c6 :: c7 :: T)) : LLed) := fun h => .tail _ (List.mem_append_right _ h)
    refine sub_cons (up (.tail _ (.tail _ (.head _)))) (sub_cons (up (.tail _ (.tail _ (.tail _ (.head _))))) (sub_cons (up (.tail _ (.tail _ (.tail _ (.tail _ (.head _)))))) (sub_cons (up (.tail _ (.tail _ (.tail _ (.tail _ (.tail _ (.head _))))))) (sub_cons (.head _) (fun p hp => ?_)))))
    exact (List.mem_append.mp hp).elim (fun q => .tail _ (List.mem_append_left _ q)) (fun q => up (sub_cons (.head _) (sub_cons (.tail _ (.head _)) (fun _ h => .tail _ (.tail _ (.tail _ (.tail _ (.tail _ (.tail _ h))))))) p q))
  · exact List.mem_cons_of_mem _ (List.mem_append_right _ (List.mem_cons_self ..))
  · exact List.mem_cons_of_mem _ (List.mem_append_right _ (List.mem_cons_of_mem _ (List.mem_cons_self ..)))
  · exact fun p hp => List.mem_cons_of_mem _ (List.mem_append_right _ (List.mem_cons_of_mem _ (List.mem_cons_of_mem _ hp)))
theorem log_turn {g h : Heap} {L I C D a c4 c5 c6 c7 : Addr} {oI oC oD oa o4 o5 o6 o7 : Obj} {T3 : LLed} (N : News g L h ((a, oa) :: (I, oI) :: (C, oC) :: (D, oD) :: (c4, o4) :: (c5, o5) :: (c6, o6) :: (c7, o7) :: T3))
    (off : LCg.Off3 I C D ((c4, o4) :: (c5, o5) :: (c6, o6) :: (c7, o7) :: T3)) (hl : @LT.lt Nat instLTNat I a ∧ @LT.lt Nat instLTNat C a ∧ @LT.lt Nat instLTNat D a ∧ @LT.lt Nat instLTNat c4 a ∧ @LT.lt Nat instLTNat c5 a ∧ @LT.lt Nat instLTNat c6 a ∧ @LT.lt Nat instLTNat c7 a ∧ AllLt a T3) :
    An6 (News g L h ((I, oI) :: (C, oC) :: (D, oD) :: (c4, o4) :: (c5, o5) :: (c6, o6) :: (c7, o7) :: (a, oa) :: T3)) (LCg.Off3 I C D ((c4, o4) :: (c5, o5) :: (c6, o6) :: (c7, o7) :: (a, oa) :: T3)) (a ≠ c4) (a ≠ c5) (a ≠ c6) (a ≠ c7) := by
  obtain ⟨q1, q2, q3, q4, q5, q6, q7, _⟩ := hl
  refine ⟨News.sub N (fun p hp => ?_), LCg.Off3.of (fun p hp => ?_), neN (by omega), neN (by omega), neN (by omega), neN (by omega)⟩
  · revert p; (repeat (refine sub_cons (by repeat (first | exact List.Mem.head _ | apply List.Mem.tail)) ?_)); (repeat (first | exact fun _ h => h | refine sub_tail ?_))
  · have key := off.mem
    revert p; refine all_cons ?_ (all_cons ?_ (all_cons ?_ (all_cons ?_ (all_cons ?_ (fun p hp => ?_)))))
    · exact key _ (by repeat (first | exact List.Mem.head _ | apply List.Mem.tail))
    · exact key _ (by repeat (first | exact List.Mem.head _ | apply List.Mem.tail))
    · exact key _ (by repeat (first | exact List.Mem.head _ | apply List.Mem.tail))
    · exact key _ (by repeat (first | exact List.Mem.head _ | apply List.Mem.tail))
    · exact ⟨neN (by dsimp only; omega), neN (by dsimp only; omega), neN (by dsimp only; omega)⟩
    · exact key p (by repeat (first | exact hp | apply List.Mem.tail))
theorem mk_ok {k : Int} (h0 : 0 ≤ k) (h1 : k < 3) : OkM (Txt.item (PySem.Str.ofString "|!;") k) := by
  rcases (show k = 0 ∨ k = 1 ∨ k = 2 by omega) with rfl | rfl | rfl
  · exact .inl (by decide +kernel)
  · exact .inr (.inl (by decide +kernel))
  · exact .inr (.inr (by decide +kernel))
end
section
open PySem PySem.W PyProof.Rows PySem.Calls PySem.Spec
local macro_rules | `(tactic| k_ne) => `(tactic| ((try dsimp only); refine' tup_ne ?tn0 ?tn1 ?tn2; (case tn0 => with_reducible assumption); (case tn1 => first | exact List.Mem.head _ | exact .tail _ (.head _) | exact .tail _ (.tail _ (.head _)) | exact .tail _ (.tail _ (.tail _ (.head _)))); (case tn2 => k_mem); done))
local macro_rules | `(tactic| k_ne) => `(tactic| ((try dsimp only); assumption))
local macro_rules | `(tactic| walk_at "my_tail") => `(tactic| (intro p9 hp9; repeat (first | exact hp9 | refine List.mem_cons_of_mem _ ?_)))
def Sub (R1 R T : LLed) (vs lv : List Value) (ps : List (PySem.Str × PySem.Str)) : Prop := ∃ T1 : LLed, (∀ p ∈ R1, p ∈ T1) ∧ (∀ p ∈ T1, p ∈ T) ∧ HL T1 vs ps ∧ HL T1 lv ps ∧ ∀ p ∈ T1, p ∈ R1 ∨ ∀ q ∈ R, q.1 ≠ p.1
theorem inner_up2 {h₀ h : Heap} {L I2 I ah al apl a e : Addr} {oI2 oI o1 o2 : Obj} {x1 x2 : Addr} {T T2 : LLed} {vs lv pv : List Value} {m1 m2 m3 : Nat} {mk wd : PySem.Str} {d : RD} {b b' : Int} {c c' : Nat} {j wth : Int} {t1 t2 u1 u2 t : Tok}
    (hN : News h₀ L h ((e, tup2 (.str (nmk j) t2) (.str (replyS mk wd wth) u2)) :: (a, tup2 (.str (nmk j) t1) (.str (replyS mk wd wth) u1)) :: (x1, o1) :: (x2, o2) :: (I2, oI2) :: (I, oI) :: (ah, W.listOf (vs ++ [Value.ref a]).toArray m1) :: (al, W.listOf (lv.toArray.push (Value.ref e)) m2) :: (apl, W.listOf (pv.set j.toNat (Value.int wth t)).toArray m3) :: T2))
    (hI : RI T2 vs lv pv mk d b c) (hT : ∀ p ∈ T, p ∈ T2) (s1 : ∀ p ∈ T2, p.1 ≠ ah) (s2 : ∀ p ∈ T2, p.1 ≠ al) (s3 : ∀ p ∈ T2, p.1 ≠ apl) (s4 : ∀ p ∈ T2, p.1 ≠ I2) (s5 : ∀ p ∈ T2, p.1 ≠ I)
    (ha : I2 < a ∧ I < a ∧ ah < a ∧ al < a ∧ apl < a ∧ AllLt a T2) (he : I2 < e ∧ I < e ∧ ah < e ∧ al < e ∧ apl < e ∧ AllLt e T2)
    (hb : b ≤ b') (hc : c + 1 ≤ c') (h0 : 0 ≤ j) (h1 : j < 3) (hw0 : 0 ≤ wth) (hw1 : wth ≤ b') (hw2 : wth < 1000) (hm : OkM mk) (hw : OkW wd) {R1 R : LLed} (hR : ∀ p ∈ R, p ∈ T2) (hf : Sub R1 R T2 vs lv d.ps) :
    Ex1 fun T3 => An9 (∀ p ∈ T, p ∈ T3) (RI T3 (vs ++ [Value.ref a]) (lv ++ [Value.ref e]) (pv.set j.toNat (Value.int wth t)) mk ⟨d.p.set j.toNat wth, d.ps ++ [(nmk j, replyS mk wd wth)], d.r + 1⟩ b' c')
      (∀ p ∈ T3, p.1 ≠ ah) (∀ p ∈ T3, p.1 ≠ al) (∀ p ∈ T3, p.1 ≠ apl) (∀ p ∈ T3, p.1 ≠ I2) (∀ p ∈ T3, p.1 ≠ I)
      (News h₀ L h ((I2, oI2) :: (I, oI) :: (ah, W.listOf (vs ++ [Value.ref a]).toArray m1) :: (al, W.listOf (lv ++ [Value.ref e]).toArray m2) :: (apl, W.listOf (pv.set j.toNat (Value.int wth t)).toArray m3) :: T3)) (Sub R1 R T3 (vs ++ [Value.ref a]) (lv ++ [Value.ref e]) (d.ps ++ [(nmk j, replyS mk wd wth)])) := by
  have key : ∀ (x : Addr), x < a → x < e → (∀ p ∈ T2, p.1 ≠ x) → ∀ p ∈ ((e, tup2 (.str (nmk j) t2) (.str (replyS mk wd wth) u2)) :: (a, tup2 (.str (nmk j) t1) (.str (replyS mk wd wth) u1)) :: T2 : LLed), p.1 ≠ x := by
    intro x hx1 hx2 hx p hp
    (first | (revert p; refine all_cons ?_ (fun p hp => ?_)) | rcases List.mem_cons.mp hp with rfl | hp)
    · exact (Nat.ne_of_lt hx2).symm
    (first | (revert p; refine all_cons ?_ (fun p hp => ?_)) | rcases List.mem_cons.mp hp with rfl | hp)
    · exact (Nat.ne_of_lt hx1).symm
    · exact hx p hp
  have hT2 : ∀ p ∈ T2, p ∈ ((e, tup2 (.str (nmk j) t2) (.str (replyS mk wd wth) u2)) :: (a, tup2 (.str (nmk j) t1) (.str (replyS mk wd wth) u1)) :: T2 : LLed) := fun p hp => List.mem_cons_of_mem _ (List.mem_cons_of_mem _ hp)
  rw [push_list] at hN
  refine ⟨_, fun p hp => hT2 p (hT p hp), hI.up hT2 hb hc h0 h1 hw0 hw1 hw2 hm hw (List.mem_cons_of_mem _ (List.mem_cons_self ..)) (List.mem_cons_self ..), key _ ha.2.2.1 he.2.2.1 s1, key _ ha.2.2.2.1 he.2.2.2.1 s2, key _ ha.2.2.2.2.1 he.2.2.2.2.1 s3, key _ ha.1 he.1 s4, key _ ha.2.1 he.2.1 s5, News.sub hN ?_, ?_⟩
  · intro p hp
    revert p; (repeat (refine sub_cons (by repeat (first | exact List.Mem.head _ | apply List.Mem.tail)) ?_)); (repeat (first | exact fun _ h => h | refine sub_tail ?_))
  · obtain ⟨T1, k0, k1, k2, k3, k4⟩ := hf
    refine ⟨(e, tup2 (.str (nmk j) t2) (.str (replyS mk wd wth) u2)) :: (a, tup2 (.str (nmk j) t1) (.str (replyS mk wd wth) u1)) :: T1, fun p hp => List.mem_cons_of_mem _ (List.mem_cons_of_mem _ (k0 p hp)), fun p hp => ?_, HL.snoc (p := (_, _)) (List.mem_cons_of_mem _ (List.mem_cons_self ..)) (HL.mono (fun p hp => List.mem_cons_of_mem _ (List.mem_cons_of_mem _ hp)) k2), HL.snoc (p := (_, _)) (List.mem_cons_self ..) (HL.mono (fun p hp => List.mem_cons_of_mem _ (List.mem_cons_of_mem _ hp)) k3), fun p hp => ?_⟩
    · (first | (revert p; refine all_cons ?_ (fun p hp => ?_)) | rcases List.mem_cons.mp hp with rfl | hp)
      · exact List.mem_cons_self ..
      (first | (revert p; refine all_cons ?_ (fun p hp => ?_)) | rcases List.mem_cons.mp hp with rfl | hp)
      · exact List.mem_cons_of_mem _ (List.mem_cons_self ..)
      · exact List.mem_cons_of_mem _ (List.mem_cons_of_mem _ (k1 p hp))
    · (first | (revert p; refine all_cons ?_ (fun p hp => ?_)) | rcases List.mem_cons.mp hp with rfl | hp)
      · exact .inr fun q hq => Nat.ne_of_lt (allLt_all he.2.2.2.2.2 q (hR q hq))
      (first | (revert p; refine all_cons ?_ (fun p hp => ?_)) | rcases List.mem_cons.mp hp with rfl | hp)
      · exact .inr fun q hq => Nat.ne_of_lt (allLt_all ha.2.2.2.2.2 q (hR q hq))
      · exact k4 p hp
theorem turnD_up {mk : PySem.Str} {F : Int → List Int} {ord : List Int} {wd : Int → PySem.Str} {i j : Int} {d : RD} (h : d.p.getD j.toNat 0 < d.p.getD (ord.getD i.toNat 0).toNat 0 + (F i).getD (3 + ord.getD i.toNat 0).toNat 0 - (F i).getD (3 + j).toNat 0) :
    turnD mk F ord wd i j d = ⟨d.p.set j.toNat (d.p.getD (ord.getD i.toNat 0).toNat 0 + (F i).getD (3 + ord.getD i.toNat 0).toNat 0 - (F i).getD (3 + j).toNat 0), d.ps ++ [(nmk j, replyS mk (wd (ord.getD i.toNat 0)) (d.p.getD (ord.getD i.toNat 0).toNat 0 + (F i).getD (3 + ord.getD i.toNat 0).toNat 0 - (F i).getD (3 + j).toNat 0))], d.r + 1⟩ := if_pos h
theorem turnD_dn {mk : PySem.Str} {F : Int → List Int} {ord : List Int} {wd : Int → PySem.Str} {i j : Int} {d : RD} (h : ¬ d.p.getD j.toNat 0 < d.p.getD (ord.getD i.toNat 0).toNat 0 + (F i).getD (3 + ord.getD i.toNat 0).toNat 0 - (F i).getD (3 + j).toNat 0) :
    turnD mk F ord wd i j d = d := if_neg h
theorem de_c {mk : PySem.Str} {F : Int → List Int} {ord : List Int} {wd : Int → PySem.Str} {i rj : Int} {j : Nat} {d' d2 dU : RD} (hrj : rj = 0 + (j : Int)) (hd2 : d2 = innerD mk F ord wd i j d') (h : turnD mk F ord wd i rj d2 = dU) : dU = innerD mk F ord wd i (j + 1) d' := by
  subst hrj
  rw [← h, hd2, Int.zero_add]
  rfl
theorem de_o {mk : PySem.Str} {F : Int → List Int} {ord : List Int} {wd : Int → PySem.Str} {ri : Int} {i : Nat} {d d' d2 : RD} (hri : ri = 0 + (i : Int)) (hd2 : d2 = innerD mk F ord wd ri 3 d') (hd' : d' = outerD mk F ord wd i d) : d2 = outerD mk F ord wd (i + 1) d := by
  subst hri
  rw [hd2, hd', Int.zero_add]
  rfl
theorem po_c {p : List Int} {o rj W : Int} (f : Int → Int) (hl : rj.toNat < p.length) (h0 : 0 ≤ rj) (h1 : 0 ≤ o) (hlt : p.getD rj.toNat 0 < p.getD o.toNat 0 + f o - f rj) : (p.set rj.toNat W).getD o.toNat 0 = p.getD o.toNat 0 := by
  rw [getD_set _ _ _ _ hl]
  split
  · rename (rj.toNat = _) => hq9
    have hq8 : rj = o := by omega
    exfalso
    rw [hq8] at hlt
    omega
  · rfl
theorem wthb {P F1 F2 b : Int} {i j : Nat} (h : P ≤ b + 18 * (i : Int) + 6 * (j : Int)) (f1 : 0 ≤ F1 ∧ F1 ≤ 6) (f2 : 0 ≤ F2 ∧ F2 ≤ 6) : P + F1 - F2 ≤ b + 18 * (i : Int) + 6 * ((j + 1 : Nat) : Int) := by omega
theorem wthc {W b : Int} {i j : Nat} (hi : i < 3) (hj : j < 3) (hb : b + 54 ≤ 900) (h : W ≤ b + 18 * (i : Int) + 6 * ((j + 1 : Nat) : Int)) : W < 1000 := by omega
theorem round_c (w : World) (rest : LLed) (px pd ah al apl af ao aw : Addr) (kt : Tok) (mk : PySem.Str) (tm : Tok) (farvs ordvs wanvs : List Value) (rows : Int → Addr) (rowvs : Int → List Value) (naf nao naw : Nat) (nrow : Int → Nat) (F : Int → List Int) (ord : List Int) (wd : Int → PySem.Str) (tw : Int → Tok)
   (G : Rnd w rest px pd ah af ao aw kt mk farvs ordvs wanvs rows rowvs naf nao naw nrow F ord wd tw) (vs lv pv : List Value) (n1 n2 n3 : Nat) (d : RD) (b : Int) (c : Nat) (hI : RI rest vs lv pv mk d b c) (hd0 : d.r = 0) (hb : b + 54 ≤ 900) (hc : c + 9 ≤ 500)
   (e1 : ah ≠ al) (e2 : ah ≠ apl) (e3 : al ≠ apl) (e4 : px ≠ ah) (e5 : pd ≠ ah) (r1 : ∀ p ∈ rest, p.1 ≠ ah) (r2 : ∀ p ∈ rest, p.1 ≠ al) (r3 : ∀ p ∈ rest, p.1 ≠ apl) (R1 : LLed) (hs1 : Sub R1 rest rest vs lv d.ps) :
    Ctr w 326 [.ref px, .ref al, .ref apl, .ref af, .ref ao, .ref aw, .str mk tm] [] 10 ((ah, W.listOf vs.toArray n1) :: (al, W.listOf lv.toArray n2) :: (apl, W.listOf pv.toArray n3) :: rest)
     fun N Q => ∀ vs' lv' pv' n1' n2' n3' rest' t' h' tk', (∀ p ∈ rest, p ∈ rest') → RI rest' vs' lv' pv' mk (outerD mk F ord wd 3 d) (b + 54) (c + 9) → (∀ p ∈ rest', p.1 ≠ ah) → (∀ p ∈ rest', p.1 ≠ al) → (∀ p ∈ rest', p.1 ≠ apl) → Sub R1 rest rest' vs' lv' (outerD mk F ord wd 3 d).ps →
       N h' ((ah, W.listOf vs'.toArray n1') :: (al, W.listOf lv'.toArray n2') :: (apl, W.listOf pv'.toArray n3') :: rest') → Q (.int (outerD mk F ord wd 3 d).r t') h' tk' := by
  unfold Ctr
  have hdummy : PySem.Challenge.rw_wo0075_01 = PySem.Challenge.rw_wo0075_01 ∧ hd.heap_39 w.params = hd.heap_39 w.params := by k_fill; exact ⟨rfl, rfl⟩
  clear hdummy
  intro loose mean mg mb dp un gd cn cs a ccd cl outer A₀ base h₀ L m s Q E hB hF hX hN hT hk hdp hun hret
  rcases cs with ⟨ki, na, g1, g2, mo⟩
  dsimp only at hk
  subst hk
  walk_at "fd"
  (repeat' (first | tb_start | (walk_at "S0"; first | (k_end; wrow_close) | walk_at "Z")))
  refine For_invVF (by k_asm) rfl rfl ?_
  (repeat' (first | tb_start | (walk_at "S0"; first | (k_end; wrow_close) | walk_at "Z")))
  rename IsRange _ _ _ _ _ _ _ _ => hR
  rename News _ _ _ ((ah, _) :: (al, _) :: (apl, _) :: rest) => hN0
  let JJ1 : JT6 := fun m₀ news₀ I i m news => Ex8 fun vs' lv' pv' n1' n2' n3' T d' => An10 (RM [PySem.Str.ofString "i", PySem.Str.ofString "own", PySem.Str.ofString "host", PySem.Str.ofString "paid", PySem.Str.ofString "j", PySem.Str.ofString "price", PySem.Str.ofString "worth", PySem.Str.ofString "due"] m₀ d'.r m) (news = (ah, W.listOf vs'.toArray n1') :: (al, W.listOf lv'.toArray n2') :: (apl, W.listOf pv'.toArray n3') :: T) (∀ p ∈ rest, p ∈ T) (RI T vs' lv' pv' mk d' (b + 18 * (i : Int)) (c + 3 * i)) (∀ p ∈ T, p.1 ≠ ah) (∀ p ∈ T, p.1 ≠ al) (∀ p ∈ T, p.1 ≠ apl) (∀ p ∈ news, p.1 ≠ I) (d' = outerD mk F ord wd i d) (Sub R1 rest T vs' lv' d'.ps)
  refine range_inv (n := 3) (by rfl) hR (by decide) (by decide) (by k_asm) hN0
    JJ1
    (fun I hI9 => ⟨vs, lv, pv, n1, n2, n3, rest, d, rm_start hd0 rfl, rfl, fun p hp => hp, by simpa using hI, r1, r2, r3, fun p hp => Nat.ne_of_lt (hI9 p hp), rfl, hs1⟩) (fun I i m news h => ?j2) ?_ ?_
  case j2 =>
    obtain ⟨_, _, _, _, _, _, _, _, _, _, _, _, _, _, _, h9, _⟩ := h
    exact h9
  · intro I i ri m news h tk t oI hi hri zj0 F9 N9
    walk_at "fg"
    obtain ⟨vs', lv', pv', n1', n2', n3', T, d', ⟨tr, u, rfl⟩, rfl, hT9, hI', q1, q2, q3, q4, hd', hfs⟩ := zj0
    revert F9; intro F9; revert N9; intro N9
    have hri0 : 0 ≤ ri := kk0 hri
    have hri1 : ri < 3 := kk1 hri hi
    have yy1 := k63 hri1
    have yy3 : ri < 6 := Int.lt_trans hri1 (by decide)
    have hpx := hT9 _ G.hpx
    have hpd := hT9 _ G.hpd
    have haf := hT9 _ G.haf
    have hfar := G.hfar
    have hrow := hT9 _ (G.hrow ri hri0 hri1)
    obtain ⟨hrv, hrl⟩ := G.hri ri hri0 hri1
    have hao := hT9 _ G.hao
    obtain ⟨hov, hol⟩ := G.hord
    obtain ⟨ho0, ho1⟩ := G.hown ri hri0 hri1
    have yy2 := k3n hri1 hol
    have haw := hT9 _ G.haw
    have hwan := G.hwan
    have hwd := G.hwd
    have hmk := G.hmk
    have hv9 := hI'.hv
    have hp9 := hI'.hp
    have hpl9 := hI'.hpl
    have hb0 := hI'.hb0
    have hb1 : ∀ k : Int, 0 ≤ k → k < 3 → d'.p.getD k.toNat 0 < 1000 := fun k k0 k1 => by have := hI'.hb1 k k0 k1; omega
    have hz9 := hI'.hz
    have hlast := hI'.hlast
    have hwo := G.hwd _ ho0 ho1
    have hvl : vs'.length ≤ 1000 := by rw [hv9.length]; have := hI'.hc; omega
    refine letF (G := zG) F9 ?_; clear F9; intro mT F9
    walk_at "ug"
    (repeat' (first | tb_start | (walk_at "S0"; first | (k_end; wrow_close) | ((first | ((with_reducible show wpAny _ _ (subscriptTail _ _ (Value.ref _) (Value.int _ _)) _ _ _); k_dflt (refine' my_itemL ?Ny62 ?my62 ?xy62 ?h0y62 ?hiy62 ?hny62 ?_; (case Ny62 => k_asm); (case my62 => k_mem); (case xy62 => assumption); (case h0y62 => omega); (case hiy62 => omega); (case hny62 => decide); (try dsimp only))) | ((with_reducible show wpAny _ _ (subscriptTail _ (PySem.Expr.UnaryOp _ _ _) (Value.ref _) (Value.int _ _)) _ _ _); k_dflt (refine' my_last_drop ?Ny63 ?xy63 ?_; (case Ny63 => with_reducible assumption); (case xy63 => with_reducible assumption); intro _)) | ((with_reducible show wpAny _ _ (call (Value.ref 82) _ _) _ _ _); k_dflt (refine' Ctr.use (p229_k _ _ _ _ _ _ _ _ _ _ ?q1y69 ?q5y69) ?k1y69 ?k2y69 ?k3y69 ?k4y69 ?k5y69 ?kKy69 ?kdy69 ?kuy69 ?_; (case k1y69 => k_asm); (case k2y69 => k_asm); (case k3y69 => k_asm); (case k4y69 => k_asm); (case k5y69 => k_asm); (case kKy69 => first | exact rfl | assumption); (case kdy69 => ((try dsimp +zetaDelta only); first | exact dm1 (by with_reducible assumption) rfl | ktr_room)); (case kuy69 => ((try dsimp +zetaDelta only); first | exact um1 (by with_reducible assumption) rfl | ktr_units)); (case q5y69 => k_mem); (case q1y69 => assumption); (rintro _ _ _ _ ⟨_, _⟩; (try dsimp only); (try k_fold)))) | ((with_reducible show wpAny _ _ (call (Value.ref 221) _ _) _ _ _); k_dflt (refine' Ctr.use (getall_m _ _ _ _ _ _ _ _ _ _ ?g1y70 ?g2y70 ?g3y70 ?g4y70 _ ?g5y70 ?g6y70 ?g7y70 ?g8y70 ?g9y70) ?k1y70 ?k2y70 ?k3y70 ?k4y70 ?k5y70 ?kKy70 ?kdy70 ?kuy70 ?_; (case k1y70 => k_asm); (case k2y70 => k_asm); (case k3y70 => k_asm); (case k4y70 => k_asm); (case k5y70 => k_asm); (case kKy70 => first | exact rfl | assumption); (case kdy70 => ((try dsimp +zetaDelta only); first | exact dm1 (by with_reducible assumption) rfl | ktr_room)); (case kuy70 => ((try dsimp +zetaDelta only); first | exact um1 (by with_reducible assumption) rfl | ktr_units)); (case g5y70 => k_mem); (case g6y70 => k_mem); (case g7y70 => k_mem); (case g8y70 => (refine' HL.mono ?sy70 ?ay70; (case ay70 => assumption); (case sy70 => walk_at "my_tail"))); (case g9y70 => assumption); (case g1y70 => exact (nm_facts _ (by omega) (by omega)).1); (case g2y70 => exact (nm_facts _ (by omega) (by omega)).2.1); (case g3y70 => exact (nm_facts _ (by omega) (by omega)).2.2.1); (case g4y70 => assumption); (rintro _ _ _ _ zhv9 ⟨_, _⟩; obtain ⟨_, _, _, _⟩ := lastP_at zhv9 (by assumption) (by omega) (by omega); (try dsimp only); (try k_fold))))); all_goals (try walk_at "fq")) | walk_at "Z")))
    all_goals (try k_data)
    refine For_invVF (by k_asm) rfl rfl ?_
    (repeat' (first | tb_start | (walk_at "S0"; first | (k_end; wrow_close) | walk_at "Z")))
    rename IsRange _ _ _ _ _ _ _ _ => hR2
    rename News _ _ _ _ => hN1
    have hN2 : News _ _ _ ((I, oI) :: (ah, W.listOf vs'.toArray n1') :: (al, W.listOf lv'.toArray n2') :: (apl, W.listOf pv'.toArray n3') :: T) := News.sub hN1 (by
      intro p hp
      (first | (revert p; refine all_cons ?_ (fun p hp => ?_)) | rcases List.mem_cons.mp hp with rfl | hp)
      · k_mem
      (first | (revert p; refine all_cons ?_ (fun p hp => ?_)) | rcases List.mem_cons.mp hp with rfl | hp)
      · k_mem
      (first | (revert p; refine all_cons ?_ (fun p hp => ?_)) | rcases List.mem_cons.mp hp with rfl | hp)
      · k_mem
      (first | (revert p; refine all_cons ?_ (fun p hp => ?_)) | rcases List.mem_cons.mp hp with rfl | hp)
      · k_mem
      · repeat (first | exact hp | refine List.mem_cons_of_mem _ ?_))
    let JJ2 : JT6 := fun m₀ news₀ I' j m news => Ex8 fun vs'' lv'' pv'' n1'' n2'' n3'' T2 d2 => An12 (RM [PySem.Str.ofString "j", PySem.Str.ofString "price", PySem.Str.ofString "worth", PySem.Str.ofString "due"] m₀ d2.r m) (news = (I, oI) :: (ah, W.listOf vs''.toArray n1'') :: (al, W.listOf lv''.toArray n2'') :: (apl, W.listOf pv''.toArray n3'') :: T2) (∀ p ∈ T, p ∈ T2) (RI T2 vs'' lv'' pv'' mk d2 (b + 18 * (i : Int) + 6 * (j : Int)) (c + 3 * i + j)) (∀ p ∈ T2, p.1 ≠ ah) (∀ p ∈ T2, p.1 ≠ al) (∀ p ∈ T2, p.1 ≠ apl) (∀ p ∈ news, p.1 ≠ I') (∀ p ∈ T2, p.1 ≠ I) (d2 = innerD mk F ord wd ri j d') (d2.p.getD (ord.getD ri.toNat 0).toNat 0 = d'.p.getD (ord.getD ri.toNat 0).toNat 0) (Sub R1 rest T2 vs'' lv'' d2.ps)
    refine range_inv (n := 3) (by rfl) hR2 (by decide) (by decide) (by k_asm) hN2
      JJ2
      (fun I' hI8 => ⟨vs', lv', pv', n1', n2', n3', T, d', rm_start rfl rfl, rfl, fun p hp => hp, hI'.mono (fun p hp => hp) (by omega) (by omega), q1, q2, q3, fun p hp => Nat.ne_of_lt (hI8 p hp), fun p hp => q4 p (List.mem_cons_of_mem _ (List.mem_cons_of_mem _ (List.mem_cons_of_mem _ hp))), rfl, rfl, hfs⟩) (fun I' j m news h => ?c5) ?_ ?_
    case c5 =>
      obtain ⟨_, _, _, _, _, _, _, _, _, _, _, _, _, _, _, h9, _⟩ := h
      exact h9
    · intro I2 j rj m h2 h3 tk2 t2 oI2 hj hrj zj0 F8 N8
      walk_at "fg"
      obtain ⟨vs2, lv2, pv2, m1, m2, m3, T2, d2, ⟨tr2, u2, rfl⟩, rfl, hT2, hI2, s1, s2, s3, s4, s5, hd2, hpo, hfs2⟩ := zj0
      revert F8; intro F8; revert N8; intro N8
      clear hlast hz9 hv9 hp9 hb0 hb1 hvl hpl9 hpx hpd haf hrow hao haw hN1 hN2 hR2
      have hrj0 : 0 ≤ rj := kk0 hrj
      have hrj1 : rj < 3 := kk1 hrj hj
      have hT3 : ∀ p ∈ rest, p ∈ T2 := fun p hp => hT2 p (hT9 p hp)
      have hpx := hT3 _ G.hpx
      have hpd := hT3 _ G.hpd
      have haf := hT3 _ G.haf
      have hrow := hT3 _ (G.hrow ri hri0 hri1)
      have haw := hT3 _ G.haw
      have hv9 := hI2.hv
      have hl9 := hI2.hl
      have hp9 := hI2.hp
      have hpl9 := hI2.hpl
      have hz9 := hI2.hz
      have hlast := hI2.hlast
      have hvl : vs2.length ≤ 1000 := by rw [hv9.length]; have := hI2.hc; omega
      have hlvl : lv2.length ≤ 1000 := by rw [hl9.length]; have := hI2.hc; omega
      have hbo0 := hI2.hb0 _ ho0 ho1
      have hbo1 := hI2.hb1 _ ho0 ho1
      have hbj0 := hI2.hb0 _ hrj0 hrj1
      have hbj1 := hI2.hb1 _ hrj0 hrj1
      have hf1 := G.hfb ri (3 + ord.getD ri.toNat 0) hri0 hri1 (i30 ho0) (i36 ho1)
      have hf2 := G.hfb ri (3 + rj) hri0 hri1 (i30 hrj0) (i36 hrj1)
      have hw3 : d'.p.getD (ord.getD ri.toNat 0).toNat 0 + (F ri).getD (3 + ord.getD ri.toNat 0).toNat 0 - (F ri).getD (3 + rj).toNat 0 ≤ b + 18 * (i : Int) + 6 * ((j + 1 : Nat) : Int) := wthb (hpo ▸ hbo1) hf1 hf2
      have hw2 := wthc hi hj hb hw3
      have zz1 := i30 ho0
      have zz2 := i3n ho1 hrl
      have zz3 := i3b ho1
      have zz4 := i30 hrj0
      have zz5 := i3n hrj1 hrl
      have zz6 := i3b hrj1
      have zz7 := k63 hrj1
      have zz8 := kn3 hrj0
      have zz9 := k3n hrj1 hpl9
      have zza := k3n ho1 hpl9
      have zzb := k63 ho1
      have hml := okM_len hmk
      have hwl := hwo.2.1
      have hIi : I2 ≠ I := fun e => s4 _ (List.mem_cons_self ..) e.symm
      have hIa : I2 ≠ ah := fun e => s4 _ (List.mem_cons_of_mem _ (List.mem_cons_self ..)) e.symm
      have hIb : I2 ≠ al := fun e => s4 _ (List.mem_cons_of_mem _ (List.mem_cons_of_mem _ (List.mem_cons_self ..))) e.symm
      have hIc : I2 ≠ apl := fun e => s4 _ (List.mem_cons_of_mem _ (List.mem_cons_of_mem _ (List.mem_cons_of_mem _ (List.mem_cons_self ..)))) e.symm
      have hJa : I ≠ ah := fun e => q4 _ (List.mem_cons_self ..) e.symm
      have hJb : I ≠ al := fun e => q4 _ (List.mem_cons_of_mem _ (List.mem_cons_self ..)) e.symm
      have hJc : I ≠ apl := fun e => q4 _ (List.mem_cons_of_mem _ (List.mem_cons_of_mem _ (List.mem_cons_self ..))) e.symm
      have s4' : ∀ p ∈ T2, p.1 ≠ I2 := fun p hp => s4 p (List.mem_cons_of_mem _ (List.mem_cons_of_mem _ (List.mem_cons_of_mem _ (List.mem_cons_of_mem _ hp))))
      have e1' := e1.symm
      have e2' := e2.symm
      have e3' := e3.symm
      refine letF (G := zG) F8 ?_; clear F8; intro mT F8
      walk_at "ug"
      (repeat' (first | tb_start | (walk_at "S0"; first | (k_end; wrow_close) | ((first | ((with_reducible show wpAny _ _ (call (Value.builtin "list.append") _ _) _ _ _); (k_dflt (refine' append_K ?k1y121 ?k2y121 ?k3y121 ?_ ?zy121; (case k1y121 => k_asm); (case k2y121 => k_asm); (case k3y121 => k_upd); (case zy121 => (rw [sizeLine_eq]; simp; omega))); intro _ _ _)) | ((with_reducible show wpAny _ _ (subscriptTail _ _ (Value.ref _) (Value.int _ _)) _ _ _); k_dflt (refine' my_itemL ?Ny122 ?my122 ?xy122 ?h0y122 ?hiy122 ?hny122 ?_; (case Ny122 => k_asm); (case my122 => k_mem); (case xy122 => assumption); (case h0y122 => omega); (case hiy122 => omega); (case hny122 => decide); (try dsimp only))) | ((with_reducible show wpAny _ _ (subscriptTail _ (PySem.Expr.UnaryOp _ _ _) (Value.ref _) (Value.int _ _)) _ _ _); k_dflt (refine' my_last_drop ?Ny123 ?xy123 ?_; (case Ny123 => with_reducible assumption); (case xy123 => with_reducible assumption); intro _)) | ((with_reducible show wpAny _ _ (call (Value.ref 279) _ _) _ _ _); k_dflt (refine' Ctr.use (addh_m _ _ _ _ _ _ _ _ _ _ _ _ _ ?a1y124 ?a2y124 ?a3y124 ?a4y124 ?a5y124 ?a6y124 ?a7y124 ?a8y124 ?a9y124 ?a10y124) ?k1y124 ?k2y124 ?k3y124 ?k4y124 ?k5y124 ?kKy124 ?kdy124 ?kuy124 ?_; (case k1y124 => k_asm); (case k2y124 => k_asm); (case k3y124 => k_asm); (case k4y124 => k_asm); (case k5y124 => k_asm); (case kKy124 => first | exact rfl | assumption); (case kdy124 => ((try dsimp +zetaDelta only); first | exact dm1 (by with_reducible assumption) rfl | ktr_room)); (case kuy124 => ((try dsimp +zetaDelta only); first | exact um1 (by with_reducible assumption) rfl | ktr_units)); (case a6y124 => k_mem); (case a7y124 => k_mem); (case a8y124 => k_updF); (case a5y124 => assumption); (case a1y124 => exact (nm_facts _ (by omega) (by omega)).2.2.2.1); (case a2y124 => exact Nat.le_trans (nm_facts _ (by omega) (by omega)).2.2.2.2 (by decide)); (case a3y124 => (refine' reply_plain ?xy124 ?yy124 ?zy124 ?z2y124; (case xy124 => assumption); (case yy124 => assumption); (case zy124 => first | exact Int.le_trans hbj0 (Int.le_of_lt (by with_reducible assumption)) | omega); (case z2y124 => omega))); (case a4y124 => (refine' Nat.le_trans (reply_len ?xy124 ?yy124 ?zy124 ?z2y124) (by decide); (case xy124 => assumption); (case yy124 => assumption); (case zy124 => first | exact Int.le_trans hbj0 (Int.le_of_lt (by with_reducible assumption)) | omega); (case z2y124 => omega))); (case a9y124 => assumption); (case a10y124 => assumption); (rintro _ _ _ _ _ ⟨_, _⟩ zl9; (try k_lt zl9); (try dsimp only); (try k_fold)))) | ((with_reducible show wpAny _ _ (call (Value.ref 96) _ _) _ _ _); k_dflt (refine' Ctr.use (lt_c _ _ _ _ _ _) ?k1y125 ?k2y125 ?k3y125 ?k4y125 ?k5y125 ?kKy125 ?kdy125 ?kuy125 ?_; (case k1y125 => k_asm); (case k2y125 => k_asm); (case k3y125 => k_asm); (case k4y125 => k_asm); (case k5y125 => k_asm); (case kKy125 => first | exact rfl | assumption); (case kdy125 => ((try dsimp +zetaDelta only); first | exact dm1 (by with_reducible assumption) rfl | ktr_room)); (case kuy125 => ((try dsimp +zetaDelta only); first | exact um1 (by with_reducible assumption) rfl | ktr_units)); (rintro _ _ ⟨_, _⟩; (try dsimp only); (try k_fold)))) | ((with_reducible show wpAny _ _ (call (Value.ref 110) _ _) _ _ _); k_dflt (refine' Ctr.use (sub_c _ _ _ _ _ _) ?k1y126 ?k2y126 ?k3y126 ?k4y126 ?k5y126 ?kKy126 ?kdy126 ?kuy126 ?_; (case k1y126 => k_asm); (case k2y126 => k_asm); (case k3y126 => k_asm); (case k4y126 => k_asm); (case k5y126 => k_asm); (case kKy126 => first | exact rfl | assumption); (case kdy126 => ((try dsimp +zetaDelta only); first | exact dm1 (by with_reducible assumption) rfl | ktr_room)); (case kuy126 => ((try dsimp +zetaDelta only); first | exact um1 (by with_reducible assumption) rfl | ktr_units)); (rintro _ _ _ ⟨_, _⟩; (try dsimp only); (try k_fold)))) | ((with_reducible show wpAny _ _ (call (Value.ref 103) _ _) _ _ _); k_dflt (refine' Ctr.use (add_c _ _ _ _ _ _) ?k1y127 ?k2y127 ?k3y127 ?k4y127 ?k5y127 ?kKy127 ?kdy127 ?kuy127 ?_; (case k1y127 => k_asm); (case k2y127 => k_asm); (case k3y127 => k_asm); (case k4y127 => k_asm); (case k5y127 => k_asm); (case kKy127 => first | exact rfl | assumption); (case kdy127 => ((try dsimp +zetaDelta only); first | exact dm1 (by with_reducible assumption) rfl | ktr_room)); (case kuy127 => ((try dsimp +zetaDelta only); first | exact um1 (by with_reducible assumption) rfl | ktr_units)); (rintro _ _ _ ⟨_, _⟩; (try dsimp only); (try k_fold)))) | ((with_reducible show wpAny _ _ (call (Value.ref 319) _ _) _ _ _); k_dflt (refine' Ctr.use (reply_c _ _ _ _ _ _ _ _ ?q1y128 ?q2y128 ?q3y128 ?q4y128) ?k1y128 ?k2y128 ?k3y128 ?k4y128 ?k5y128 ?kKy128 ?kdy128 ?kuy128 ?_; (case k1y128 => k_asm); (case k2y128 => k_asm); (case k3y128 => k_asm); (case k4y128 => k_asm); (case k5y128 => k_asm); (case kKy128 => first | exact rfl | assumption); (case kdy128 => ((try dsimp +zetaDelta only); first | exact dm1 (by with_reducible assumption) rfl | ktr_room)); (case kuy128 => ((try dsimp +zetaDelta only); first | exact um1 (by with_reducible assumption) rfl | ktr_units)); (case q1y128 => assumption); (case q2y128 => assumption); (case q3y128 => first | exact Int.le_trans hbj0 (Int.le_of_lt (by with_reducible assumption)) | omega); (case q4y128 => omega); (rintro _ _ _ ⟨_, _⟩; (try dsimp only); (try k_fold)))) | ((with_reducible show wpAny _ _ (call (Value.ref 82) _ _) _ _ _); k_dflt (refine' Ctr.use (p229_k _ _ _ _ _ _ _ _ _ _ ?q1y129 ?q5y129) ?k1y129 ?k2y129 ?k3y129 ?k4y129 ?k5y129 ?kKy129 ?kdy129 ?kuy129 ?_; (case k1y129 => k_asm); (case k2y129 => k_asm); (case k3y129 => k_asm); (case k4y129 => k_asm); (case k5y129 => k_asm); (case kKy129 => first | exact rfl | assumption); (case kdy129 => ((try dsimp +zetaDelta only); first | exact dm1 (by with_reducible assumption) rfl | ktr_room)); (case kuy129 => ((try dsimp +zetaDelta only); first | exact um1 (by with_reducible assumption) rfl | ktr_units)); (case q5y129 => k_mem); (case q1y129 => assumption); (rintro _ _ _ _ ⟨_, _⟩; (try dsimp only); (try k_fold)))) | ((with_reducible show wpAny _ _ (call (Value.ref 221) _ _) _ _ _); k_dflt (refine' Ctr.use (getall_m _ _ _ _ _ _ _ _ _ _ ?g1y130 ?g2y130 ?g3y130 ?g4y130 _ ?g5y130 ?g6y130 ?g7y130 ?g8y130 ?g9y130) ?k1y130 ?k2y130 ?k3y130 ?k4y130 ?k5y130 ?kKy130 ?kdy130 ?kuy130 ?_; (case k1y130 => k_asm); (case k2y130 => k_asm); (case k3y130 => k_asm); (case k4y130 => k_asm); (case k5y130 => k_asm); (case kKy130 => first | exact rfl | assumption); (case kdy130 => ((try dsimp +zetaDelta only); first | exact dm1 (by with_reducible assumption) rfl | ktr_room)); (case kuy130 => ((try dsimp +zetaDelta only); first | exact um1 (by with_reducible assumption) rfl | ktr_units)); (case g5y130 => k_mem); (case g6y130 => k_mem); (case g7y130 => k_mem); (case g8y130 => (refine' HL.mono ?sy130 ?ay130; (case ay130 => assumption); (case sy130 => walk_at "my_tail"))); (case g9y130 => assumption); (case g1y130 => exact (nm_facts _ (by omega) (by omega)).1); (case g2y130 => exact (nm_facts _ (by omega) (by omega)).2.1); (case g3y130 => exact (nm_facts _ (by omega) (by omega)).2.2.1); (case g4y130 => assumption); (rintro _ _ _ _ zhv9 ⟨_, _⟩; obtain ⟨_, _, _, _⟩ := lastP_at zhv9 (by assumption) (by omega) (by omega); (try dsimp only); (try k_fold))))); all_goals (try walk_at "fq")) | walk_at "Z")))
      all_goals (try k_data)
      · (try dsimp only)
        rename News _ _ _ (_ :: _ :: _ :: _ :: (I2, oI2) :: _) => hN5
        rename Fr _ _ _ _ => hF5
        rename (_ < _ ∧ _ < _ ∧ _ < _ ∧ _ < _ ∧ _ < _ ∧ _ < _ ∧ _ < _ ∧ AllLt _ _) => hl8
        rename (_ < _ ∧ _ < _ ∧ _ < _ ∧ _ < _ ∧ _ < _ ∧ _ < _ ∧ _ < _ ∧ _ < _ ∧ AllLt _ _) => hl7
        rename (d2.p.getD rj.toNat 0 < _) => hlt9
        rw [← hpo] at hN5 hlt9 hw2 hw3
        obtain ⟨T3, f1, f2, f3, f4, f5, f6, f7, f8, f9⟩ := inner_up2 (hR := hT3) (hf := hfs2) (b' := b + 18 * (i : Int) + 6 * ((j + 1 : Nat) : Int)) (c' := c + 3 * i + (j + 1)) hN5 hI2 hT2 s1 s2 s3 s4' s5 hl8.2.2 hl7.2.2.2 (by omega) (by omega) hrj0 hrj1 (Int.le_trans hbj0 (Int.le_of_lt hlt9)) hw3 hw2 hmk hwo
        refine ⟨_, _, _, _, rfl, hF5, f8, ?_⟩
        unfold Kept
        refine ⟨_, _, _, _, _, _, T3, _, ?rm, rfl, f1, f2, f3, f4, f5, ?_, f7, ?de, ?po, f9⟩
        case rm => repeat' (first | exact ⟨_, _, rfl⟩ | refine rm_skip (by decide) (by decide) ?_ | refine rm_set (r := d2.r) ?_)
        case de => exact de_c hrj hd2 (turnD_up hlt9)
        case po => exact (po_c (fun k => (F ri).getD (3 + k).toNat 0) (t3n hrj0 hrj1 hpl9) hrj0 ho0 hlt9).trans hpo
        · intro p hp
          (first | (revert p; refine all_cons ?_ (fun p hp => ?_)) | rcases List.mem_cons.mp hp with rfl | hp)
          · exact hIi.symm
          (first | (revert p; refine all_cons ?_ (fun p hp => ?_)) | rcases List.mem_cons.mp hp with rfl | hp)
          · exact hIa.symm
          (first | (revert p; refine all_cons ?_ (fun p hp => ?_)) | rcases List.mem_cons.mp hp with rfl | hp)
          · exact hIb.symm
          (first | (revert p; refine all_cons ?_ (fun p hp => ?_)) | rcases List.mem_cons.mp hp with rfl | hp)
          · exact hIc.symm
          · exact f6 p hp
      · (try dsimp only)
        rename News _ _ _ (_ :: _ :: (I2, oI2) :: _) => hN5
        rename Fr _ _ _ _ => hF5
        rename (¬ _ < _) => hlt9
        refine ⟨_, _, _, (I, oI) :: (ah, W.listOf vs2.toArray m1) :: (al, W.listOf lv2.toArray m2) :: (apl, W.listOf pv2.toArray m3) :: T2, rfl, hF5, News.sub hN5 (fun p hp => List.mem_cons_of_mem _ (List.mem_cons_of_mem _ hp)), ?_⟩
        unfold Kept
        refine ⟨vs2, lv2, pv2, m1, m2, m3, T2, d2, ?rm, rfl, hT2, hI2.mono (fun p hp => hp) (by omega) (by omega), s1, s2, s3, s4, s5, ?de, hpo, hfs2⟩
        case rm => repeat' (first | exact ⟨_, _, rfl⟩ | refine rm_skip (by decide) (by decide) ?_ | refine rm_set (r := d2.r) ?_)
        case de => exact de_c hrj hd2 (turnD_dn (by rw [hpo]; exact hlt9))
    · intro I2 m h2 h3 tk2 zj0 F8 N8
      walk_at "fg"
      obtain ⟨vs2, lv2, pv2, m1, m2, m3, T2, d2, hrm2, rfl, hT2, hI2, s1, s2, s3, s4, s5, hd2, hpo, hfs2⟩ := zj0
      revert F8; intro F8; revert N8; intro N8
      have hJa : I ≠ ah := fun e => q4 _ (List.mem_cons_self ..) e.symm
      have hJb : I ≠ al := fun e => q4 _ (List.mem_cons_of_mem _ (List.mem_cons_self ..)) e.symm
      have hJc : I ≠ apl := fun e => q4 _ (List.mem_cons_of_mem _ (List.mem_cons_of_mem _ (List.mem_cons_self ..))) e.symm
      refine letF (G := zG) F8 ?_; clear F8; intro mT F8
      walk_at "ug"
      (repeat' (first | tb_start | (walk_at "S0"; first | (k_end; wrow_close) | walk_at "Z")))
      all_goals (try k_data)
      refine ⟨_, _, _, (ah, W.listOf vs2.toArray m1) :: (al, W.listOf lv2.toArray m2) :: (apl, W.listOf pv2.toArray m3) :: T2, rfl, F8, N8, ?_⟩
      unfold Kept
      refine ⟨vs2, lv2, pv2, m1, m2, m3, T2, d2, ?rm, rfl, fun p hp => hT2 p (hT9 p hp), hI2.mono (fun p hp => hp) (by omega) (by omega), s1, s2, s3, ?_, ?de, hfs2⟩
      case rm => exact rm_widen (by decide) hrm2 (rm_skip (by decide) (by decide) (rm_skip (by decide) (by decide) (rm_skip (by decide) (by decide) (rm_skip (by decide) (by decide) ⟨_, _, rfl⟩))))
      case de => exact de_o hri hd2 hd'
      · intro p hp
        (first | (revert p; refine all_cons ?_ (fun p hp => ?_)) | rcases List.mem_cons.mp hp with rfl | hp)
        · exact hJa.symm
        (first | (revert p; refine all_cons ?_ (fun p hp => ?_)) | rcases List.mem_cons.mp hp with rfl | hp)
        · exact hJb.symm
        (first | (revert p; refine all_cons ?_ (fun p hp => ?_)) | rcases List.mem_cons.mp hp with rfl | hp)
        · exact hJc.symm
        · exact s5 p hp
  · intro I m news h tk zj0 F9 N9
    walk_at "fg"
    obtain ⟨vs', lv', pv', n1', n2', n3', T, d', ⟨tr, u, rfl⟩, rfl, hT9, hI', q1, q2, q3, q4, hd', hfs⟩ := zj0
    revert F9; intro F9; revert N9; intro N9
    subst hd'
    refine letF (G := zG) F9 ?_; clear F9; intro mT F9
    walk_at "ug"
    (repeat' (first | tb_start | (walk_at "S0"; first | (k_end; wrow_close) | walk_at "Z")))
    all_goals (try k_data)
    exact hret vs' lv' pv' n1' n2' n3' T _ _ _ hT9 hI' q1 q2 q3 hfs ⟨by k_asm, by k_asm⟩
end
section
open PySem PySem.W PyProof.Rows PySem.Calls PySem.Spec
structure PsOk (ps : List (PySem.Str × PySem.Str)) : Prop where
  nm : ∀ q ∈ ps, ∃ j : Int, 0 ≤ j ∧ j < 3 ∧ Txt.lower q.1 = Txt.lower (nmK j)
  pl : ∀ q ∈ ps, Plain q.1 ∧ Plain q.2
  z : ∀ q ∈ ps, q.1.length ≤ 10
theorem PsOk.add {ps : List (PySem.Str × PySem.Str)} {q : PySem.Str × PySem.Str} (h : PsOk ps) {j : Int} (h0 : 0 ≤ j) (h1 : j < 3) (hn : Txt.lower q.1 = Txt.lower (nmK j)) (hp : Plain q.1 ∧ Plain q.2) (hz : q.1.length ≤ 10) : PsOk (ps ++ [q]) where
  nm := fun p hp => by
    rcases List.mem_append.mp hp with hp | hp
    · exact h.nm p hp
    · rw [List.mem_singleton.mp hp]; exact ⟨j, h0, h1, hn⟩
  pl := fun p hq => by
    rcases List.mem_append.mp hq with hq | hq
    · exact h.pl p hq
    · rw [List.mem_singleton.mp hq]; exact hp
  z := fun p hq => by
    rcases List.mem_append.mp hq with hq | hq
    · exact h.z p hq
    · rw [List.mem_singleton.mp hq]; exact hz
structure OkD (ps0 : List (PySem.Str × PySem.Str)) (b : Int) (d : RD) : Prop where
  l : d.p.length = 3
  b : ∀ k : Nat, k < 3 → 0 ≤ d.p.getD k 0 ∧ d.p.getD k 0 ≤ b
  ok : PsOk d.ps
  pre : ∃ e, d.ps = ps0 ++ e
theorem OkD.up {ps0 : List (PySem.Str × PySem.Str)} {b b' : Int} {d : RD} (h : OkD ps0 b d) (hb : b ≤ b') : OkD ps0 b' d := ⟨h.l, fun k hk => ⟨(h.b k hk).1, Int.le_trans (h.b k hk).2 hb⟩, h.ok, h.pre⟩
theorem nmk_low : ∀ j : Int, 0 ≤ j → j < 3 → Txt.lower (nmk j) = Txt.lower (nmK j) := by
  intro j h0 h1
  have : j = 0 ∨ j = 1 ∨ j = 2 := by omega
  rcases this with rfl | rfl | rfl <;> decide +kernel
section
variable {mk : PySem.Str} {F : Int → List Int} {ord : List Int} {wd : Int → PySem.Str} {ps0 : List (PySem.Str × PySem.Str)}
variable (hm : OkM mk) (hwd : ∀ k : Int, 0 ≤ k → k < 3 → OkW (wd k)) (hfb : ∀ i k : Int, 0 ≤ i → i < 3 → 0 ≤ k → k < 6 → 0 ≤ (F i).getD k.toNat 0 ∧ (F i).getD k.toNat 0 ≤ 6) (hown : ∀ i : Int, 0 ≤ i → i < 3 → 0 ≤ ord.getD i.toNat 0 ∧ ord.getD i.toNat 0 < 3)
include hm hwd hfb hown
theorem turn_okd {i j : Int} (i0 : 0 ≤ i) (i1 : i < 3) (j0 : 0 ≤ j) (j1 : j < 3) {b : Int} {d : RD} (hb : b < 990) (h : OkD ps0 b d) : OkD ps0 (b + 6) (turnD mk F ord wd i j d) := by
  obtain ⟨o0, o1⟩ := hown i i0 i1
  obtain ⟨f0, f1⟩ := hfb i (3 + ord.getD i.toNat 0) i0 i1 (by omega) (by omega)
  obtain ⟨f2, f3⟩ := hfb i (3 + j) i0 i1 (by omega) (by omega)
  obtain ⟨p0, p1⟩ := h.b (ord.getD i.toNat 0).toNat (by omega)
  obtain ⟨q0, q1⟩ := h.b j.toNat (by omega)
  unfold turnD
  simp only
  split
  · rename_i hlt
    have w0 : 0 ≤ d.p.getD (ord.getD i.toNat 0).toNat 0 + (F i).getD (3 + ord.getD i.toNat 0).toNat 0 - (F i).getD (3 + j).toNat 0 := by omega
    have w1 : d.p.getD (ord.getD i.toNat 0).toNat 0 + (F i).getD (3 + ord.getD i.toNat 0).toNat 0 - (F i).getD (3 + j).toNat 0 ≤ b + 6 := by omega
    obtain ⟨_, _, _, n4, n5⟩ := nm_facts j j0 j1
    refine ⟨by rw [List.length_set]; exact h.l, fun k hk => ?_, h.ok.add j0 j1 (nmk_low j j0 j1) ⟨n4, reply_plain hm (hwd _ o0 o1) w0 (by omega)⟩ n5, ?_⟩
    · rw [getD_set _ _ _ _ (by rw [h.l]; omega)]
      split
      · exact ⟨w0, w1⟩
      · have := h.b k hk; omega
    · obtain ⟨e, he⟩ := h.pre
      exact ⟨_, by rw [he, List.append_assoc]⟩
  · exact h.up (by omega)
theorem inner_okd {i : Int} (i0 : 0 ≤ i) (i1 : i < 3) {b : Int} {d : RD} (hb : b < 970) (h : OkD ps0 b d) : ∀ n : Nat, n ≤ 3 → OkD ps0 (b + 6 * n) (innerD mk F ord wd i n d)
  | 0, _ => h.up (by omega)
  | n + 1, hn => (turn_okd hm hwd hfb hown i0 i1 (by omega) (by omega) (by omega) (inner_okd i0 i1 hb h n (by omega))).up (by omega)
theorem outer_okd {b : Int} {d : RD} (hb : b < 900) (h : OkD ps0 b d) : ∀ n : Nat, n ≤ 3 → OkD ps0 (b + 18 * n) (outerD mk F ord wd n d)
  | 0, _ => h.up (by omega)
  | n + 1, hn => (inner_okd hm hwd hfb hown (by omega) (by omega) (by omega) (outer_okd hb h n (by omega)) 3 (by omega)).up (by omega)
theorem dR_okd {b : Int} {d : RD} (hb : b < 900) (h : OkD ps0 b d) : OkD ps0 (b + 54) (dR mk F ord wd d) :=
  (outer_okd hm hwd hfb hown (d := { d with r := 0 }) hb ⟨h.l, h.b, h.ok, h.pre⟩ 3 (by omega)).up (by omega)
end
theorem sel_app (a : PySem.Str) (ps qs : List (PySem.Str × PySem.Str)) : sel a (ps ++ qs) = sel a ps ++ sel a qs := by simp [sel]
theorem sel_rid_ne {a b : PySem.Str} (h : a ≠ b) (ps : List (PySem.Str × PySem.Str)) : sel a (rid b ps) = sel a ps := by
  unfold sel rid
  rw [List.filter_filter]
  congr 1
  refine List.filter_congr fun p _ => ?_
  by_cases e : Txt.lower p.1 = a
  · simp [e, h]
  · simp [e]
theorem sel_rid_self (a : PySem.Str) (ps : List (PySem.Str × PySem.Str)) : sel a (rid a ps) = [] := by
  unfold sel rid
  rw [List.filter_filter]
  simp
theorem rid_app (a : PySem.Str) (ps qs : List (PySem.Str × PySem.Str)) : rid a (ps ++ qs) = rid a ps ++ rid a qs := by simp [rid]
theorem rid_nil {a : PySem.Str} {ps : List (PySem.Str × PySem.Str)} (h : ∀ q ∈ ps, Txt.lower q.1 = a) : rid a ps = [] := by
  unfold rid
  refine List.filter_eq_nil_iff.mpr fun q hq => ?_
  simp [h q hq]
theorem rid_one_ne {a : PySem.Str} {q : PySem.Str × PySem.Str} (h : Txt.lower q.1 ≠ a) : rid a [q] = [q] := by simp [rid, h]
theorem low_ne : ∀ i j : Int, 0 ≤ i → i < 3 → 0 ≤ j → j < 3 → i ≠ j → Txt.lower (nmK i) ≠ Txt.lower (nmK j) := by
  intro i j i0 i1 j0 j1 h
  have e1 : i = 0 ∨ i = 1 ∨ i = 2 := by omega
  have e2 : j = 0 ∨ j = 1 ∨ j = 2 := by omega
  rcases e1 with rfl | rfl | rfl <;> rcases e2 with rfl | rfl | rfl <;> first | exact absurd rfl h | decide +kernel
def tp (x : Int → PySem.Str) (ps : List (PySem.Str × PySem.Str)) : Nat → List (PySem.Str × PySem.Str)
  | 0 => ps
  | i + 1 => rid (Txt.lower (nmK (2 - (i : Int)))) (tp x ps i) ++ [(nmK (2 - (i : Int)), x (2 - (i : Int)))]
theorem tp_first {x : Int → PySem.Str} {ps : List (PySem.Str × PySem.Str)} {k : Int} (k0 : 0 ≤ k) (k1 : k < 3) : ∀ i : Nat, (i : Int) ≤ 2 - k → sel (Txt.lower (nmK k)) (tp x ps i) = sel (Txt.lower (nmK k)) ps
  | 0, _ => rfl
  | i + 1, h => by
    have hn := low_ne k (2 - (i : Int)) k0 k1 (by omega) (by omega) (by omega)
    show sel _ (rid _ (tp x ps i) ++ [_]) = _
    rw [sel_app, sel_rid_ne hn, tp_first k0 k1 i (by omega)]
    have : sel (Txt.lower (nmK k)) [(nmK (2 - (i : Int)), x (2 - (i : Int)))] = [] := by
      simp [sel, hn.symm]
    rw [this, List.append_nil]
theorem tp_last {x : Int → PySem.Str} {ps : List (PySem.Str × PySem.Str)} (i : Nat) : sel (Txt.lower (nmK (2 - (i : Int)))) (tp x ps (i + 1)) = [x (2 - (i : Int))] := by
  show sel _ (rid _ (tp x ps i) ++ [_]) = _
  rw [sel_app, sel_rid_self]
  simp [sel]
theorem tp_end {x : Int → PySem.Str} {ps : List (PySem.Str × PySem.Str)} (h : PsOk ps) : tp x ps 3 = [(nmK 2, x 2), (nmK 1, x 1), (nmK 0, x 0)] := by
  show rid (Txt.lower (nmK 0)) (rid (Txt.lower (nmK 1)) (rid (Txt.lower (nmK 2)) ps ++ [(nmK 2, x 2)]) ++ [(nmK 1, x 1)]) ++ [(nmK 0, x 0)] = _
  have e : rid (Txt.lower (nmK 0)) (rid (Txt.lower (nmK 1)) (rid (Txt.lower (nmK 2)) ps)) = [] := by
    refine rid_nil fun q hq => ?_
    unfold rid at hq
    simp only [List.mem_filter] at hq
    obtain ⟨⟨hq, h2⟩, h1⟩ := hq
    obtain ⟨j, j0, j1, hj⟩ := h.nm q hq
    have : j = 0 ∨ j = 1 ∨ j = 2 := by omega
    rcases this with rfl | rfl | rfl
    · exact hj
    · rw [hj] at h1; simp at h1
    · rw [hj] at h2; simp at h2
  rw [rid_app, rid_app, rid_app, e, rid_one_ne (q := (nmK 2, x 2)) (low_ne 2 1 (by decide) (by decide) (by decide) (by decide) (by decide)), rid_one_ne (q := (nmK 2, x 2)) (low_ne 2 0 (by decide) (by decide) (by decide) (by decide) (by decide)), rid_one_ne (q := (nmK 1, x 1)) (low_ne 1 0 (by decide) (by decide) (by decide) (by decide) (by decide))]
  rfl
theorem rid_len (a : PySem.Str) (ps : List (PySem.Str × PySem.Str)) : (rid a ps).length ≤ ps.length := List.length_filter_le ..
theorem tp_len {x : Int → PySem.Str} {ps : List (PySem.Str × PySem.Str)} : ∀ i : Nat, (tp x ps i).length ≤ ps.length + i
  | 0 => Nat.le_refl _
  | i + 1 => by
    show (rid _ (tp x ps i) ++ [_]).length ≤ _
    rw [List.length_append]
    have := rid_len (Txt.lower (nmK (2 - (i : Int)))) (tp x ps i)
    have := tp_len (x := x) (ps := ps) i
    show _ + 1 ≤ _
    omega
theorem tp_z {x : Int → PySem.Str} {ps : List (PySem.Str × PySem.Str)} (h : ∀ q ∈ ps, q.1.length ≤ 10) : ∀ i : Nat, i ≤ 3 → ∀ q ∈ tp x ps i, q.1.length ≤ 10
  | 0, _, q, hq => h q hq
  | i + 1, hi, q, hq => by
    rcases List.mem_append.mp hq with hq | hq
    · exact tp_z h i (by omega) q ((List.mem_filter.mp hq).1)
    · rw [List.mem_singleton.mp hq]; exact Nat.le_trans (Nat.le_of_eq (show (nmK (2 - (i : Int))).length = 1 from rfl)) (by decide)
theorem sel_pre {r : Int → PySem.Str} {e : List (PySem.Str × PySem.Str)} {k : Int} (k0 : 0 ≤ k) (k1 : k < 3) : (sel (Txt.lower (nmK k)) ([(nmK 0, r 0), (nmK 1, r 1), (nmK 2, r 2)] ++ e)).head? = some (r k) := by
  have : k = 0 ∨ k = 1 ∨ k = 2 := by omega
  have n01 := low_ne 0 1 (by decide) (by decide) (by decide) (by decide) (by decide)
  have n02 := low_ne 0 2 (by decide) (by decide) (by decide) (by decide) (by decide)
  have n12 := low_ne 1 2 (by decide) (by decide) (by decide) (by decide) (by decide)
  rcases this with rfl | rfl | rfl <;> simp [sel, n01, n02, n12]
end
section
open PySem PySem.W PyProof.Rows PySem.Calls PySem.Spec
theorem rtItems_inv {prog : Program} {w : World} {A : Around} {E : Value → Shared → Prop} {s : Shared} {env : Env} {h₀ : Heap} {target : PySem.Expr} {body : List Stmt} {Q : Flow → Shared → Prop} {I : Addr} {a₀ : Int} {n : Nat}
    (J : Nat → (PySem.Str → Option Value) → LLed → Prop)
    (hJ : ∀ i m news, J i m news → ∀ p ∈ news, p.1 ≠ I)
    (turn : ∀ (i : Nat) (m : PySem.Str → Option Value) (news : LLed) (h : Heap) (tk : Nat) (t : Tok) (oI : Obj), i < n → J i m news → Fr h₀ env.locals h m → News h₀ env.locals h ((I, oI) :: news) →
      wpAny (model prog w) A (assign target env (.int (a₀ + (i : Int)) t)) (fun _ s₂ => wpAny (model prog w) A (execs body env) (fun f s' => match f with
        | .ret v => Q (.ret v) s'
        | .brk => Q .next s'
        | _ => TEnd h₀ env.locals I oI s s' (J (i + 1))) E s₂) E { s with heap := h, toks := tk })
    (done : ∀ m news h tk, J n m news → Fr h₀ env.locals h m → News h₀ env.locals h news → Q .next { s with heap := h, toks := tk }) :
    ∀ k i m news, i + k = n → J i m news → ItemsRest prog w A E h₀ env target body Q s [(I, "range_iterator")] [] (((List.range n).map fun i : Nat => Itm.tok (fun t => Value.int (a₀ + (i : Int)) t)).drop i) m news := by
  intro k
  induction k with
  | zero =>
    intro i m news e hj
    rw [List.drop_of_length_le (by simp; omega)]
    refine ItemsRest.zero fun h tk F N => done m news h tk ?_ F N
    have e2 : i = n := by omega
    rw [← e2]; exact hj
  | succ k ih =>
    intro i m news e hj
    have hlt : i < n := ik_lt e
    have hd : ((List.range n).map fun i : Nat => Itm.tok (fun t => Value.int (a₀ + (i : Int)) t)).drop i = Itm.tok (fun t => Value.int (a₀ + (i : Int)) t) :: ((List.range n).map fun i : Nat => Itm.tok (fun t => Value.int (a₀ + (i : Int)) t)).drop (i + 1) := by
      rw [List.drop_eq_getElem_cons (by simpa using hlt)]
      simp
    rw [hd]
    refine ItemsRest.tok fun t h tk F => AllObj.cons fun oI hc => AllObj.nil fun N => ?_
    refine wpAny_mono (turn i m news h tk t oI hlt hj F N) (fun _ s₂ q => ?_) fun _ _ x => x
    refine wpAny_mono q (fun f s' r => ?_) fun _ _ x => x
    have fin : TEnd h₀ env.locals I oI s s' (J (i + 1)) →
        UnrEndW h₀ env.locals { s with heap := h, toks := tk } [(I, oI)] (fun m' n' => SubL [] n' ∧ ItemsRest prog w A E h₀ env target body Q s [(I, "range_iterator")] [] (((List.range n).map fun i : Nat => Itm.tok (fun t => Value.int (a₀ + (i : Int)) t)).drop (i + 1)) m' n') s' := by
      rintro ⟨h', tk', m', news', rfl, F', N', hj'⟩
      refine ⟨h', tk', m', news', rfl, F', N', fun p hp q hq => ?_, trivial, ih (i + 1) m' news' (ik_s e) hj'⟩
      rw [List.mem_singleton.mp hq]
      exact hJ _ _ _ hj' p hp
    cases f with
    | ret v => exact r
    | brk => exact r
    | next => exact fin r
    | cont => exact fin r
theorem rt_inv {prog : Program} {w : World} {A : Around} {E : Value → Shared → Prop} {s : Shared} {env : Env} {h₀ : Heap} {x : PySem.Str} {px : Pos} {body : List Stmt} {Q : Flow → Shared → Prop} {r : Addr} {a₀ b₀ : Int} {t₀ u₀ v₀ : Tok} {n : Nat} {m₀ : PySem.Str → Option Value} {news₀ : LLed}
    (hh : A.handled = none) (hr : IsRange s.heap r a₀ b₀ 1 t₀ u₀ v₀) (hsmall : PySem.Builtin.Range.small a₀ b₀ 1 = true) (hn : PySem.Builtin.Range.rangeSize a₀ b₀ 1 = (n : Int)) (F : Fr h₀ env.locals s.heap m₀) (N : News h₀ env.locals s.heap news₀)
    (J : (PySem.Str → Option Value) → LLed → Addr → Nat → (PySem.Str → Option Value) → LLed → Prop) (h0 : ∀ I, (∀ p ∈ news₀, p.1 < I) → J m₀ news₀ I 0 m₀ news₀)
    (hJ : ∀ I i m news, J m₀ news₀ I i m news → ∀ p ∈ news, p.1 ≠ I)
    (turn : ∀ (I : Addr) (i : Nat) (k : Int) (m : PySem.Str → Option Value) (news : LLed) (h : Heap) (tk : Nat) (t : Tok) (oI : Obj), i < n → k = a₀ + (i : Int) → J m₀ news₀ I i m news → Fr h₀ env.locals h m → News h₀ env.locals h ((I, oI) :: news) →
      wpAny (model prog w) A (assign (.Name x px) env (.int k t)) (fun _ s₂ => wpAny (model prog w) A (execs body env) (fun f s' => match f with
        | .ret v => Q (.ret v) s'
        | .brk => Q .next s'
        | _ => TEnd h₀ env.locals I oI s s' (J m₀ news₀ I (i + 1))) E s₂) E { s with heap := h, toks := tk })
    (done : ∀ I m news h tk, J m₀ news₀ I n m news → Fr h₀ env.locals h m → News h₀ env.locals h news → Q .next { s with heap := h, toks := tk }) :
    wpAny (model prog w) A (pyIter (.ref r)) (fun it s₂ => TurnsAt prog w A h₀ env (.Name x px) body Q E it s₂) E s := by
  have W : Walks prog w A s.heap.objs.size [s.heap.objs.size] [s.heap.objs.size] n (fun i v => i < n ∧ ∃ t, v = .int (a₀ + i * 1) t)
      (fun i h => IsRangeIter h s.heap.objs.size (a₀ + (i : Nat) * 1) ((n : Int) - (i : Nat)) 1) := (Walks.range hh _ a₀ 1 n).bound
  refine wpAny_pyIter_range hr hsmall ?_
  have rest₀ := rtItems_inv (prog := prog) (w := w) (A := A) (E := E) (s := s) (env := env) (h₀ := h₀) (target := .Name x px) (body := body) (Q := Q) (I := s.heap.objs.size) (a₀ := a₀) (n := n) (J m₀ news₀ s.heap.objs.size) (hJ _) (fun i m news h tk t oI hi => turn _ i _ m news h tk t oI hi rfl) (done _) n 0 m₀ news₀ (by omega) (h0 _ fun p hp => Heap.lt_size (N p hp).1)
  rw [List.drop_zero] at rest₀
  refine ktu_core (tk0 := s.toks) (keep := []) (KTurns.ofWalks W fun i v s Q E st q => wpAny_pure q) (by simp) (fun i v h hp => ⟨.tok (fun t => Value.int (a₀ + (i : Int)) t), ?_, ?_⟩) (fun i h st => ?_) (fun b hb => ?_) (fun b hb => by simpa using hb) (fun b hb => ?_) ?_ (fun p hp hI => ?_) (by show IsRangeIter _ _ _ _ _; rw [hn]; simpa using Heap.get?_push_size _ rfl) (F.push _) (fun p hp => ⟨Heap.get?_push_of_some _ (N p hp).1, (N p hp).2⟩) trivial rest₀
  · simp [hp.1]
  · obtain ⟨_, t, rfl⟩ := hp
    exact ⟨t, by rw [Int.mul_one]⟩
  · have q : h.get? s.heap.objs.size = some _ := st
    exact ⟨[(s.heap.objs.size, _)], ⟨⟨rfl, rfl⟩, trivial⟩, fun p hp => by rw [List.mem_singleton.mp hp]; exact q⟩
  · have hb' : b = s.heap.objs.size := by simpa using hb
    rw [hb']
    exact ⟨List.mem_cons_self .., next_is_new F⟩
  · exact .inl (by simpa using hb)
  · intro hI
    exact absurd F.ns.lt ((List.mem_singleton.mp hI) ▸ Nat.lt_irrefl _)
  · exact absurd (Heap.lt_size (N p hp).1) ((List.mem_singleton.mp hI) ▸ Nat.lt_irrefl _)
end
section
open PySem PySem.W PyProof.Rows PySem.Calls PySem.Spec
theorem least_start {h₀ h : Heap} {L lS r1 r2 r3 L0 : Addr} {S x1 x2 x3 o1 o2 o3 o4 : Obj} {news : LLed} (N : News h₀ L h ((lS, S) :: (r3, x3) :: (r2, x2) :: (r1, x1) :: (L0 + 1 + 1 + 1 + 1, o4) :: (L0 + 1 + 1 + 1, o3) :: (L0 + 1 + 1, o2) :: (L0 + 1, o1) :: news))
    (qS : r3 < lS ∧ r2 < lS ∧ r1 < lS ∧ L0 + 1 + 1 + 1 + 1 < lS ∧ L0 + 1 + 1 + 1 < lS ∧ L0 + 1 + 1 < lS ∧ L0 + 1 < lS ∧ AllLt lS news) (hlt : ∀ p ∈ news, p.1 < L0) :
    Ex1 fun T : LLed => An10 (∀ p ∈ news, p ∈ T) ((L0 + 1 + 1, o2) ∈ T) ((L0 + 1, o1) ∈ T) (∀ p ∈ T, p.1 ≠ lS) (∀ p ∈ T, p.1 ≠ L0 + 1 + 1 + 1) (∀ p ∈ T, p.1 ≠ L0 + 1 + 1 + 1 + 1) (lS ≠ L0 + 1 + 1 + 1) (lS ≠ L0 + 1 + 1 + 1 + 1) (L0 + 1 + 1 + 1 ≠ L0 + 1 + 1 + 1 + 1) (News h₀ L h ((lS, S) :: (L0 + 1 + 1 + 1, o3) :: (L0 + 1 + 1 + 1 + 1, o4) :: T)) := by
  obtain ⟨s3, s2, s1, c4, c3, c2, c1, cn⟩ := qS
  refine ⟨(L0 + 1 + 1, o2) :: (L0 + 1, o1) :: news, fun p hp => by repeat (first | exact hp | apply List.Mem.tail), by repeat (first | exact List.Mem.head _ | apply List.Mem.tail), by repeat (first | exact List.Mem.head _ | apply List.Mem.tail), fun p hp => ?_, fun p hp => ?_, fun p hp => ?_, (Nat.ne_of_lt c3).symm, (Nat.ne_of_lt c4).symm, Nat.ne_of_lt (Nat.lt_succ_self _), News.sub N fun p hp => ?_⟩
  · revert p; refine all_cons ?_ (all_cons ?_ (fun p hp => ?_))
    · exact Nat.ne_of_lt c2
    · exact Nat.ne_of_lt c1
    · exact Nat.ne_of_lt (allLt_all cn p hp)
  · revert p; refine all_cons ?_ (all_cons ?_ (fun p hp => ?_))
    · exact Nat.ne_of_lt (Nat.lt_succ_self _)
    · exact Nat.ne_of_lt (Nat.lt_trans (Nat.lt_succ_self _) (Nat.lt_succ_self _))
    · exact Nat.ne_of_lt (Nat.lt_trans (hlt p hp) (Nat.lt_trans (Nat.lt_succ_self _) (Nat.lt_trans (Nat.lt_succ_self _) (Nat.lt_succ_self _))))
  · revert p; refine all_cons ?_ (all_cons ?_ (fun p hp => ?_))
    · exact Nat.ne_of_lt (Nat.lt_trans (Nat.lt_succ_self _) (Nat.lt_succ_self _))
    · exact Nat.ne_of_lt (Nat.lt_trans (Nat.lt_succ_self _) (Nat.lt_trans (Nat.lt_succ_self _) (Nat.lt_succ_self _)))
    · exact Nat.ne_of_lt (Nat.lt_trans (hlt p hp) (Nat.lt_trans (Nat.lt_succ_self _) (Nat.lt_trans (Nat.lt_succ_self _) (Nat.lt_trans (Nat.lt_succ_self _) (Nat.lt_succ_self _)))))
  · revert p; (repeat (refine sub_cons (by repeat (first | exact List.Mem.head _ | apply List.Mem.tail)) ?_)); (repeat (first | exact fun _ h => h | refine sub_tail ?_))
theorem my_setAt {prog : Program} {w : World} {A : Around} {E : Value → Shared → Prop} {s : Shared} {h₀ : Heap} {L D : Addr} {m : PySem.Str → Option Value} {news news' : LLed} {vs : List Value} {n : Nat} {k : Int} {t : Tok} {v : Value} {Q : Unit → Shared → Prop}
    (F : Fr h₀ L s.heap m) (N : News h₀ L s.heap news) (U : Upd D (W.listOf vs.toArray n) (W.listOf (vs.set k.toNat v).toArray n) news news') (h0 : 0 ≤ k) (h1 : k < vs.length) (hfit : k < 2 ^ 63)
    (h : ∀ h', Fr h₀ L h' m → News h₀ L h' news' → Q () { s with heap := h' }) :
    wpAny (model prog w) A (setItem (.ref D) (.int k t) v) Q E s := by
  obtain ⟨pre, post, rfl, rfl, a, b⟩ := U.split
  have z := N (D, W.listOf vs.toArray n) (List.mem_append.mpr (.inr (.head _)))
  have hs : vs.toArray.size = vs.length := by rw [List.size_toArray]
  refine ki_setAt z.1 h0 hfit (by omega) (h _ (F.change (Heap.SameBut.update ..) z.2.1 z.2.2) (ki_turn _ N a b ?_ ?_))
  · show vs.toArray.setIfInBounds k.toNat v = (vs.set k.toNat v).toArray
    apply Array.toList_inj.mp
    simp
  · simp
theorem row_ints {F : Int → List Int} {ord : List Int} {i : Nat} {ys : List Value} (h0 : 0 ≤ ord.getD i 0)
    (h : IntsAre ys (List.map (fun k' : Int => (F (i : Int)).getD (3 + ord.getD ((i : Int)).toNat 0).toNat 0 - (F (i : Int)).getD (3 + k').toNat 0) (rangeKs 0 (3 - 0 : Int).toNat))) : IntsAre ys [svd F ord i 0, svd F ord i 1, svd F ord i 2] := by
  have e : (3 + ord.getD ((i : Int)).toNat 0).toNat = 3 + (ord.getD i 0).toNat := by
    show (3 + ord.getD i 0).toNat = _
    omega
  rw [e] at h
  exact h
theorem least_reorder {h₀ h : Heap} {L : Addr} {a b c d e : Addr × Obj} {T : LLed} (N : News h₀ L h (a :: b :: c :: d :: e :: T)) : News h₀ L h (b :: c :: d :: e :: a :: T) :=
  News.sub N (sub_cons (.tail _ (.head _)) (sub_cons (.tail _ (.tail _ (.head _))) (sub_cons (.tail _ (.tail _ (.tail _ (.head _)))) (sub_cons (.tail _ (.tail _ (.tail _ (.tail _ (.head _))))) (sub_cons (.head _) (sub_tail (sub_tail (sub_tail (sub_tail (sub_tail fun _ h => h))))))))))
def aO : Nat → Int
  | 0 => 1
  | _ => 0
def bO : Nat → Int
  | 2 => 1
  | _ => 2
def svL (F : Int → List Int) (ord : List Int) (iv : Nat → Nat) (k : Int) : List Int := [sv F ord iv k.toNat 0, sv F ord iv k.toNat 1, sv F ord iv k.toNat 2]
theorem IntsAre_to {vs : List Value} {xs ys : List Int} (h : IntsAre vs xs) (e : ys = xs) : IntsAre vs ys := e ▸ h
theorem least_rows {ord : List Int} {iv : Nat → Nat} {F : Int → List Int} {sv' : List Value} {T' : LLed} (hv : Inv ord iv)
    (hd : ∀ i', i' < 3 → ∃ a vs kk, sv'[oOf ord i']? = some (.ref a) ∧ (a, W.listOf vs.toArray kk) ∈ T' ∧ IntsAre vs [svd F ord i' 0, svd F ord i' 1, svd F ord i' 2]) :
    Ex3 fun (rw : Int → Addr) (rvs : Int → List Value) (rk : Int → Nat) => An2 (LV sv' 3 fun k => .ref (rw k)) (∀ k, 0 ≤ k → k < 3 → (rw k, W.listOf (rvs k).toArray (rk k)) ∈ T' ∧ IntsAre (rvs k) (svL F ord iv k) ∧ (svL F ord iv k).length = 3) := by
  have key : ∀ k, k < 3 → Ex3 fun (a : Addr) (vs : List Value) (kk : Nat) => An3 (sv'[k]? = some (.ref a)) ((a, W.listOf vs.toArray kk) ∈ T') (IntsAre vs [sv F ord iv k 0, sv F ord iv k 1, sv F ord iv k 2]) := fun k hk => by
    obtain ⟨a, vs, kk, x, m, i⟩ := hd _ (hv.lt k hk)
    rw [hv.o k hk] at x
    exact ⟨a, vs, kk, x, m, i⟩
  obtain ⟨a0, v0, k0, x0, m0, i0⟩ := key 0 (by decide)
  obtain ⟨a1, v1, k1, x1, m1, i1⟩ := key 1 (by decide)
  obtain ⟨a2, v2, k2, x2, m2, i2⟩ := key 2 (by decide)
  refine ⟨at3 a0 a1 a2, at3 v0 v1 v2, at3 k0 k1 k2, fun k h0 h1 => ?_, fun k h0 h1 => ?_⟩
  · rcases (show k = 0 ∨ k = 1 ∨ k = 2 by omega) with rfl | rfl | rfl
    · exact x0
    · exact x1
    · exact x2
  · rcases (show k = 0 ∨ k = 1 ∨ k = 2 by omega) with rfl | rfl | rfl
    · exact ⟨m0, i0, rfl⟩
    · exact ⟨m1, i1, rfl⟩
    · exact ⟨m2, i2, rfl⟩
theorem tk_in {i : Nat} (h : i < 3) : List.take (i + 1) [0, 1, (2 : Int)] = List.take i [0, 1, 2] ++ [(i : Int)] := by rcases three h with rfl | rfl | rfl <;> rfl
theorem flt_in {i j : Nat} (h : i < 3) (e : (i : Int) ≠ (j : Int)) : ((List.take (i + 1) [0, 1, 2]).filter fun x : Int => x != (j : Int)) = ((List.take i [0, 1, 2]).filter fun x : Int => x != (j : Int)) ++ [(i : Int)] := by
  rw [tk_in h, List.filter_append, List.filter_cons_of_pos (p := fun x : Int => x != (j : Int)) (bne_iff_ne.mpr e)]
  rfl
theorem flt_out {i j : Nat} (h : i < 3) (e : (i : Int) = (j : Int)) : ((List.take (i + 1) [0, 1, 2]).filter fun x : Int => x != (j : Int)) = (List.take i [0, 1, 2]).filter fun x : Int => x != (j : Int) := by
  rw [tk_in h, List.filter_append, List.filter_cons_of_neg (p := fun x : Int => x != (j : Int)) (by rw [e, bne_self_eq_false]; exact Bool.false_ne_true)]
  exact List.append_nil _
theorem flt_two {j : Nat} (h : j < 3) : (([0, 1, 2] : List Int).filter fun x : Int => x != (j : Int)) = [aO j, bO j] := by rcases three h with rfl | rfl | rfl <;> rfl
theorem ab_ok {j : Nat} (h : j < 3) : (0 ≤ aO j ∧ aO j < 3) ∧ 0 ≤ bO j ∧ bO j < 3 := by rcases three h with rfl | rfl | rfl <;> decide
theorem tk_least {s : Nat → Nat → Int} {j : Nat} (h : j < 3) : List.take (j + 1) [leastB s 0, leastB s 1, leastB s 2] = List.take j [leastB s 0, leastB s 1, leastB s 2] ++ [leastB s j] := by rcases three h with rfl | rfl | rfl <;> rfl
theorem least_start2 {h₀ h : Heap} {L lL lS c3 c4 : Addr} {S o l o4 : Obj} {T : LLed} (N : News h₀ L h ((lL, l) :: (lS, S) :: (c3, o) :: (c4, o4) :: T)) (q : lS < lL ∧ c3 < lL ∧ c4 < lL ∧ AllLt lL T) (hS4 : lS ≠ c4) (h34 : c3 ≠ c4) (hT : ∀ p ∈ T, p.1 ≠ c4) :
    Ex1 fun T2 : LLed => An6 (∀ p ∈ T, p ∈ T2) ((lS, S) ∈ T2) (∀ p ∈ T2, p.1 ≠ lL) (∀ p ∈ T2, p.1 ≠ c4) (lL ≠ c4) (News h₀ L h ((lL, l) :: (c4, o4) :: T2)) := by
  obtain ⟨q1, q2, q3, qn⟩ := q
  refine ⟨(lS, S) :: (c3, o) :: T, fun p hp => by repeat (first | exact hp | apply List.Mem.tail), by repeat (first | exact List.Mem.head _ | apply List.Mem.tail), fun p hp => ?_, fun p hp => ?_, (Nat.ne_of_lt q3).symm, News.sub N fun p hp => ?_⟩
  · revert p; refine all_cons ?_ (all_cons ?_ (fun p hp => ?_))
    · exact Nat.ne_of_lt q1
    · exact Nat.ne_of_lt q2
    · exact Nat.ne_of_lt (allLt_all qn p hp)
  · revert p; refine all_cons ?_ (all_cons ?_ (fun p hp => ?_))
    · exact hS4
    · exact h34
    · exact hT p hp
  · revert p; (repeat (refine sub_cons (by repeat (first | exact List.Mem.head _ | apply List.Mem.tail)) ?_)); (repeat (first | exact fun _ h => h | refine sub_tail ?_))
theorem ints_two {ys : List Value} {a b : Int} (h : IntsAre ys [a, b]) : ∃ t u, ys = [.int a t, .int b u] := by
  cases h with
  | cons _ t h => cases h with
    | cons _ u h => cases h; exact ⟨t, u, rfl⟩
theorem max5 (a b c d e : Int) : max e (max d (max c (max b a))) = max a (max b (max c (max d e))) := by
  rw [Int.max_comm b a, Int.max_comm c, Int.max_comm d, Int.max_comm e, Int.max_assoc, Int.max_assoc, Int.max_assoc]
  try rw [Int.max_assoc, Int.max_assoc, Int.max_assoc]
theorem one_int {v x : Int} {t : Tok} (h : v = x) : IntsAre [.int v t] [x] := by subst h; exact .cons _ _ .nil
theorem off_cons {a : Addr} {o : Obj} {x : Addr} {T : LLed} (h : a ≠ x) (hT : ∀ p ∈ T, p.1 ≠ x) : ∀ p ∈ ((a, o) :: T : LLed), p.1 ≠ x := by
  intro p hp
  (first | (revert p; refine all_cons ?_ (fun p hp => ?_)) | rcases List.mem_cons.mp hp with rfl | hp)
  · exact h
  · exact hT p hp
theorem turn_reorder {h₀ h : Heap} {L : Addr} {a b c d : Addr × Obj} {T : LLed} (N : News h₀ L h (a :: b :: c :: d :: T)) : News h₀ L h (b :: c :: d :: a :: T) :=
  News.sub N (sub_cons (.tail _ (.head _)) (sub_cons (.tail _ (.tail _ (.head _))) (sub_cons (.tail _ (.tail _ (.tail _ (.head _)))) (sub_cons (.head _) (sub_tail (sub_tail (sub_tail (sub_tail fun _ h => h))))))))
end
section
open PySem PySem.W PyProof.Rows PySem.Calls PySem.Spec
section
variable {prog : Program} {w : World} {A : Around} {E : Value → Shared → Prop} {s : Shared}
theorem five_args (a b c d e : Value) : argsOk "max" ⟨[a, b, c, d, e], []⟩ := by unfold argsOk; kernel_rfl
theorem call_max_five {a b c d e : Value} {Q : Value → Shared → Prop}
    (h : wpAny (model prog w) A.in1 (pyIter (.ref s.heap.objs.size)) (fun it s₂ => ∃ I fp wr n P St bt, it = .ref I ∧ Walks prog w A.in1 I fp wr n P St ∧ St 0 s₂.heap ∧ (∀ b ∈ fp, b < s₂.heap.objs.size) ∧ 0 < n ∧ CmpOf prog w A.in1 .Gt P bt ∧
      ∀ v h' tk, P (argBest bt (n - 1)) v → (∀ b o, b ∉ wr → s₂.heap.get? b = some o → h'.get? b = some o) → Q v { s₂ with heap := h', toks := tk }) E
      { s with heap := s.heap.push { cls := .type "tuple", data := .seq #[a, b, c, d, e] } }) :
    wpAny (model prog w) A (call (.builtin "max") [a, b, c, d, e]) Q E s := by
  have hname : (toString "max" ++ toString ".loop" : String) = "max.loop" := by decide
  refine call_function_tree F.kind_max F.plain_max F.entry_max (five_args _ _ _ _ _) ?_
  show wpAny _ A.in1 (PySem.Builtin.Builtins.bindParams "max" ["key", "default"] 0 ⟨[], []⟩ >>= _) _ _ s
  refine wpAny_bind (wpAny_of_eq (show PySem.Builtin.Builtins.bindParams "max" ["key", "default"] 0 ⟨[], []⟩ = pure [none, none] from rfl) ?_)
  show wpAny _ A.in1 (newTuple [a, b, c, d, e] >>= _) _ _ s
  refine wpAny_bind (wpAny_newObj_type ?_)
  refine wpAny_bind (wpAny_mono h (fun it s₂ h₂ => ?_) fun _ _ e => e)
  obtain ⟨I, fp, wr, n, P, St, bt, rfl, W, hst, hfp, hn, hcmp, hQ⟩ := h₂
  refine wpAny_bind (wpAny_newObj_type ?_)
  have hSf : s₂.heap.objs.size ∉ fp := fun hm => Nat.lt_irrefl _ (hfp _ hm)
  rw [hname]
  refine wpAny_pure ⟨plainId_quiet F.plain_max_loop _, codeAny_max_loop_first W bt hcmp s₂.heap.objs.size hSf hn (W.frame _ _ _ hst fun b _ o e => Heap.get?_push_of_some _ e) (Heap.get?_push_size _ rfl) fun v h' tk hP hk => ?_⟩
  exact hQ v h' tk hP fun b o hbw e => hk b o hbw (Nat.ne_of_lt (Heap.lt_size e)) (Heap.get?_push_of_some _ e)
theorem best_max (f : Nat → Int) : ∀ n, f (argBest (fun i j => decide (f i > f j)) (n + 1)) = max (f (n + 1)) (f (argBest (fun i j => decide (f i > f j)) n)) := by
  intro n
  by_cases h : f (n + 1) > f (argBest (fun i j => decide (f i > f j)) n)
  · have e : argBest (fun i j => decide (f i > f j)) (n + 1) = n + 1 := by
      show (if decide (f (n + 1) > f (argBest (fun i j => decide (f i > f j)) n)) = true then n + 1 else _) = _
      rw [if_pos (decide_eq_true h)]
    rw [e]; omega
  · have e : argBest (fun i j => decide (f i > f j)) (n + 1) = argBest (fun i j => decide (f i > f j)) n := by
      show (if decide (f (n + 1) > f (argBest (fun i j => decide (f i > f j)) n)) = true then n + 1 else _) = _
      rw [if_neg (by simpa using h)]
    rw [e]; omega
theorem max_five_N {a b c d e : Int} {t u x y z : Tok} {h₀ : Heap} {L : Addr} {m : PySem.Str → Option Value} {news : LLed} {Q : Value → Shared → Prop} (hh : A.handled = none) (F : Fr h₀ L s.heap m) (N : News h₀ L s.heap news)
    (h : ∀ h' tk t', Fr h₀ L h' m → News h₀ L h' news → Q (.int (max e (max d (max c (max b a)))) t') { s with heap := h', toks := tk }) :
    wpAny (model prog w) A (call (.builtin "max") [.int a t, .int b u, .int c x, .int d y, .int e z]) Q E s := by
  have hT : (s.heap.push { cls := .type "tuple", data := .seq #[.int a t, .int b u, .int c x, .int d y, .int e z] }).IsTuple s.heap.objs.size (intItems #[(a, t), (b, u), (c, x), (d, y), (e, z)]) := ⟨_, Heap.get?_push_size _ rfl, rfl, 0, by simp [intItems]⟩
  refine call_max_five (wpAny_pyIter_tuple hT ?_)
  have hsz : (s.heap.push { cls := .type "tuple", data := .seq #[.int a t, .int b u, .int c x, .int d y, .int e z] }).objs.size = s.heap.objs.size + 1 := Heap.size_push ..
  refine ⟨_, [_, s.heap.objs.size], [_], _, _, _, _, rfl, Walks.tuple (A := A.in1) hh _ s.heap.objs.size (by rw [hsz]; exact Nat.ne_of_lt (Nat.lt_succ_self _)) (intItems #[(a, t), (b, u), (c, x), (d, y), (e, z)]),
    ⟨⟨_, Heap.get?_push_size _ rfl, rfl, rfl⟩, hT.push _⟩, fun d' hd => ?_, by simp [intItems], CmpOf.ints_gt (numAt #[(a, t), (b, u), (c, x), (d, y), (e, z)]) (fun _ _ => intItems_at), fun v h' tk hP hk => ?_⟩
  · show d' < ((s.heap.push _).push _).objs.size
    rw [Heap.size_push, hsz]
    rcases List.mem_cons.mp hd with rfl | hd
    · rw [hsz]; exact Nat.lt_succ_self _
    · rcases List.mem_cons.mp hd with rfl | hd
      · exact Nat.lt_succ_of_lt (Nat.lt_succ_self _)
      · cases hd
  · have hold : ∀ b o, s.heap.get? b = some o → h'.get? b = some o := fun b o e => by
      refine hk b o (fun hm => ?_) (Heap.get?_push_of_some _ (Heap.get?_push_of_some _ e))
      rcases List.mem_cons.mp hm with e1 | hm
      · have := Heap.lt_size e; rw [e1, hsz] at this; exact Nat.lt_irrefl _ (Nat.lt_of_succ_lt this)
      · cases hm
    obtain ⟨t', hv⟩ := intItems_at hP
    have hsz2 : (intItems #[(a, t), (b, u), (c, x), (d, y), (e, z)]).size - 1 = 4 := by simp [intItems]
    rw [hsz2] at hv
    have e4 : numAt #[(a, t), (b, u), (c, x), (d, y), (e, z)] (argBest (fun i j => decide (numAt #[(a, t), (b, u), (c, x), (d, y), (e, z)] i > numAt #[(a, t), (b, u), (c, x), (d, y), (e, z)] j)) 4) = max e (max d (max c (max b a))) := by
      have g := best_max (numAt #[(a, t), (b, u), (c, x), (d, y), (e, z)])
      rw [g 3, g 2, g 1, g 0]
      rfl
    have hv' : v = .int (max e (max d (max c (max b a)))) t' := by rw [← e4]; exact hv
    rw [hv']
    exact h h' tk t' (F.grownK hold) (N.grown hold)
end
end
section
open PySem PySem.W PyProof.Rows PySem.Calls PySem.Spec
local macro_rules | `(tactic| k_mem) => `(tactic| ((iterate 12 (try (first | (with_reducible assumption) | (with_reducible exact List.mem_cons_self ..) | (with_reducible refine List.mem_append_right _ ?_) | (with_reducible refine List.mem_cons_of_mem _ ?_)))); done))
local macro_rules | `(tactic| walk_at "CompSrc") => `(tactic| ((refine LCg.CompSrc.ledger (by rfl) (by k_asm) (by k_asm) (by k_mem) ?hz ?_; (case hz => (rw [sizeLine_eq, List.size_toArray]; omega))); intro g9))
local macro_rules | `(tactic| walk_at "CompSrc") => `(tactic| ((refine LCg.CompSrc.range (n := 3) (by rfl) (by k_asm) (by k_asm) (by assumption) (by decide) (by decide) ?hz ?_; (case hz => (rw [sizeLine_eq]; omega))); intro g9))
theorem least_c (w : World) (news : LLed) (af ao : Addr) (farvs ordvs : List Value) (naf nao : Nat) (rows : Int → Addr) (rowvs : Int → List Value) (nrow : Int → Nat) (F : Int → List Int) (ord : List Int)
  (haf : (af, W.listOf farvs.toArray naf) ∈ news)
  (hfar : LV farvs 6 fun k => .ref (rows k))
  (hrow : ∀ i : Int, 0 ≤ i → i < 3 → (rows i, W.listOf (rowvs i).toArray (nrow i)) ∈ news)
  (hri0 : ∀ i : Int, 0 ≤ i → i < 3 → IntsAre (rowvs i) (F i) ∧ (F i).length = 6)
  (hao : (ao, W.listOf ordvs.toArray nao) ∈ news)
  (hord : IntsAre ordvs ord ∧ ord.length = 3)
  (iv : Nat → Nat) (hv : Inv ord iv)
  (hown : ∀ i : Int, 0 ≤ i → i < 3 → 0 ≤ ord.getD i.toNat 0 ∧ ord.getD i.toNat 0 < 3) :
    Ctr w 331 [.ref af, .ref ao] [] 10 news fun N Q => ∀ D ys k h' tk', IntsAre ys [leastB (sv F ord iv) 0, leastB (sv F ord iv) 1, leastB (sv F ord iv) 2] → N h' ((D, W.listOf ys.toArray k) :: news) → (∀ p ∈ news, p.1 < D) → Q (.ref D) h' tk' := by
  unfold Ctr
  have hdummy : PySem.Challenge.rw_wo0075_01 = PySem.Challenge.rw_wo0075_01 ∧ hd.heap_39 w.params = hd.heap_39 w.params := by k_fill; exact ⟨rfl, rfl⟩
  clear hdummy
  intro loose mean mg mb dp un gd cn cs a ccd cl outer A₀ base h₀ L m s Q E hB hF hX hN hT hk hdp hun hret
  rcases cs with ⟨ki, na, g1, g2, mo⟩
  dsimp only at hk
  subst hk
  walk_at "fd"
  (repeat' (walk_at "S"; walk_at "Z"))
  refine For_turns (by k_asm) ?_
  (repeat' (walk_at "S"; walk_at "Z"))
  all_goals (try k_data)
  rename IsRange _ _ _ _ _ _ _ _ => hR
  rename News _ _ _ _ => hN7
  rename (∀ p ∈ news, p.1 < _) => hlt0
  rename_i L0 _ _ _ _ _ _ o4c o3c o2c o1c e4 e3 e2 e1 _ _ _ _ _ _ _ _ _ _ _ _ _ _ _ _ _ _ _ _ _ r1 _ q1 _ _ _ _ _ _ _ _ _ _ r2 _ q2 _ _ _ _ _ _ _ _ _ _ r3 _ q3 lS _ qS _ _ F0 N0 _ _ _ _ _ _ _ _ _ _ _ _ _ _ _
  clear N0 F0
  obtain ⟨hov, hol⟩ := hord
  have hinj : ∀ i i' : Nat, i < 3 → i' < 3 → oOf ord i' = oOf ord i → i' = i := fun i i' h1 h2 e => by rw [← hv.i i' h2, e, hv.i i h1]
  obtain ⟨T, hnT, hc2, hc1, hTS, hT3, hT4, hS3, hS4, h34, N7⟩ := least_start hN7 qS hlt0
  clear hN7 q1 q2 q3 qS
  let JJ1 : JT6 := fun m₀ news₀ I i m news' => An2 (m = m₀) (Ex5 fun (sv : List Value) (k : Nat) (oi : Obj) (T' : LLed) (c : Option Value) => An9 (news' = (lS, W.listOf sv.toArray k) :: (L0 + 1 + 1 + 1, oi) :: (L0 + 1 + 1 + 1 + 1, o4c) :: T') (∀ p ∈ T, p ∈ T') (∀ p ∈ T', p.1 ≠ lS) (∀ p ∈ T', p.1 ≠ L0 + 1 + 1 + 1) (∀ p ∈ T', p.1 ≠ L0 + 1 + 1 + 1 + 1) (sv.length = 3) (oi.data = .cell c) (∀ i', i' < i → ∃ a vs kk, sv[oOf ord i']? = some (.ref a) ∧ (a, W.listOf vs.toArray kk) ∈ T' ∧ IntsAre vs [svd F ord i' 0, svd F ord i' 1, svd F ord i' 2]) (∀ p ∈ news', p.1 ≠ I))
  refine rt_inv (n := 3) (by rfl) hR (by decide) (by decide) (by k_asm) N7
    JJ1
    (fun I hI => ⟨rfl, [.ref r1, .ref r2, .ref r3], 0, _, T, _, rfl, fun p hp => hp, hTS, hT3, hT4, rfl, e3, fun i' h => absurd h (by omega), fun p hp => Nat.ne_of_lt (hI p hp)⟩) (fun I i m news h => ?d5) ?_ ?_
  case d5 =>
    obtain ⟨_, _, _, _, _, _, _, _, _, _, _, _, _, _, h9⟩ := h
    exact h9
  · intro I i ri m news' h1 tk1 t1 oI hi hri zj0 F9 N9
    walk_at "fg"
    obtain ⟨rfl, sv, k, oi, T', c, rfl, hTT, hTS', hT3', hT4', hsl, hoi, hdone, q4⟩ := zj0
    revert F9; intro F9; revert N9; intro N9
    have hI1 := q4 _ (List.mem_cons_self ..)
    have hI2 := q4 _ (List.mem_cons_of_mem _ (List.mem_cons_self ..))
    have hI1' := hI1.symm
    have hI2' := hI2.symm
    have hS3' := hS3.symm
    have hS4' := hS4.symm
    have h34' := h34.symm
    have hI3 := q4 _ (List.mem_cons_of_mem _ (List.mem_cons_of_mem _ (List.mem_cons_self ..)))
    have hI3' := hI3.symm
    have hc2' := hTT _ hc2
    have hc1' := hTT _ hc1
    have haf' := hTT _ (hnT _ haf)
    have hao' := hTT _ (hnT _ hao)
    have eri : ri = (i : Int) := by omega
    subst eri
    have hrow' := hTT _ (hnT _ (hrow (i : Int) (by omega) (by omega)))
    obtain ⟨hrv, hrl⟩ := hri0 (i : Int) (by omega) (by omega)
    obtain ⟨ho0, ho1⟩ := hown (i : Int) (by omega) (by omega)
    refine letF (G := zG) F9 ?_; clear F9; intro mT F9
    walk_at "ug"
    (repeat' (walk_at "S"; (fail_if_success (with_reducible show wpAny _ _ (setItem _ _ _) _ _ _)); first | (((with_reducible show wpAny _ _ (subscriptTail _ _ (Value.ref _) (Value.int _ _)) _ _ _); k_dflt (refine' my_itemL ?Ny48 ?my48 ?xy48 ?h0y48 ?hiy48 ?hny48 ?_; (case Ny48 => k_asm); (case my48 => k_mem); (case xy48 => assumption); (case h0y48 => omega); (case hiy48 => omega); (case hny48 => decide); (try dsimp only))); all_goals (try walk_at "fq")) | walk_at "Z"))
    all_goals (try k_data)
    rename IntsAre _ (List.map _ _) => hys
    rename (_ ∧ _ ∧ _ ∧ _ ∧ LCg.Off1 _ _) => hoff
    rename Fr _ _ _ _ => hF5
    rename News _ _ _ _ => hN5
    have hys' := row_ints ho0 hys
    have hDoff := off1_all hoff.2.2.2.2
    refine my_setAt (D := lS) (vs := sv) (n := k) hF5 hN5 (.tail hoff.2.1.symm (.tail hI1' (.head fun p hp => ?u1))) (by exact ho0) (by rw [hsl]; exact ho1) (by omega) ?_
    case u1 =>
      (first | (revert p; refine all_cons ?_ (fun p hp => ?_)) | rcases List.mem_cons.mp hp with rfl | hp)
      · exact hS3'
      (first | (revert p; refine all_cons ?_ (fun p hp => ?_)) | rcases List.mem_cons.mp hp with rfl | hp)
      · exact hS4'
      · exact hTS' p hp
    intro h' F' N'
    clear hF5 hN5
    (repeat' (walk_at "S"; (fail_if_success (with_reducible show wpAny _ _ (setItem _ _ _) _ _ _)); walk_at "Z"))
    all_goals (try k_data)
    (try dsimp only)
    rename Fr _ _ _ _ => hF5
    rename News _ _ _ (_ :: (I, oI) :: _) => hN5
    have hN4 := least_reorder hN5
    refine ⟨_, _, _, _, rfl, hF5, hN4, ?_⟩
    unfold Kept
    refine ⟨rfl, _, k, _, _, _, rfl, fun p hp => List.mem_cons_of_mem _ (hTT p hp), ?_, ?_, ?_, by rw [List.length_set]; exact hsl, by assumption, ?_, ?_⟩
    · intro p hp
      (first | (revert p; refine all_cons ?_ (fun p hp => ?_)) | rcases List.mem_cons.mp hp with rfl | hp)
      · exact hoff.2.1.symm
      · exact hTS' p hp
    · intro p hp
      (first | (revert p; refine all_cons ?_ (fun p hp => ?_)) | rcases List.mem_cons.mp hp with rfl | hp)
      · exact hoff.2.2.1.symm
      · exact hT3' p hp
    · intro p hp
      (first | (revert p; refine all_cons ?_ (fun p hp => ?_)) | rcases List.mem_cons.mp hp with rfl | hp)
      · exact hoff.2.2.2.1.symm
      · exact hT4' p hp
    · intro i' hi'
      by_cases e : i' = i
      · rw [e]
        refine ⟨_, ys, _, ?_, List.mem_cons_self .., hys'⟩
        exact List.getElem?_set_self (t3n ho0 ho1 hsl)
      · obtain ⟨a, vs9, kk, h1, h2, h3⟩ := hdone i' (by omega)
        refine ⟨a, vs9, kk, ?_, List.mem_cons_of_mem _ h2, h3⟩
        rw [← h1]
        exact List.getElem?_set_ne (fun e9 => e (hinj i i' hi (by omega) e9.symm))
    · intro p hp
      (first | (revert p; refine all_cons ?_ (fun p hp => ?_)) | rcases List.mem_cons.mp hp with rfl | hp)
      · exact hI1
      (first | (revert p; refine all_cons ?_ (fun p hp => ?_)) | rcases List.mem_cons.mp hp with rfl | hp)
      · exact hI2
      (first | (revert p; refine all_cons ?_ (fun p hp => ?_)) | rcases List.mem_cons.mp hp with rfl | hp)
      · exact hI3
      (first | (revert p; refine all_cons ?_ (fun p hp => ?_)) | rcases List.mem_cons.mp hp with rfl | hp)
      · exact hoff.1.symm
      · exact q4 p (List.mem_cons_of_mem _ (List.mem_cons_of_mem _ (List.mem_cons_of_mem _ hp)))
  · intro I m news' h1 tk1 zj0 F9 N9
    walk_at "fg"
    obtain ⟨rfl, sv9, k, oi, T', c, rfl, hTT, hTS', hT3', hT4', hsl, hoi, hdone, q4⟩ := zj0
    revert F9; intro F9; revert N9; intro N9
    refine letF (G := zG) F9 ?_; clear F9; intro mT F9
    walk_at "ug"
    (try dsimp only)
    (repeat' (walk_at "S"; (fail_if_success (with_reducible show wpAny _ _ (setItem _ _ _) _ _ _)); walk_at "Z"))
    all_goals (try k_data)
    refine For_turns (by k_asm) ?_
    (repeat' (walk_at "S"; (fail_if_success (with_reducible show wpAny _ _ (setItem _ _ _) _ _ _)); walk_at "Z"))
    all_goals (try k_data)
    rename IsRange _ _ _ _ _ _ _ _ => hR2
    rename (lS < _ ∧ _ < _ ∧ _ < _ ∧ AllLt _ T') => hl1
    rename News _ _ _ _ => hN8
    rename_i lL _ _ _ _ _ _ _ _ _ _ _ _ _ _ _ _ _ _ _ _ _ _
    obtain ⟨rwa, rwv, rwk, hLs, hRw⟩ := least_rows hv hdone
    obtain ⟨T2, hT2, hmS, hL2, hJ2, hLJ, N8⟩ := least_start2 hN8 hl1 hS4 h34 hT4'
    have hltL : ∀ p ∈ news, p.1 < lL := fun p hp => allLt_all hl1.2.2.2 p (hTT p (hnT p hp))
    clear hN8 hl1 hdone hTS' hT3' hT4' hsl
    let JJ2 : JT6 := fun m₀ news₀ I j m news' => An2 (St m₀ [PySem.Str.ofString "a", PySem.Str.ofString "b"] m) (Ex5 fun (ys : List Value) (k9 : Nat) (oj : Obj) (T3 : LLed) (c9 : Option Value) => An7 (news' = (lL, W.listOf ys.toArray k9) :: (L0 + 1 + 1 + 1 + 1, oj) :: T3) (∀ p ∈ T2, p ∈ T3) (∀ p ∈ T3, p.1 ≠ lL) (∀ p ∈ T3, p.1 ≠ L0 + 1 + 1 + 1 + 1) (oj.data = .cell c9) (IntsAre ys (List.take j [leastB (sv F ord iv) 0, leastB (sv F ord iv) 1, leastB (sv F ord iv) 2])) (∀ p ∈ news', p.1 ≠ I))
    refine rt_inv (n := 3) (by rfl) hR2 (by decide) (by decide) (by k_asm) N8
      JJ2
      (fun I hI => ⟨St.refl, [], 0, _, T2, _, rfl, fun p hp => hp, hL2, hJ2, e4, .nil, fun p hp => Nat.ne_of_lt (hI p hp)⟩) (fun I j m news h => ?e5) ?_ ?_
    case e5 =>
      obtain ⟨_, _, _, _, _, _, _, _, _, _, _, _, h9⟩ := h
      exact h9
    · intro I2 j rj m news2 h2 tk2 t2 oI2 hj hrj zj0 F8 N8
      walk_at "fg"
      obtain ⟨hst, ys, k9, oj, T3, c9, rfl, hT3', hL3, hJ3, hoj, hys, q5⟩ := zj0
      revert F8; intro F8; revert N8; intro N8
      obtain ⟨u, rfl⟩ := hst.open0
      clear hst
      have hIa := q5 _ (List.mem_cons_self ..)
      have hIb := q5 _ (List.mem_cons_of_mem _ (List.mem_cons_self ..))
      have hIa' := hIa.symm
      have hIb' := hIb.symm
      have hLJ' := hLJ.symm
      have hmS3 := hT3' _ hmS
      obtain ⟨⟨ha0, ha1⟩, hb0, hb1⟩ := ab_ok hj
      obtain ⟨hna, hia, hla⟩ := hRw _ ha0 ha1
      obtain ⟨hnb, hib, hlb⟩ := hRw _ hb0 hb1
      have hna' := hT3' _ (hT2 _ hna)
      have hnb' := hT3' _ (hT2 _ hnb)
      obtain rfl : rj = (j : Int) := by omega
      refine letF (G := zG) F8 ?_; clear F8; intro mT F8
      walk_at "ug"
      (repeat' (walk_at "S"; (fail_if_success (with_reducible show LCt.CompRestT _ _ _ _ _ _ _ _ _ _ _ _ _ _ _ _ _ _ _ _)); walk_at "Z"))
      all_goals (try k_data)
      refine compT_inv (fun i ys => IntsAre ys ((List.take i [0, 1, 2]).filter fun x : Int => x != (j : Int))) .nil trivial ?_ ?_
      · intro i ys9 v I9 oI9 C9 oC9 D9 m₂ h9 tk9 E9 hi hI9 hP hC9 hx9 F9 N9 off9
        obtain ⟨t9, rfl⟩ := hP
        have hi9 : i < 3 := hi
        (repeat' (walk_at "S"; (fail_if_success (with_reducible show LCt.CompRestT _ _ _ _ _ _ _ _ _ _ _ _ _ _ _ _ _ _ _ _)); walk_at "Z"))
        all_goals (try k_data)
        all_goals (refine ⟨_, _, rfl, F9, N9, ?_⟩)
        · exact IntsAre_to (hI9.append (one_int (x := (i : Int)) (by omega))) (flt_in hi9 (by omega))
        · exact IntsAre_to hI9 (flt_out hi9 (by omega))
      · intro ys9 hys9
        obtain ⟨ta, tb, rfl⟩ := ints_two (IntsAre_to hys9 (flt_two hj).symm)
        (repeat' (walk_at "S"; (fail_if_success (with_reducible show LCt.CompRestT _ _ _ _ _ _ _ _ _ _ _ _ _ _ _ _ _ _ _ _)); first | ((first | ((with_reducible show wpAny _ _ (call (Value.builtin "max") [Value.int _ _, Value.int _ _, Value.int _ _, Value.int _ _, Value.int _ _]) _ _ _); k_dflt (refine' max_five_N ?hhy178 ?Fy178 ?Ny178 ?_; (case hhy178 => exact rfl); (case Fy178 => k_asm); (case Ny178 => k_asm)); intro _ _ _ _ _; (try dsimp only)) | ((with_reducible show wpAny _ _ (subscriptTail _ _ (Value.ref _) (Value.int _ _)) _ _ _); k_dflt (refine' my_itemL ?Ny180 ?my180 ?xy180 ?h0y180 ?hiy180 ?hny180 ?_; (case Ny180 => k_asm); (case my180 => k_mem); (case xy180 => assumption); (case h0y180 => omega); (case hiy180 => omega); (case hny180 => decide); (try dsimp only)))); all_goals (try walk_at "fq")) | walk_at "Z"))
        all_goals (try k_data)
        (try dsimp only)
        rename Fr _ _ _ _ => hF5
        rename News _ _ _ (_ :: _ :: _ :: _ :: T3) => hN5
        rename (_ ∧ _ ∧ _ ∧ LCg.Off1 _ _) => hoff
        rw [push_list] at hN5
        have hN4 := turn_reorder hN5
        refine ⟨_, _, _, _, rfl, hF5, hN4, ?_⟩
        unfold Kept
        refine ⟨?st, _, _, _, _, _, rfl, fun p hp => List.mem_cons_of_mem _ (hT3' p hp), ?o1, ?o2, by assumption, IntsAre_to (IntsAre.append hys (one_int (x := leastB (sv F ord iv) j) ?va)) (tk_least hj), ?o3⟩
        case va => rcases three hj with rfl | rfl | rfl <;> exact max5 _ _ _ _ _
        case st => walk_at "st_base"
        case o1 => exact off_cons hoff.2.1.symm hL3
        case o2 => exact off_cons hoff.2.2.1.symm hJ3
        case o3 => exact off_cons hIa (off_cons hIb (off_cons hoff.1.symm fun p hp => q5 p (List.mem_cons_of_mem _ (List.mem_cons_of_mem _ hp))))
    · intro I2 m news2 h2 tk2 zj0 F8 N8
      walk_at "fg"
      obtain ⟨hst, ys, k9, oj, T3, c9, rfl, hT3', hL3, hJ3, hoj, hys, q5⟩ := zj0
      revert F8; intro F8; revert N8; intro N8
      obtain ⟨u, rfl⟩ := hst.open0
      clear hst
      refine letF (G := zG) F8 ?_; clear F8; intro mT F8
      walk_at "ug"
      (try dsimp only)
      (repeat' (walk_at "S"; (fail_if_success (with_reducible show wpAny _ _ (setItem _ _ _) _ _ _)); walk_at "Z"))
      all_goals (try k_data)
      rename News _ _ _ _ => hN5
      exact hret lL ys _ _ _ hys ⟨by k_asm, News.sub hN5 (fun p hp => by
        (first | (revert p; refine all_cons ?_ (fun p hp => ?_)) | rcases List.mem_cons.mp hp with rfl | hp)
        · exact List.mem_cons_self ..
        · exact List.mem_cons_of_mem _ (List.mem_cons_of_mem _ (hT3' _ (hT2 _ (hTT _ (hnT _ hp))))))⟩ hltL
end
section
open PySem PySem.W PyProof.Rows PySem.Calls PySem.Spec
theorem tupItems_inv {prog : Program} {w : World} {A : Around} {E : Value → Shared → Prop} {s : Shared} {env : Env} {h₀ : Heap} {target : PySem.Expr} {body : List Stmt} {Q : Flow → Shared → Prop} {I ax : Addr} {lo : Obj} (vs : List Value)
    (J : Nat → (PySem.Str → Option Value) → LLed → Prop)
    (hJ : ∀ i m news, J i m news → (ax, lo) ∈ news ∧ ∀ p ∈ news, p.1 ≠ I)
    (turn : ∀ i v m news h tk oI, vs[i]? = some v → J i m news → Fr h₀ env.locals h m → News h₀ env.locals h ((I, oI) :: news) → oI.cls = .type "tuple_iterator" →
      wpAny (model prog w) A (assign target env v) (fun _ s₂ => wpAny (model prog w) A (execs body env) (fun f s' => match f with
        | .ret v => Q (.ret v) s'
        | .brk => Q .next s'
        | _ => TEnd h₀ env.locals I oI s s' (J (i + 1))) E s₂) E { s with heap := h, toks := tk })
    (done : ∀ m news h tk, J vs.length m news → Fr h₀ env.locals h m → News h₀ env.locals h news → Q .next { s with heap := h, toks := tk }) :
    ∀ k i m news, i + k = vs.length → J i m news → ItemsRest prog w A E h₀ env target body Q s [(I, "tuple_iterator")] [(ax, lo)] ((vs.drop i).map .val) m news := by
  intro k
  induction k with
  | zero =>
    intro i m news e hj
    rw [List.drop_of_length_le (by omega), List.map_nil]
    refine ItemsRest.zero fun h tk F N => done m news h tk ?_ F N
    rw [← e]; exact hj
  | succ k ih =>
    intro i m news e hj
    have hlt : i < vs.length := ik_lt e
    rw [List.drop_eq_getElem_cons hlt, List.map_cons]
    refine ItemsRest.val fun h tk F => AllObj.cons fun oI hc => AllObj.nil fun N => ?_
    refine wpAny_mono (turn i vs[i] m news h tk oI (by simp [hlt]) hj F N hc) (fun _ s₂ q => ?_) fun _ _ x => x
    refine wpAny_mono q (fun f s' r => ?_) fun _ _ x => x
    have fin : TEnd h₀ env.locals I oI s s' (J (i + 1)) →
        UnrEndW h₀ env.locals { s with heap := h, toks := tk } [(I, oI)] (fun m' n' => SubL [(ax, lo)] n' ∧ ItemsRest prog w A E h₀ env target body Q s [(I, "tuple_iterator")] [(ax, lo)] ((vs.drop (i + 1)).map .val) m' n') s' := by
      rintro ⟨h', tk', m', news', rfl, F', N', hj'⟩
      refine ⟨h', tk', m', news', rfl, F', N', fun p hp q hq => ?_, ⟨(hJ _ _ _ hj').1, trivial⟩, ih (i + 1) m' news' (ik_s e) hj'⟩
      rw [List.mem_singleton.mp hq]
      exact (hJ _ _ _ hj').2 p hp
    cases f with
    | ret v => exact r
    | brk => exact r
    | next => exact fin r
    | cont => exact fin r
theorem tup_inv {prog : Program} {w : World} {A : Around} {E : Value → Shared → Prop} {s : Shared} {env : Env} {h₀ : Heap} {target : PySem.Expr} {body : List Stmt} {Q : Flow → Shared → Prop} {ax : Addr} {lo : Obj} {vs : List Value} {n : Nat} {m₀ : PySem.Str → Option Value} {news₀ : LLed}
    (hh : A.handled = none) (F : Fr h₀ env.locals s.heap m₀) (N : News h₀ env.locals s.heap news₀) (hm : (ax, lo) ∈ news₀) (hc : lo.cls = .type "tuple") (hd : lo.data = .seq vs.toArray n)
    (J : (PySem.Str → Option Value) → LLed → Addr → Nat → (PySem.Str → Option Value) → LLed → Prop) (h0 : ∀ I, (∀ p ∈ news₀, p.1 < I) → J m₀ news₀ I 0 m₀ news₀)
    (hJ : ∀ I i m news, J m₀ news₀ I i m news → (ax, lo) ∈ news ∧ ∀ p ∈ news, p.1 ≠ I)
    (turn : ∀ I i v m news h tk oI, vs[i]? = some v → J m₀ news₀ I i m news → Fr h₀ env.locals h m → News h₀ env.locals h ((I, oI) :: news) → oI.cls = .type "tuple_iterator" →
      wpAny (model prog w) A (assign target env v) (fun _ s₂ => wpAny (model prog w) A (execs body env) (fun f s' => match f with
        | .ret v => Q (.ret v) s'
        | .brk => Q .next s'
        | _ => TEnd h₀ env.locals I oI s s' (J m₀ news₀ I (i + 1))) E s₂) E { s with heap := h, toks := tk })
    (done : ∀ I m news h tk, J m₀ news₀ I vs.length m news → Fr h₀ env.locals h m → News h₀ env.locals h news → Q .next { s with heap := h, toks := tk }) :
    wpAny (model prog w) A (pyIter (.ref ax)) (fun it s₂ => TurnsAt prog w A h₀ env target body Q E it s₂) E s := by
  refine iter_tupTurns hh F N hm hc hd fun I hI => ?_
  have := tupItems_inv (prog := prog) (w := w) (A := A) (E := E) (s := s) (env := env) (h₀ := h₀) (target := target) (body := body) (Q := Q) (I := I) (ax := ax) (lo := lo) vs (J m₀ news₀ I) (hJ I) (turn I) (done I) vs.length 0 m₀ news₀ (by omega) (h0 I hI)
  simpa using this
theorem VS.reads {h : Heap} : ∀ {vs : List Value} {xs : List PySem.Str}, VS vs xs → ∃ as, ReadsAll h vs (xs.map .str) as
  | [], [], _ => ⟨_, ReadsAll.nil⟩
  | [], _ :: _, h => h.elim
  | _ :: _, [], h => h.elim
  | _ :: vs, x :: xs, ⟨⟨t, e⟩, hr⟩ => by
    obtain ⟨bs, q⟩ := VS.reads hr
    subst e
    exact ⟨_, ReadsAll.cons (Reads.str _ _) q⟩
theorem strs_lay : ∀ {xs : List PySem.Str}, (∀ x ∈ xs, Plain x) → PyData.canLayAll0 (xs.map .str) = true ∧ PyData.depthAll (xs.map .str) = 0
  | [], _ => by simp [PyData.canLayAll0, PyData.depthAll]
  | x :: xs, h => by
    have ih := strs_lay (xs := xs) fun q hq => h q (.tail _ hq)
    have e1 := plain_ok (h x (.head _))
    simp only [List.map_cons, PyData.canLayAll0, PyData.depthAll, PyData.canLay0, PyData.depth, e1, ih.1, ih.2, Bool.and_self, true_and]
    omega
theorem strs_eqv : ∀ xs ys : List PySem.Str, PyData.eqvAll (xs.map .str) (ys.map .str) = decide (xs = ys)
  | [], [] => by simp [PyData.eqvAll]
  | [], _ :: _ => by simp [PyData.eqvAll]
  | _ :: _, [] => by simp [PyData.eqvAll]
  | a :: xs, c :: ys => by
    have ih := strs_eqv xs ys
    simp only [List.map_cons, PyData.eqvAll, PyData.eqv, ih]
    by_cases h1 : a = c <;> by_cases h3 : xs = ys <;> simp [h1, h3]
theorem strs_shaped {xs : List PySem.Str} (h : ∀ x ∈ xs, Plain x) : PySem.SeqAt.shaped (.list (xs.map .str)) = true := by
  obtain ⟨a, b⟩ := strs_lay h
  unfold PySem.SeqAt.shaped
  simp only [PyData.canLay0, PyData.depth, a, b, Bool.true_and]
  decide
theorem vs_ne {prog : Program} {w : World} {A : Around} {E Q : Value → Shared → Prop} {s : Shared} {h₀ : Heap} {L a b : Addr} {news : LLed} {vs ws : List Value} {n k : Nat} {xs ys : List PySem.Str}
    (N : News h₀ L s.heap news) (ma : (a, W.listOf vs.toArray n) ∈ news) (mb : (b, W.listOf ws.toArray k) ∈ news) (ha : VS vs xs) (hb : VS ws ys) (pa : ∀ x ∈ xs, Plain x) (pb : ∀ x ∈ ys, Plain x) (hu : A.units + 64 < cLine)
    (h : Q (.bool (!decide (xs = ys))) s) : wpAny (model prog w) A (compareOp .NotEq (.ref a) (.ref b)) Q E s := by
  obtain ⟨as, ra⟩ := VS.reads (h := s.heap) ha
  obtain ⟨bs, rb⟩ := VS.reads (h := s.heap) hb
  refine ne_dataH (reads_list_at (N.get ma) rfl rfl (by simpa [W.listOf] using ra)) (reads_list_at (N.get mb) rfl rfl (by simpa [W.listOf] using rb)) (strs_shaped pa) (strs_shaped pb) hu ?_
  rw [show PyData.eqv (.list (xs.map .str)) (.list (ys.map .str)) = PyData.eqvAll (xs.map .str) (ys.map .str) from by simp [PyData.eqv], strs_eqv]
  exact h
end
section
open PySem PySem.W PyProof.Rows PySem.Calls PySem.Spec
theorem my_isl {h₀ h : Heap} {L a : Addr} {news : LLed} {its : Array Value} {n : Nat} (N : News h₀ L h news) (hm : (a, W.listOf its n) ∈ news) : h.IsList a its := ⟨_, (N _ hm).1, rfl, n, rfl⟩
theorem items_m (w : World) (news : LLed) (px pd ah : Addr) (vs : List Value) (n : Nat) (kt : Tok) (hs : vs.length ≤ 1000) (hpx : (px, instObj 282 pd) ∈ news) (hpd : (pd, hdict w kt ah) ∈ news) (hah : (ah, W.listOf vs.toArray n) ∈ news) :
    Ctr w 246 [.ref px] [] 5 news fun N Q => ∀ D h' tk', N h' ((D, W.listOf vs.toArray 0) :: news) → (∀ p ∈ news, p.1 < D) → Q (.ref D) h' tk' := by
  unfold Ctr
  have hdummy : PySem.Challenge.rw_wo0075_01 = PySem.Challenge.rw_wo0075_01 ∧ hd.heap_39 w.params = hd.heap_39 w.params := by k_fill; exact ⟨rfl, rfl⟩
  clear hdummy
  intro loose mean mg mb dp un gd cn cs a ccd cl outer A₀ base h₀ L m s Q E hB hF hX hN hT hk hdp hun hret
  rcases cs with ⟨ki, na, g1, g2, mo⟩
  dsimp only at hk
  subst hk
  (try walk_at "fe")
  repeat' (first | (((with_reducible show wpAny _ _ (subscriptTail _ (PySem.Expr.Slice _ _ none _) (Value.ref _) (Value.ref _)) _ _ _); k_dflt (refine' kmk_slice ?Fy1 ?Ny1 ?ly1 ?py1 ?qy1 ?_ ?sy1 ?ty1 ?zy1; (case Fy1 => k_asm); (case Ny1 => k_asm); (case ly1 => exact my_isl (by k_asm) (by k_mem)); (case py1 => constructor); (case qy1 => constructor); (case sy1 => with_unfolding_all rfl); (case ty1 => intro _; rfl); (case zy1 => (rw [sizeLine_eq, List.size_toArray]; omega)); intro _ _ _ _ _)); all_goals (try walk_at "fq")) | walk_at "Y")
  rename News h₀ L _ _ => kN9
  rw [slice_all] at kN9
  exact hret _ _ _ ⟨by k_asm, kN9⟩ (by assumption)
theorem get_m (w : World) (news : LLed) (px pd ah : Addr) (vs : List Value) (n : Nat) (kt : Tok) (name : PySem.Str) (t : Tok) (hn : Plain (Txt.lower name)) (zn : (Txt.lower name).length ≤ 1000) (zm : name.length ≤ 1000) (hs : vs.length ≤ 1000)
   (ps : List (PySem.Str × PySem.Str)) (hl : HL news vs ps) (hpz : ∀ p ∈ ps, p.1.length ≤ 10) (x : PySem.Str) (hx : (sel (Txt.lower name) ps).head? = some x)
   (hpx : (px, instObj 282 pd) ∈ news) (hpd : (pd, hdict w kt ah) ∈ news) (hah : (ah, W.listOf vs.toArray n) ∈ news) :
    Ctr w 229 [.ref px, .str name t] [] 5 news fun N Q => ∀ u h' tk', N h' news → Q (.str x u) h' tk' :=
  (get_c w news px pd ah vs n kt name t hn zn zm hs ps hl hpz x hx).led
    (fun p hp => by
      (first | (revert p; refine all_cons ?_ (fun p hp => ?_)) | rcases List.mem_cons.mp hp with rfl | hp)
      · exact hpx
      (first | (revert p; refine all_cons ?_ (fun p hp => ?_)) | rcases List.mem_cons.mp hp with rfl | hp)
      · exact hpd
      (first | (revert p; refine all_cons ?_ (fun p hp => ?_)) | rcases List.mem_cons.mp hp with rfl | hp)
      · exact hah
      · exact hp)
    fun N Q hN h u h' tk' hn => h u h' tk' (hN _ _ _ hn fun p hp => List.mem_cons_of_mem _ (List.mem_cons_of_mem _ (List.mem_cons_of_mem _ hp)))
theorem set_m (w : World) (news R : LLed) (px pd ah : Addr) (vs : List Value) (n : Nat) (kt : Tok) (name val : PySem.Str) (t u : Tok) (hn : Plain (Txt.lower name)) (zn : (Txt.lower name).length ≤ 1000) (zm : name.length ≤ 1000) (hpn : Plain name) (hpv : Plain val) (zv : val.length ≤ 1000) (hs : vs.length ≤ 1000)
   (ps : List (PySem.Str × PySem.Str)) (hl : HL R vs ps) (hpz : ∀ p ∈ ps, p.1.length ≤ 10) (h1 : px ≠ ah) (h2 : pd ≠ ah) (hr : ∀ p ∈ R, p.1 ≠ ah)
   (hpx : (px, instObj 282 pd) ∈ news) (hpd : (pd, hdict w kt ah) ∈ news) (hah : (ah, W.listOf vs.toArray n) ∈ news) (hR : ∀ p ∈ R, p ∈ news) :
    Ctr w 197 [.ref px, .str name t, .str val u] [] 8 news
     fun N Q => ∀ a t' u' vs' n' h' tk', HL ((a, tup2 (.str name t') (.str val u')) :: R) vs' (rid (Txt.lower name) ps ++ [(name, val)]) → N h' ((ah, W.listOf vs'.toArray n') :: (a, tup2 (.str name t') (.str val u')) :: R) → a ≠ ah → Q .none h' tk' :=
  (set_c w R px pd ah vs n kt name val t u hn zn zm hpn hpv zv hs ps hl hpz h1 h2 hr).led
    (fun p hp => by
      (first | (revert p; refine all_cons ?_ (fun p hp => ?_)) | rcases List.mem_cons.mp hp with rfl | hp)
      · exact hpx
      (first | (revert p; refine all_cons ?_ (fun p hp => ?_)) | rcases List.mem_cons.mp hp with rfl | hp)
      · exact hpd
      (first | (revert p; refine all_cons ?_ (fun p hp => ?_)) | rcases List.mem_cons.mp hp with rfl | hp)
      · exact hah
      · exact hR p hp)
    fun N Q hN h a t' u' vs' n' h' tk' hv hn ha => h a t' u' vs' n' h' tk' hv (hN _ _ _ hn fun p hp => List.mem_cons_of_mem _ (List.mem_cons_of_mem _ hp)) ha
inductive HL3 (news : LLed) (lv : List Value) (n0 n1 n2 r0 r1 r2 : PySem.Str) : Prop
  | mk (a0 a1 a2 : Addr) (t0 u0 t1 u1 t2 u2 : Tok) (r : List Value) (e : lv = Value.ref a0 :: .ref a1 :: .ref a2 :: r) (h0 : (a0, tup2 (.str n0 t0) (.str r0 u0)) ∈ news) (h1 : (a1, tup2 (.str n1 t1) (.str r1 u1)) ∈ news) (h2 : (a2, tup2 (.str n2 t2) (.str r2 u2)) ∈ news)
theorem hl_three {news : LLed} {lv : List Value} {n0 n1 n2 r0 r1 r2 : PySem.Str} {e : List (PySem.Str × PySem.Str)} (h : HL news lv ([(n0, r0), (n1, r1), (n2, r2)] ++ e)) :
    HL3 news lv n0 n1 n2 r0 r1 r2 := by
  obtain ⟨a0, t0, u0, r1, e1, m0, h1⟩ := h.inv
  obtain ⟨a1, t1, u1, r2, e2, m1, h2⟩ := h1.inv
  obtain ⟨a2, t2, u2, r, e3, m2, _⟩ := h2.inv
  exact ⟨a0, a1, a2, t0, u0, t1, u1, t2, u2, r, by rw [e1, e2, e3], m0, m1, m2⟩
theorem lv_three {a b c : Value} {r : List Value} : LV (a :: b :: c :: r) 3 (at3 a b c) := by
  intro k h0 h1
  have : k = 0 ∨ k = 1 ∨ k = 2 := by omega
  rcases this with rfl | rfl | rfl <;> rfl
end
section
open PySem PySem.W PyProof.Rows PySem.Calls PySem.Spec
local macro_rules | `(tactic| k_mem) => `(tactic| ((iterate 12 (try (first | (with_reducible assumption) | (with_reducible exact List.mem_cons_self ..) | (with_reducible refine List.mem_append_right _ ?_) | (with_reducible refine List.mem_cons_of_mem _ ?_)))); done))
local macro_rules | `(tactic| walk_at "CompSrc") => `(tactic| ((refine LCg.CompSrc.ledger (by rfl) (by k_asm) (by k_asm) (by k_mem) ?hz ?_; (case hz => (rw [sizeLine_eq, List.size_toArray]; omega))); intro g9))
local macro_rules | `(tactic| walk_at "CompSrc") => `(tactic| ((refine LCg.CompSrc.range (n := 3) (by rfl) (by k_asm) (by k_asm) (by assumption) (by decide) (by decide) ?hz ?_; (case hz => (rw [sizeLine_eq]; omega))); intro g9))
local macro_rules | `(tactic| walk_at "my_tail") => `(tactic| (intro p9 hp9; repeat (first | exact hp9 | refine List.mem_cons_of_mem _ ?_)))
abbrev nmL (k : Int) : PySem.Str := Txt.item (PySem.Str.ofString "Klm") k
abbrev nml (k : Int) : PySem.Str := Txt.item (PySem.Str.ofString "klm") k
theorem nmL_facts : ∀ k : Int, 0 ≤ k → k < 3 → Txt.lower (nmL k) = Txt.lower (nmK k) ∧ Txt.lower (nml k) = Txt.lower (nmK k) ∧ (nmL k).length ≤ 1000 ∧ (nml k).length ≤ 1000 ∧ Plain (nmK k) := by
  intro k h0 h1
  have : k = 0 ∨ k = 1 ∨ k = 2 := by omega
  rcases this with rfl | rfl | rfl <;> (unfold Plain; decide +kernel)
def worI (F : Int → List Int) (ord : List Int) (p : List Int) (i : Int) : Int := p.getD (ord.getD i.toNat 0).toNat 0 + (F i).getD (3 + ord.getD i.toNat 0).toNat 0
structure RestD (w : World) (rest : LLed) (px pd ah al af ao : Addr) (kt : Tok) (farvs ordvs vs lv : List Value) (rows : Int → Addr) (rowvs : Int → List Value) (naf nao n2 : Nat) (nrow : Int → Nat) (F : Int → List Int) (ord : List Int) (iv : Nat → Nat) (d : RD) (x : Int → PySem.Str) (r : Int → PySem.Str) : Prop where
  hpx : (px, instObj 282 pd) ∈ rest
  hpd : (pd, hdict w kt ah) ∈ rest
  haf : (af, W.listOf farvs.toArray naf) ∈ rest
  hfar : LV farvs 6 fun k => .ref (rows k)
  hrow : ∀ i : Int, 0 ≤ i → i < 6 → (rows i, W.listOf (rowvs i).toArray (nrow i)) ∈ rest
  hri : ∀ i : Int, 0 ≤ i → i < 6 → IntsAre (rowvs i) (F i) ∧ (F i).length = 6
  hao : (ao, W.listOf ordvs.toArray nao) ∈ rest
  hord : IntsAre ordvs ord ∧ ord.length = 3
  hv : Inv ord iv
  hown : ∀ i : Int, 0 ≤ i → i < 3 → 0 ≤ ord.getD i.toNat 0 ∧ ord.getD i.toNat 0 < 3
  hal : (al, W.listOf lv.toArray n2) ∈ rest
  hvs : HL rest vs d.ps
  hlv : HL rest lv d.ps
  hpl : d.p.length = 3
  hxs : ∀ k : Int, 0 ≤ k → k < 3 → (sel (Txt.lower (nmK k)) d.ps).getLast? = some (x k) ∧ OkR (x k) (d.p.getD k.toNat 0) ∧ Plain (x k) ∧ (x k).length ≤ 1000
  hps : PsOk d.ps
  hpn : d.ps.length ≤ 500
  hpre : ∃ e, d.ps = [(nmK 0, r 0), (nmK 1, r 1), (nmK 2, r 2)] ++ e
  hrp : ∀ k : Int, 0 ≤ k → k < 3 → Plain (r k)
  hlst : d.p = [leastB (sv F ord iv) 0, leastB (sv F ord iv) 1, leastB (sv F ord iv) 2]
  hlip : ∀ u v : Int, 0 ≤ u → u < 6 → 0 ≤ v → v < u → ((([worI F ord d.p 0, worI F ord d.p 1, worI F ord d.p 2] ++ d.p).getD u.toNat 0 - ([worI F ord d.p 0, worI F ord d.p 1, worI F ord d.p 2] ++ d.p).getD v.toNat 0).natAbs : Int) ≤ (F u).getD v.toNat 0
  e1 : px ≠ ah
  e2 : pd ≠ ah
  e3 : ∀ p ∈ rest, p.1 ≠ ah
theorem rest_off {L : Addr} {rest : LLed} (h : AllLt L rest) : An5 (∀ p ∈ rest, p.1 ≠ L + 1) (∀ p ∈ rest, p.1 ≠ L + 1 + 1) (∀ p ∈ rest, p.1 ≠ L + 1 + 1 + 1) (∀ p ∈ rest, p.1 ≠ L + 1 + 1 + 1 + 1) (∀ p ∈ rest, p.1 ≠ L + 1 + 1 + 1 + 1 + 1) := by
  have q := allLt_all h
  refine ⟨?_, ?_, ?_, ?_, ?_⟩ <;> (intro p hp e; have := q p hp; rw [e] at this; exact absurd this (by simp only [Nat.not_lt]; omega))
local macro_rules | `(tactic| k_all) => `(tactic| first | assumption | (refine' off_cons ?oh ?ot; (case oh => k_ne); (case ot => k_all)))
theorem vs_three {ys : List Value} {a b c : PySem.Str} (h : VS ys [a, b, c]) : ∃ t1 t2 t3, ys = [.str a t1, .str b t2, .str c t3] := by
  obtain ⟨t1, r1, e1, h1⟩ := h.inv
  obtain ⟨t2, r2, e2, h2⟩ := h1.inv
  obtain ⟨t3, r3, e3, h3⟩ := h2.inv
  exact ⟨t1, t2, t3, by rw [e1, e2, e3, h3.inv0]⟩
local macro_rules | `(tactic| walk_at "CompSrc") => `(tactic| (k_dflt (refine LCg.CompSrc.ledger (by rfl) (by k_asm) (by k_asm) (by k_mem) ?hz ?_; (case hz => (show 3 ≤ _; rw [sizeLine_eq]; omega)); intro g9)))
local macro_rules | `(tactic| walk_at "CompSrc") => `(tactic| (k_dflt (refine LCg.CompSrc.range (n := 3) (by rfl) (by k_asm) (by k_asm) (by assumption) (by decide) (by decide) ?hz ?_; (case hz => (rw [sizeLine_eq]; omega)); intro g9)))
theorem g3_0 {a b c v : Value} (h : ([a, b, c].toArray : Array Value)[0]? = some v) : a = v := Option.some.inj h
theorem g3_1 {a b c v : Value} (h : ([a, b, c].toArray : Array Value)[1]? = some v) : b = v := Option.some.inj h
theorem g3_2 {a b c v : Value} (h : ([a, b, c].toArray : Array Value)[2]? = some v) : c = v := Option.some.inj h
theorem rest_start {g h : Heap} {L ah : Addr} {o : Obj} {t k9 w9 y3 d7 y2 l9 c5 c4 c3 c2 c1 : Addr × Obj} {rest : LLed} (N : News g L h (t :: k9 :: w9 :: y3 :: d7 :: y2 :: l9 :: c5 :: c4 :: c3 :: c2 :: c1 :: (ah, o) :: rest))
    (et : t.1 ≠ ah) (ek : k9.1 ≠ ah) (el : l9.1 ≠ ah) (e5 : c5.1 ≠ ah) (e4 : c4.1 ≠ ah) (e3 : c3.1 ≠ ah) (e2 : c2.1 ≠ ah) (e1 : c1.1 ≠ ah) (er : ∀ p ∈ rest, p.1 ≠ ah) :
    Ex1 fun T : LLed => An10 (News g L h ((ah, o) :: T)) (t ∈ T) (k9 ∈ T) (l9 ∈ T) (c5 ∈ T) (c4 ∈ T) (c3 ∈ T) (c2 ∈ T) (c1 ∈ T) (An2 (∀ p ∈ rest, p ∈ T) (∀ p ∈ T, p.1 ≠ ah)) := by
  refine ⟨t :: k9 :: l9 :: c5 :: c4 :: c3 :: c2 :: c1 :: rest, News.sub N (fun p hp => ?_), by repeat (first | exact List.Mem.head _ | apply List.Mem.tail), by repeat (first | exact List.Mem.head _ | apply List.Mem.tail), by repeat (first | exact List.Mem.head _ | apply List.Mem.tail), by repeat (first | exact List.Mem.head _ | apply List.Mem.tail), by repeat (first | exact List.Mem.head _ | apply List.Mem.tail), by repeat (first | exact List.Mem.head _ | apply List.Mem.tail), by repeat (first | exact List.Mem.head _ | apply List.Mem.tail), by repeat (first | exact List.Mem.head _ | apply List.Mem.tail), fun p hp => by repeat (first | exact hp | apply List.Mem.tail), fun p hp => ?_⟩
  · revert p; (repeat (refine sub_cons (by repeat (first | exact List.Mem.head _ | apply List.Mem.tail)) ?_)); (repeat (first | exact fun _ h => h | refine sub_tail ?_))
  · revert p; refine all_cons ?_ (all_cons ?_ (all_cons ?_ (all_cons ?_ (all_cons ?_ (all_cons ?_ (all_cons ?_ (all_cons ?_ (fun p hp => ?_)))))))) <;> first | assumption | exact er p hp
theorem g3t {a b c v : Value} {i : Nat} (h : [a, b, c][i]? = some v) : (i = 0 ∧ v = a) ∨ (i = 1 ∧ v = b) ∨ (i = 2 ∧ v = c) := by
  match i, h with
  | 0, h => exact .inl ⟨rfl, (by simpa using h.symm)⟩
  | 1, h => exact .inr (.inl ⟨rfl, (by simpa using h.symm)⟩)
  | 2, h => exact .inr (.inr ⟨rfl, (by simpa using h.symm)⟩)
  | n + 3, h => simp at h
theorem g3k {v : Value} {i : Nat} {k : Int} {a b c : Tok} (hk : k = 2 - (i : Int)) (h : [Value.int 2 a, .int 1 b, .int 0 c][i]? = some v) : ∃ tv, v = Value.int k tv := by
  rcases g3t h with ⟨rfl, rfl⟩ | ⟨rfl, rfl⟩ | ⟨rfl, rfl⟩ <;> (subst hk; exact ⟨_, rfl⟩)
theorem vs3_at {x : Int → PySem.Str} {v : Value} {i : Nat} {k : Int} {q0 q1 q2 : Tok} (hk : k = (i : Int)) (hi : i < 3) (hv2 : ([.str (x 0) q0, .str (x 1) q1, .str (x 2) q2].toArray : Array Value)[i]? = some v) : ∃ tv, v = Value.str (x k) tv := by
  rcases or3n hi with rfl | rfl | rfl <;> (subst hk; first | exact ⟨q0, (g3_0 hv2).symm⟩ | exact ⟨q1, (g3_1 hv2).symm⟩ | exact ⟨q2, (g3_2 hv2).symm⟩)
theorem vs3 {f : Int → PySem.Str} {ys : List Value} {i : Nat} {k : Int} {t : Tok} (hk : k = 0 + (i : Int)) (hi : i < 3) (h : VS ys (List.take i [f 0, f 1, f 2])) : VS (ys ++ [.str (f k) t]) (List.take (i + 1) [f 0, f 1, f 2]) := by
  rcases or3n hi with rfl | rfl | rfl <;> (subst hk; exact VS.snoc h)
theorem int3k (f : Int → Int) {ys : List Value} {i : Nat} {k r : Int} {t : Tok} (hk : k = (i : Int)) (hi : i < 3) (h : IntsAre ys (List.take i [f 0, f 1, f 2])) (e : r = f k) : IntsAre (ys ++ [.int r t]) (List.take (i + 1) [f 0, f 1, f 2]) := by
  rcases or3n hi with rfl | rfl | rfl <;> (subst hk; exact e ▸ h.append (.cons _ _ .nil))
theorem hl3r (g : Int → PySem.Str × PySem.Str) {T T' : LLed} {ys : List Value} {i : Nat} {k : Int} {a : Addr} {t u : Tok} (hk : k = 2 - (i : Int)) (hi : i < 3) (hm : (a, tup2 (.str (g k).1 t) (.str (g k).2 u)) ∈ T') (hs : ∀ p ∈ T, p ∈ T') (h : HL T ys (List.take i [g 2, g 1, g 0])) : HL T' (ys ++ [.ref a]) (List.take (i + 1) [g 2, g 1, g 0]) := by
  rcases or3n hi with rfl | rfl | rfl <;> (subst hk; exact HL.snoc (p := g _) hm (HL.mono hs h))
theorem km0 {k : Int} {i : Nat} (h : k = 2 - (i : Int)) (hi : i < 3) : 0 ≤ k := by omega
theorem km1 {k : Int} {i : Nat} (h : k = 2 - (i : Int)) : k < 3 := by omega
theorem km2 {k : Int} {i : Nat} (h : k = 2 - (i : Int)) : (i : Int) ≤ 2 - k := by omega
theorem small_n {k c : Int} (h0 : 0 ≤ k) (h1 : k < c) (e : c ≤ 2 ^ 62) : PySem.Builtin.Range.small 0 k 1 = true := small_one (by decide) (by decide) (by omega) (by omega)
theorem tp_le {x : Int → PySem.Str} {ps : List (PySem.Str × PySem.Str)} {i n : Nat} (h : n = (tp x ps i).length) (hp : ps.length ≤ 500) (hi : i ≤ 3) : n ≤ 1000 := by
  have := tp_len (x := x) (ps := ps) i
  omega
theorem two_plain {a b : PySem.Str} (ha : Plain a) (hb : Plain b) : ∀ y ∈ [a, b], Plain y := by
  intro y hy
  simp only [List.mem_cons, List.not_mem_nil, or_false] at hy
  rcases hy with rfl | rfl <;> assumption
theorem HL.drop {T : LLed} {q : Addr × Obj} {I : Addr} {oI : Obj} (hc : oI.cls = .type "tuple_iterator") : ∀ {vs : List Value} {ps : List (PySem.Str × PySem.Str)}, HL (q :: (I, oI) :: T) vs ps → HL (q :: T) vs ps
  | [], [], _ => trivial
  | [], _ :: _, h => h.elim
  | _ :: _, [], h => h.elim
  | _ :: _, p :: _, ⟨⟨a, t, u, e, hm⟩, hr⟩ => ⟨⟨a, t, u, e, by
      rcases List.mem_cons.mp hm with h | h
      · rw [h]; exact List.mem_cons_self ..
      rcases List.mem_cons.mp h with h | h
      · exfalso
        have h2 := congrArg (fun p : Addr × Obj => p.2.cls) h
        simp only [hc] at h2
        exact absurd h2 (by decide)
      · exact List.mem_cons_of_mem _ h⟩, HL.drop hc hr⟩
theorem news_neR {h₀ h : Heap} {L a b : Addr} {o o' : Obj} {news : LLed} (N : News h₀ L h news) (ha : (a, o) ∈ news) (hb : (b, o') ∈ news) (ho : o ≠ o') : a ≠ b := by
  rintro rfl
  have e1 := (N _ ha).1
  have e2 := (N _ hb).1
  rw [e1] at e2
  exact ho (Option.some.inj e2)
theorem rest_c (w : World) (rest : LLed) (px pd ah al af ao : Addr) (kt : Tok) (farvs ordvs vs lv : List Value) (rows : Int → Addr) (rowvs : Int → List Value) (naf nao n1 n2 : Nat) (nrow : Int → Nat) (F : Int → List Int) (ord : List Int) (iv : Nat → Nat) (d : RD) (x : Int → PySem.Str) (r : Int → PySem.Str)
   (G : RestD w rest px pd ah al af ao kt farvs ordvs vs lv rows rowvs naf nao n2 nrow F ord iv d x r) :
    Ctr w 336 [.ref px, .ref al, .ref af, .ref ao] [] 20 ((ah, W.listOf vs.toArray n1) :: rest) fun N Q => ∀ h' tk', N h' rest → Q (.bool true) h' tk' := by
  unfold Ctr
  have hdummy : PySem.Challenge.rw_wo0075_01 = PySem.Challenge.rw_wo0075_01 ∧ hd.heap_39 w.params = hd.heap_39 w.params := by k_fill; exact ⟨rfl, rfl⟩
  clear hdummy
  intro loose mean mg mb dp un gd cn cs a ccd cl outer A₀ base h₀ L m s Q E hB hF hX hN hT hk hdp hun hret
  rcases cs with ⟨ki, na, g1, g2, mo⟩
  dsimp only at hk
  subst hk
  obtain ⟨hpx, hpd, haf, hfar, hrow, hri, hao, hord, hv, hown, hal, hvs, hlv, hpl, hxs, hps, hpn, hpre, hrp, hlst, hlip, e1, e2, e3⟩ := G
  have hz9 := hps.z
  have hvl : vs.length ≤ 1000 := by rw [hvs.length]; omega
  walk_at "fd"
  (repeat' (walk_at "S"; first | ((first | ((with_reducible show wpAny _ _ (eval (PySem.Expr.ListComp _ _ _ _) _) _ _ _); (k_dflt (refine LCg.ListComp_U (F₀ := by k_asm) (by with_unfolding_all rfl) (by decide) (by rfl) (by decide) (by rfl) ?_; lcg_toSrc))) | ((with_reducible show wpAny _ _ (exec (PySem.Stmt.Assign _ (PySem.Expr.ListComp _ _ _ _) _) _) _ _ _); refine wpAny_Assign_Name ?_)); all_goals (try walk_at "fq")) | walk_at "Z"))
  rename (ah < _ ∧ AllLt _ rest) => hL0
  obtain ⟨hr1, hr2, hr3, hr4, hr5⟩ := rest_off hL0.2
  let JJ1 : JTc := fun news₀ i ys news' => An2 (news' = news₀) (VS ys (List.take i [x 0, x 1, x 2]))
  refine compU_inv JJ1 ⟨rfl, trivial⟩ (fun i ys news' h => trivial) ?_ ?_
  · intro i ys news' v I oI C oC D m₂ h2 tk2 E2 hi zj0 zj1 hC hx F8 N8 off ne
    walk_at "fg"
    obtain ⟨rfl, hys⟩ := zj0
    obtain ⟨tv, rfl⟩ := zj1
    revert hC; intro hC; revert hx; intro hx; revert F8; intro F8; revert N8; intro N8; revert off; intro off; revert ne; intro ne
    obtain ⟨k, hk⟩ : ∃ k : Int, k = 0 + (i : Int) := ⟨_, rfl⟩
    rw [← hk] at hx
    have k0 : 0 ≤ k := kk0 hk
    have k1 : k < 3 := kk1 hk hi
    have k2 := kn3 k0
    have k3 := k63 k1
    obtain ⟨f1, f2, f3, f4, f5⟩ := nmL_facts k k0 k1
    obtain ⟨g1, g2, _, _, _⟩ := nm_facts k k0 k1
    obtain ⟨hx1, hx2, hx3, hx4⟩ := hxs k k0 k1
    rw [← f1] at g1 g2 hx1
    walk_at "ug"
    (repeat' (walk_at "S"; first | ((first | ((with_reducible show wpAny _ _ (subscriptTail _ (PySem.Expr.UnaryOp _ _ _) (Value.ref _) (Value.int _ _)) _ _ _); k_dflt (refine' my_last_drop ?Ny38 ?xy38 ?_; (case Ny38 => with_reducible assumption); (case xy38 => with_reducible assumption); intro _)) | ((with_reducible show wpAny _ _ (call (Value.ref 221) _ _) _ _ _); k_dflt (refine' Ctr.use (getall_m _ _ _ _ _ _ _ _ _ _ ?g1y39 ?g2y39 ?g3y39 ?g4y39 _ ?g5y39 ?g6y39 ?g7y39 ?g8y39 ?g9y39) ?k1y39 ?k2y39 ?k3y39 ?k4y39 ?k5y39 ?kKy39 ?kdy39 ?kuy39 ?_; (case k1y39 => k_asm); (case k2y39 => k_asm); (case k3y39 => k_asm); (case k4y39 => k_asm); (case k5y39 => k_asm); (case kKy39 => first | exact rfl | assumption); (case kdy39 => ((try dsimp +zetaDelta only); first | exact dm1 (by with_reducible assumption) rfl | ktr_room)); (case kuy39 => ((try dsimp +zetaDelta only); first | exact um1 (by with_reducible assumption) rfl | ktr_units)); (case g5y39 => k_mem); (case g6y39 => k_mem); (case g7y39 => k_mem); (case g8y39 => (refine' HL.mono ?sy39 ?ay39; (case ay39 => assumption); (case sy39 => walk_at "my_tail"))); (case g9y39 => assumption); (case g1y39 => assumption); (case g2y39 => assumption); (case g3y39 => assumption); (case g4y39 => assumption); (rintro _ _ _ _ zhv9 ⟨_, _⟩; obtain ⟨_, _⟩ := VS.last zhv9 (by assumption); (try dsimp only); (try k_fold))))); all_goals (try walk_at "fq")) | walk_at "Z"))
    all_goals (try k_data)
    rename Fr _ _ _ _ => hF5
    rename News _ _ _ _ => hN5
    refine ⟨_, _, _, rfl, hF5, hN5, off, ?_⟩
    unfold Kept
    refine ⟨rfl, ?_⟩
    exact vs3 (f := x) hk hi hys
  · intro ys news' zj0
    walk_at "fg"
    obtain ⟨rfl, hys⟩ := zj0
    obtain ⟨q0, q1, q2, rfl⟩ := vs_three hys
    clear hys
    walk_at "ug"
    (repeat' (walk_at "S"; first | ((first | ((with_reducible show wpAny _ _ (eval (PySem.Expr.ListComp _ _ _ _) _) _ _ _); (k_dflt (refine LCg.ListComp_U (F₀ := by k_asm) (by with_unfolding_all rfl) (by decide) (by rfl) (by decide) (by rfl) ?_; lcg_toSrc))) | ((with_reducible show wpAny _ _ (exec (PySem.Stmt.Assign _ (PySem.Expr.ListComp _ _ _ _) _) _) _ _ _); refine wpAny_Assign_Name ?_)); all_goals (try walk_at "fq")) | walk_at "Z"))
    let JJ2 : JTc := fun news₀ i ys news' => An2 (news' = news₀) (IntsAre ys (List.take i [d.p.getD 0 0, d.p.getD 1 0, d.p.getD 2 0]))
    refine compU_inv JJ2 ⟨rfl, .nil⟩ (fun i ys news' h => ?s2) ?_ ?_
    case s2 =>
      obtain ⟨rfl, _⟩ := h
      exact .inr ⟨_, by k_mem, rfl, _, rfl⟩
    · intro i ys2 news2 v I oI C oC D2 m₂ h2 tk2 E2 hi zj0 hv2 hC hx F8 N8 off ne
      walk_at "fg"
      obtain ⟨rfl, hys2⟩ := zj0
      revert hv2; intro hv2; revert hC; intro hC; revert hx; intro hx; revert F8; intro F8; revert N8; intro N8; revert off; intro off; revert ne; intro ne
      have hi3 : i < 3 := hi
      obtain ⟨k, hk⟩ : ∃ k : Int, k = (i : Int) := ⟨_, rfl⟩
      have k0 : 0 ≤ k := hk ▸ Int.natCast_nonneg i
      have k1 : k < 3 := hk ▸ Int.ofNat_lt.mpr hi3
      obtain ⟨hx1, hx2, hx3, hx4⟩ := hxs k k0 k1
      obtain ⟨tv, rfl⟩ := vs3_at hk hi3 hv2
      walk_at "ug"
      (repeat' (walk_at "S"; first | (((with_reducible show wpAny _ _ (call (Value.ref 82) _ _) _ _ _); k_dflt (refine' Ctr.use (p229_k _ _ _ _ _ _ _ _ _ _ ?q1y100 ?q5y100) ?k1y100 ?k2y100 ?k3y100 ?k4y100 ?k5y100 ?kKy100 ?kdy100 ?kuy100 ?_; (case k1y100 => k_asm); (case k2y100 => k_asm); (case k3y100 => k_asm); (case k4y100 => k_asm); (case k5y100 => k_asm); (case kKy100 => first | exact rfl | assumption); (case kdy100 => ((try dsimp +zetaDelta only); first | exact dm1 (by with_reducible assumption) rfl | ktr_room)); (case kuy100 => ((try dsimp +zetaDelta only); first | exact um1 (by with_reducible assumption) rfl | ktr_units)); (case q5y100 => k_mem); (case q1y100 => assumption); (rintro _ _ _ _ ⟨_, _⟩; (try dsimp only); (try k_fold)))); all_goals (try walk_at "fq")) | walk_at "Z"))
      all_goals (try k_data)
      rename Fr _ _ _ _ => hF5
      rename News _ _ _ _ => hN5
      refine ⟨_, _, _, rfl, hF5, News.sub hN5 (fun p hp => List.mem_cons_of_mem _ (List.mem_cons_of_mem _ hp)), off, ?_⟩
      unfold Kept
      refine ⟨rfl, ?_⟩
      exact int3k (fun k => d.p.getD k.toNat 0) hk hi3 hys2 rfl
    · intro ys2 news2 zj0
      walk_at "fg"
      obtain ⟨rfl, hys2⟩ := zj0
      have hysp : IntsAre ys2 d.p := by
        have e : d.p = [d.p.getD 0 0, d.p.getD 1 0, d.p.getD 2 0] := by rw [hlst]; rfl
        rw [e]; exact hys2
      clear hys2
      walk_at "ug"
      (repeat' (walk_at "S"; (fail_if_success (with_reducible show wpAny _ _ (call (Value.ref 331) _ _) _ _ _)); walk_at "Z"))
      refine' Ctr.use (least_c w _ af ao farvs ordvs naf nao rows rowvs nrow F ord ?q1 hfar ?q2 ?q3 ?q4 hord iv hv hown) ?k1 ?k2 ?k3 ?k4 ?k5 ?kK ?kd ?ku ?_
      walk_at "my_use"
      case q1 => k_mem
      case q2 => intro i a b; have := hrow i a (by omega); k_mem
      case q3 => intro i a b; exact hri i a (by omega)
      case q4 => k_mem
      intro D7 ys7 k7 h7 tk7 hys7 hN7 hlt7
      obtain ⟨F7, N7⟩ := hN7
      (try dsimp only)
      (try k_fold)
      (repeat' (walk_at "S"; (fail_if_success (with_reducible show wpAny _ _ (compareOp _ (Value.ref _) (Value.ref _)) _ _ _)); walk_at "Z"))
      refine ke_ne_ints (xs := ys2) (ys := ys7) ?hl1 ?hl2 hysp hys7 ?hl3 ?_
      case hl3 => (dsimp +zetaDelta only; ktr_units)
      case hl1 => is_list
      case hl2 => is_list
      (repeat' (walk_at "S"; (fail_if_success (with_reducible show wpAny _ _ (eval (Expr.BinOp (Expr.ListComp _ _ _ _) _ _ _) _) _ _ _)); walk_at "Z"))
      all_goals (try k_data)
      all_goals (try (exfalso; exact absurd hlst (by assumption)))
      refine wpAny_BinOp ?_
      obtain ⟨hov, hol⟩ := hord
      (repeat' (walk_at "S"; first | (((with_reducible show wpAny _ _ (eval (PySem.Expr.ListComp _ _ _ _) _) _ _ _); (k_dflt (refine LCg.ListComp_U (F₀ := by k_asm) (by with_unfolding_all rfl) (by decide) (by rfl) (by decide) (by rfl) ?_; lcg_toSrc))); all_goals (try walk_at "fq")) | walk_at "Z"))
      let JJ3 : JTc := fun news₀ i ys news' => An2 (news' = news₀) (IntsAre ys (List.take i [worI F ord d.p 0, worI F ord d.p 1, worI F ord d.p 2]))
      refine compU_inv JJ3 ⟨rfl, .nil⟩ (fun i ys news' h => trivial) ?_ ?_
      · intro i ys3 news3 v I oI C oC D3 m₂ h3 tk3 E3 hi zj0 zj1 hC hx F8 N8 off ne
        walk_at "fg"
        obtain ⟨rfl, hys3⟩ := zj0
        obtain ⟨tv, rfl⟩ := zj1
        revert hC; intro hC; revert hx; intro hx; revert F8; intro F8; revert N8; intro N8; revert off; intro off; revert ne; intro ne
        obtain ⟨k, hk⟩ : ∃ k : Int, k = 0 + (i : Int) := ⟨_, rfl⟩
        rw [← hk] at hx
        have k0 : 0 ≤ k := kk0 hk
        have k1 : k < 3 := kk1 hk hi
        have k6 : k < 6 := Int.lt_trans k1 (by decide)
        obtain ⟨ho0, ho1⟩ := hown k k0 k1
        have hrow' := hrow k k0 k6
        obtain ⟨hrv, hrl⟩ := hri k k0 k6
        have k2 := kn3 k0
        have k3 := k63 k1
        have k4 := k3n k1 hol
        have k5 := k3n ho1 hpl
        have k7 := k63 ho1
        have k8 := i30 ho0
        have k9 := i3n ho1 hrl
        have ka := i3b ho1
        walk_at "ug"
        (repeat' (walk_at "S"; first | (((with_reducible show wpAny _ _ (subscriptTail _ _ (Value.ref _) (Value.int _ _)) _ _ _); k_dflt (refine' my_itemL ?Ny265 ?my265 ?xy265 ?h0y265 ?hiy265 ?hny265 ?_; (case Ny265 => k_asm); (case my265 => k_mem); (case xy265 => assumption); (case h0y265 => omega); (case hiy265 => omega); (case hny265 => decide); (try dsimp only))); all_goals (try walk_at "fq")) | walk_at "Z"))
        all_goals (try k_data)
        (try dsimp only)
        rename Fr _ _ _ _ => hF5
        rename News _ _ _ _ => hN5
        refine ⟨_, _, _, rfl, hF5, hN5, off, ?_⟩
        unfold Kept
        refine ⟨rfl, ?_⟩
        exact int3k (worI F ord d.p) (hk.trans (Int.zero_add _)) hi hys3 rfl
      · intro ys3 news3 zj0
        walk_at "fg"
        obtain ⟨rfl, hys3⟩ := zj0
        have hys3 : IntsAre ys3 [worI F ord d.p 0, worI F ord d.p 1, worI F ord d.p 2] := hys3
        walk_at "ug"
        (repeat' (walk_at "S"; walk_at "Z"))
        all_goals (try k_data)
        rename IntsAre _ (_ ++ d.p) => hws
        have hwl := hws.length
        rw [List.length_append, hpl] at hwl
        refine For_invVF (by k_asm) rfl rfl ?_
        (repeat' (walk_at "S"; walk_at "Z"))
        rename IsRange _ _ _ _ _ _ _ _ => hR
        rename News _ _ _ _ => hN7
        let JJ4 : JT6 := fun m₀ news₀ I i m news' => An3 (St m₀ [PySem.Str.ofString "u", PySem.Str.ofString "v"] m) (news' = news₀) (∀ p ∈ news', p.1 ≠ I)
        refine range_inv (n := 6) (by rfl) hR (by decide) (by decide) (by k_asm) hN7
          JJ4
          (fun I hI => ⟨St.refl, rfl, fun p hp => Nat.ne_of_lt (hI p hp)⟩) (fun I i m news h => h.3) ?_ ?_
        · intro I i ru m news' h4 tk4 t4 oI hi hru zj0 F9 N9
          walk_at "fg"
          obtain ⟨hst, rfl, q4⟩ := zj0
          revert F9; intro F9; revert N9; intro N9
          obtain ⟨u4, rfl⟩ := hst.open0
          clear hst
          have u0 : 0 ≤ ru := kk0 hru
          have u1 : ru < 6 := kk1 hru hi
          obtain ⟨hrv, hrl⟩ := hri ru u0 u1
          have hrow' := hrow ru u0 u1
          have hk9 : Kept (0 ≤ ru ∧ ru < 6 ∧ i < 6 ∧ ru = 0 + (i : Int)) := ⟨u0, u1, hi, hru⟩
          clear u0 u1 hi hru
          refine letF (G := zG) F9 ?_; clear F9; intro mT F9
          walk_at "ug"
          (repeat' (walk_at "S"; walk_at "Z"))
          all_goals (try k_data)
          refine For_invVF (by k_asm) rfl rfl ?_
          (repeat' (walk_at "S"; walk_at "Z"))
          unfold Kept at hk9
          obtain ⟨u0, u1, hi, hru⟩ := hk9
          rename IsRange _ _ _ _ _ _ _ _ => hR5
          rename News _ _ _ _ => hN6
          let JJ5 : JT6 := fun m₀ news₀ I i m news' => An3 (St m₀ [PySem.Str.ofString "v"] m) (news' = news₀) (∀ p ∈ news', p.1 ≠ I)
          refine range_inv (n := i) (by rfl) hR5 (small_n u0 u1 (by decide)) (by rw [rangeSize_nat]; omega) (by k_asm) hN6
            JJ5
            (fun I hI => ⟨St.refl, rfl, fun p hp => Nat.ne_of_lt (hI p hp)⟩) (fun I i m news h => h.3) ?_ ?_
          · intro I2 i2 rv m news' h5 tk5 t5 oI2 hi2 hrv2 zj0 F8 N8
            walk_at "fg"
            obtain ⟨hst, rfl, q5⟩ := zj0
            revert F8; intro F8; revert N8; intro N8
            obtain ⟨u5, rfl⟩ := hst.open0
            clear hst
            have v0 : 0 ≤ rv := kk0 hrv2
            have v1 : rv < ru := by omega
            have v2 : rv < 6 := Int.lt_trans v1 u1
            have v3 : rv < 2 ^ 63 := Int.lt_trans v2 (by decide)
            have hlp := hlip ru rv u0 u1 v0 v1
            refine letF (G := zG) F8 ?_; clear F8; intro mT F8
            walk_at "ug"
            (repeat' (walk_at "S"; first | (((with_reducible show wpAny _ _ (subscriptTail _ _ (Value.ref _) (Value.int _ _)) _ _ _); k_dflt (refine' my_itemL ?Ny425 ?my425 ?xy425 ?h0y425 ?hiy425 ?hny425 ?_; (case Ny425 => k_asm); (case my425 => k_mem); (case xy425 => assumption); (case h0y425 => omega); (case hiy425 => omega); (case hny425 => decide); (try dsimp only))); all_goals (try walk_at "fq")) | walk_at "Z"))
            all_goals (try k_data)
            · exfalso
              rename (_ < ite _ _ _) => hbad
              simp only [List.cons_append, List.nil_append] at hlp
              split at hbad <;> omega
            · (try dsimp only)
              refine ⟨_, _, _, _, rfl, F8, N8, ?_⟩
              unfold Kept
              exact ⟨by walk_at "st_base", rfl, q5⟩
          · intro I2 m news' h5 tk5 zj0 F8 N8
            walk_at "fg"
            obtain ⟨hst, rfl, q5⟩ := zj0
            revert F8; intro F8; revert N8; intro N8
            obtain ⟨u5, rfl⟩ := hst.open0
            clear hst
            refine letF (G := zG) F8 ?_; clear F8; intro mT F8
            walk_at "ug"
            (try dsimp only)
            (repeat' (walk_at "S"; walk_at "Z"))
            all_goals (try k_data)
            (try dsimp only)
            refine ⟨_, _, _, _, rfl, F8, N8, ?_⟩
            unfold Kept
            exact ⟨by walk_at "st_base", rfl, q4⟩
        · intro I m news' h4 tk4 zj0 F9 N9
          walk_at "fg"
          obtain ⟨hst, rfl, q4⟩ := zj0
          revert F9; intro F9; revert N9; intro N9
          obtain ⟨u4, rfl⟩ := hst.open0
          clear hst
          refine letF (G := zG) F9 ?_; clear F9; intro mT F9
          walk_at "ug"
          (try dsimp only)
          (repeat' (walk_at "S"; first | (((with_reducible show wpAny _ _ (call (Value.ref 246) _ _) _ _ _); k_dflt (refine' Ctr.use (items_m _ _ _ _ _ _ _ _ ?g4y482 ?g5y482 ?g6y482 ?g7y482) ?k1y482 ?k2y482 ?k3y482 ?k4y482 ?k5y482 ?kKy482 ?kdy482 ?kuy482 ?_; (case k1y482 => k_asm); (case k2y482 => k_asm); (case k3y482 => k_asm); (case k4y482 => k_asm); (case k5y482 => k_asm); (case kKy482 => first | exact rfl | assumption); (case kdy482 => ((try dsimp +zetaDelta only); first | exact dm1 (by with_reducible assumption) rfl | ktr_room)); (case kuy482 => ((try dsimp +zetaDelta only); first | exact um1 (by with_reducible assumption) rfl | ktr_units)); (case g5y482 => k_mem); (case g6y482 => k_mem); (case g7y482 => k_mem); (case g4y482 => assumption); (rintro _ _ _ ⟨_, _⟩ _; (try dsimp only); (try k_fold)))); all_goals (try walk_at "fq")) | walk_at "Z"))
          all_goals (try k_data)
          refine For_turns (by k_asm) ?_
          (repeat' (walk_at "S"; walk_at "Z"))
          all_goals (try k_data)
          rename News _ _ _ _ => hN6
          rename Fr _ _ _ _ => hF6
          rename (∀ p ∈ (_ : LLed), p.1 < _) => hl6
          have hq6 : ah < _ := hl6 (ah, _) (by k_mem)
          obtain ⟨T0, hN8, mt, mk9, ml, m5, m4, m3, m2, m1, hrT, hTa⟩ := rest_start hN6 (by k_ne) (Ne.symm (Nat.ne_of_lt hq6)) (by k_ne) (by k_ne) (by k_ne) (by k_ne) (by k_ne) (by k_ne) e3
          obtain ⟨e, he⟩ := hpre
          obtain ⟨a0, a1, a2, b0, b1, b2, b3, b4, b5, lr, rfl, hA0, hA1, hA2⟩ := hl_three (he ▸ hlv)
          have hLl : LV [Value.str (x 0) q0, .str (x 1) q1, .str (x 2) q2] 3 (fun k => .str (x k) (at3 q0 q1 q2 k)) := by
            intro k h0 h1
            rcases (show k = 0 ∨ k = 1 ∨ k = 2 by omega) with rfl | rfl | rfl <;> rfl
          have hLg : LV (Value.ref a0 :: .ref a1 :: .ref a2 :: lr) 3 (fun k => .ref (at3 a0 a1 a2 k)) := by
            intro k h0 h1
            rcases (show k = 0 ∨ k = 1 ∨ k = 2 by omega) with rfl | rfl | rfl <;> rfl
          have hAk : ∀ k : Int, 0 ≤ k → k < 3 → ∃ t u, (at3 a0 a1 a2 k, tup2 (.str (nmK k) t) (.str (r k) u)) ∈ rest := by
            intro k h0 h1
            rcases (show k = 0 ∨ k = 1 ∨ k = 2 by omega) with rfl | rfl | rfl
            · exact ⟨_, _, hA0⟩
            · exact ⟨_, _, hA1⟩
            · exact ⟨_, _, hA2⟩
          have hvs0 := HL.mono hrT hvs
          clear hN6 N9 hl6 hq6 hR q4 F9 hws hwl hys3
          let JJ6 : JT6 := fun m₀ news₀ I i m news => An2 (St m₀ [PySem.Str.ofString "first", PySem.Str.ofString "j"] m) (Ex3 fun (vs' : List Value) (n' : Nat) (T' : LLed) => An5 (news = (ah, W.listOf vs'.toArray n') :: T') (∀ p ∈ T0, p ∈ T') (∀ p ∈ T', p.1 ≠ ah) (HL T' vs' (tp x d.ps i)) (∀ p ∈ news, p.1 ≠ I))
          refine tup_inv (vs := [_, _, _]) (by rfl) hF6 hN8 (List.mem_cons_of_mem _ mt) rfl rfl
            JJ6
            (fun I hI => ⟨St.refl, vs, n1, T0, rfl, fun p hp => hp, hTa, hvs0, fun p hp => Nat.ne_of_lt (hI p hp)⟩) (fun I i m news h => ?j3) ?_ ?_
          case j3 =>
            obtain ⟨_, vs', n', T', rfl, h8, _, _, h9⟩ := h
            exact ⟨List.mem_cons_of_mem _ (h8 _ mt), h9⟩
          · intro I i v m news h6 tk6 oI hv6 zj0 F9 N9 hcI
            walk_at "fg"
            obtain ⟨hst, vs6, n6, T6, rfl, hT6, hTa6, hH6, q6⟩ := zj0
            revert F9; intro F9; revert N9; intro N9; revert hcI; intro hcI
            obtain ⟨u6, rfl⟩ := hst.open0
            clear hst hN8 hF6
            have hi3 : i < 3 := (List.getElem?_eq_some_iff.mp hv6).1
            obtain ⟨k, hk⟩ : ∃ k : Int, k = 2 - (i : Int) := ⟨_, rfl⟩
            have k0 : 0 ≤ k := km0 hk hi3
            have k1 : k < 3 := km1 hk
            have k2 := kn3 k0
            have k3 := k63 k1
            obtain ⟨tv, rfl⟩ := g3k hk hv6
            clear hv6
            obtain ⟨f1, f2, f3, f4, f5⟩ := nmL_facts k k0 k1
            obtain ⟨g1, g2, g3, _, _⟩ := nm_facts k k0 k1
            obtain ⟨hx1, hx2, hx3, hx4⟩ := hxs k k0 k1
            have hrk := hrp k k0 k1
            have hs1 : (sel (Txt.lower (nml k)) (tp x d.ps i)).head? = some (r k) := by
              rw [f2, tp_first k0 k1 i (km2 hk), he]
              exact sel_pre k0 k1
            have hs2 : (sel (Txt.lower (nml k)) (tp x d.ps (i + 1))).head? = some (x k) := by
              rw [f2, hk, tp_last]
              rfl
            have g1' := g1
            have g2' := g2
            rw [← f2] at g1' g2'
            have hz6 := tp_z (x := x) hz9 i (by omega)
            have hz7 := tp_z (x := x) hz9 (i + 1) (by omega)
            have hl6 : vs6.length ≤ 1000 := tp_le hH6.length hpn (Nat.le_of_lt hi3)
            obtain ⟨tA, uA, hAm⟩ := hAk k k0 k1
            have hpx6 := hT6 _ (hrT _ hpx)
            have hpd6 := hT6 _ (hrT _ hpd)
            have hal6 := hT6 _ (hrT _ hal)
            have hAm6 := hT6 _ (hrT _ hAm)
            have ml6 := hT6 _ ml
            have mc5 := hT6 _ m5
            have mc4 := hT6 _ m4
            have mc3 := hT6 _ m3
            have mc2 := hT6 _ m2
            have mc1 := hT6 _ m1
            have hIa := q6 _ (List.mem_cons_self ..)
            have hIa' := hIa.symm
            refine letF (G := zG) F9 ?_; clear F9; intro mT F9
            walk_at "ug"
            (repeat' (walk_at "S"; (fail_if_success (with_reducible show wpAny _ _ (call (Value.ref 197) _ _) _ _ _)); first | ((first | ((with_reducible show wpAny _ _ (call (Value.ref 229) _ _) _ _ _); k_dflt (refine' Ctr.use (get_m _ _ _ _ _ _ _ _ _ _ ?g1y545 ?g2y545 ?g3y545 ?g4y545 _ ?g8y545 ?g9y545 _ ?gxy545 ?g5y545 ?g6y545 ?g7y545) ?k1y545 ?k2y545 ?k3y545 ?k4y545 ?k5y545 ?kKy545 ?kdy545 ?kuy545 ?_; (case k1y545 => k_asm); (case k2y545 => k_asm); (case k3y545 => k_asm); (case k4y545 => k_asm); (case k5y545 => k_asm); (case kKy545 => first | exact rfl | assumption); (case kdy545 => ((try dsimp +zetaDelta only); first | exact dm1 (by with_reducible assumption) rfl | ktr_room)); (case kuy545 => ((try dsimp +zetaDelta only); first | exact um1 (by with_reducible assumption) rfl | ktr_units)); (case g5y545 => k_mem); (case g6y545 => k_mem); (case g7y545 => k_mem); (case g8y545 => (refine' HL.mono ?sy545 ?ay545; (case ay545 => assumption); (case sy545 => walk_at "my_tail"))); (case g9y545 => assumption); (case gxy545 => assumption); (case g1y545 => assumption); (case g2y545 => assumption); (case g3y545 => assumption); (case g4y545 => assumption); (rintro _ _ _ ⟨_, _⟩; (try dsimp only); (try k_fold)))) | ((with_reducible show wpAny _ _ (subscriptTail _ _ (Value.ref _) (Value.int _ _)) _ _ _); k_dflt (refine' my_itemL ?Ny553 ?my553 ?xy553 ?h0y553 ?hiy553 ?hny553 ?_; (case Ny553 => k_asm); (case my553 => k_mem); (case xy553 => assumption); (case h0y553 => omega); (case hiy553 => omega); (case hny553 => decide); (try dsimp only)))); all_goals (try walk_at "fq")) | walk_at "Z"))
            all_goals (try k_data)
            refine' Ctr.use (set_m w _ ((I, oI) :: T6) px pd ah vs6 n6 kt (nmK k) (x k) _ _ g1 g2 g3 f5 hx3 hx4 hl6 _ (HL.mono (fun p hp => List.mem_cons_of_mem _ hp) hH6) hz6 e1 e2 (off_cons hIa' hTa6) ?q1 ?q2 ?q3 ?q4) ?k1 ?k2 ?k3 ?k4 ?k5 ?kK ?kd ?ku ?_
            walk_at "my_use"
            case q1 => k_mem
            case q2 => k_mem
            case q3 => k_mem
            case q4 =>
              intro p hp
              (first | (revert p; refine all_cons ?_ (fun p hp => ?_)) | rcases List.mem_cons.mp hp with rfl | hp)
              · exact List.mem_cons_self ..
              · exact List.mem_cons_of_mem _ (List.mem_cons_of_mem _ hp)
            intro a8 t8 u8 vs8 n8 h8 tk8 hH8 hN8 ha8
            obtain ⟨F8, N8⟩ := hN8
            have hH8 : HL ((a8, tup2 (.str (nmK k) t8) (.str (x k) u8)) :: (I, oI) :: T6) vs8 (tp x d.ps (i + 1)) := by have q := hH8; rw [hk] at q ⊢; exact q
            have hl8 : vs8.length ≤ 1000 := tp_le hH8.length hpn hi3
            have ha8' := ha8.symm
            (try dsimp only)
            (try k_fold)
            (repeat' (walk_at "S"; (fail_if_success (with_reducible show wpAny _ _ (compareOp _ (Value.ref _) (Value.ref _)) _ _ _)); first | ((first | ((with_reducible show wpAny _ _ (call (Value.ref 229) _ _) _ _ _); k_dflt (refine' Ctr.use (get_m _ _ _ _ _ _ _ _ _ _ ?g1y577 ?g2y577 ?g3y577 ?g4y577 _ ?g8y577 ?g9y577 _ ?gxy577 ?g5y577 ?g6y577 ?g7y577) ?k1y577 ?k2y577 ?k3y577 ?k4y577 ?k5y577 ?kKy577 ?kdy577 ?kuy577 ?_; (case k1y577 => k_asm); (case k2y577 => k_asm); (case k3y577 => k_asm); (case k4y577 => k_asm); (case k5y577 => k_asm); (case kKy577 => first | exact rfl | assumption); (case kdy577 => ((try dsimp +zetaDelta only); first | exact dm1 (by with_reducible assumption) rfl | ktr_room)); (case kuy577 => ((try dsimp +zetaDelta only); first | exact um1 (by with_reducible assumption) rfl | ktr_units)); (case g5y577 => k_mem); (case g6y577 => k_mem); (case g7y577 => k_mem); (case g8y577 => (refine' HL.mono ?sy577 ?ay577; (case ay577 => assumption); (case sy577 => walk_at "my_tail"))); (case g9y577 => assumption); (case gxy577 => assumption); (case g1y577 => assumption); (case g2y577 => assumption); (case g3y577 => assumption); (case g4y577 => assumption); (rintro _ _ _ ⟨_, _⟩; (try dsimp only); (try k_fold)))) | ((with_reducible show wpAny _ _ (subscriptTail _ _ (Value.ref _) (Value.int _ _)) _ _ _); k_dflt (refine' my_itemL ?Ny585 ?my585 ?xy585 ?h0y585 ?hiy585 ?hny585 ?_; (case Ny585 => k_asm); (case my585 => k_mem); (case xy585 => assumption); (case h0y585 => omega); (case hiy585 => omega); (case hny585 => decide); (try dsimp only)))); all_goals (try walk_at "fq")) | walk_at "Z"))
            all_goals (try k_data)
            rename News _ _ _ _ => hN5
            refine vs_ne (xs := [r k, x k]) (ys := [r k, x k]) (vs := [_, _]) (ws := [_, _]) hN5 (.tail _ (.head _)) (.head _) ⟨⟨_, rfl⟩, ⟨_, rfl⟩, trivial⟩ ⟨⟨_, rfl⟩, ⟨_, rfl⟩, trivial⟩ (two_plain hrk hx3) (two_plain hrk hx3) (by (try dsimp +zetaDelta only); ktr_units) ?_
            rw [decide_eq_true (rfl : [r k, x k] = [r k, x k])]
            (repeat' (walk_at "S"; walk_at "Z"))
            all_goals (try k_data)
            (try dsimp only)
            rename Fr _ _ _ _ => hF5
            have ha8I : a8 ≠ I := news_neR (o := tup2 (.str (nmK k) t8) (.str (x k) u8)) (o' := oI) hN5 (by simp) (by simp) fun e => by
              have := congrArg (fun o : Obj => o.cls) e
              simp only [hcI] at this
              exact absurd this (by decide)
            refine ⟨_, _, _, (ah, W.listOf vs8.toArray n8) :: (a8, tup2 (.str (nmK k) t8) (.str (x k) u8)) :: T6, rfl, hF5, News.sub hN5 (fun p hp => ?_), ?_⟩
            · (first | (revert p; refine all_cons ?_ (fun p hp => ?_)) | rcases List.mem_cons.mp hp with rfl | hp)
              · simp
              (first | (revert p; refine all_cons ?_ (fun p hp => ?_)) | rcases List.mem_cons.mp hp with rfl | hp)
              · simp
              (first | (revert p; refine all_cons ?_ (fun p hp => ?_)) | rcases List.mem_cons.mp hp with rfl | hp)
              · simp
              · simp [hp]
            unfold Kept
            exact ⟨by walk_at "st_base", vs8, n8, _, rfl, fun p hp => List.mem_cons_of_mem _ (hT6 p hp), off_cons ha8 hTa6, hH8.drop hcI, off_cons hIa (off_cons ha8I (fun p hp => q6 p (List.mem_cons_of_mem _ hp)))⟩
          · intro I m news h6 tk6 zj0 F9 N9
            walk_at "fg"
            obtain ⟨hst, vs6, n6, T6, rfl, hT6, hTa6, hH6, q6⟩ := zj0
            revert F9; intro F9; revert N9; intro N9
            obtain ⟨u6, rfl⟩ := hst.open0
            clear hst hN8 hF6
            have hH6 : HL T6 vs6 (tp x d.ps 3) := hH6
            rw [tp_end hps] at hH6
            have hl6 : vs6.length ≤ 1000 := by rw [hH6.length]; exact (by decide : 3 ≤ 1000)
            have hpx6 := hT6 _ (hrT _ hpx)
            have hpd6 := hT6 _ (hrT _ hpd)
            have hal6 := hT6 _ (hrT _ hal)
            have ml6 := hT6 _ ml
            have mk6 := hT6 _ mk9
            have mc5 := hT6 _ m5
            have mc4 := hT6 _ m4
            have mc3 := hT6 _ m3
            have mc2 := hT6 _ m2
            have mc1 := hT6 _ m1
            refine letF (G := zG) F9 ?_; clear F9; intro mT F9
            walk_at "ug"
            (try dsimp only)
            (repeat' (walk_at "S"; (fail_if_success (with_reducible show wpAny _ _ (compareOp _ (Value.ref _) (Value.ref _)) _ _ _)); walk_at "Z"))
            all_goals (try k_data)
            rename News _ _ _ _ => hN5
            refine hl_eq hN5 (List.mem_cons_of_mem _ mk6) (List.mem_cons_of_mem _ hal6) (HL.mono (fun p hp => List.mem_cons_of_mem _ (hT6 p (hrT p hp))) hvs) (HL.mono (fun p hp => List.mem_cons_of_mem _ (hT6 p (hrT p hp))) hlv) hps.pl hps.pl (by (try dsimp +zetaDelta only); ktr_units) ?_
            rw [decide_eq_true (rfl : d.ps = d.ps)]
            (repeat' (walk_at "S"; (fail_if_success (with_reducible show wpAny _ _ (compareOp _ (Value.ref _) (Value.ref _)) _ _ _)); (fail_if_success (with_reducible show wpAny _ _ (eval (Expr.ListComp _ _ _ _) _) _ _ _)); first | (((with_reducible show wpAny _ _ (call (Value.ref 246) _ _) _ _ _); k_dflt (refine' Ctr.use (items_m _ _ _ _ _ _ _ _ ?g4y674 ?g5y674 ?g6y674 ?g7y674) ?k1y674 ?k2y674 ?k3y674 ?k4y674 ?k5y674 ?kKy674 ?kdy674 ?kuy674 ?_; (case k1y674 => k_asm); (case k2y674 => k_asm); (case k3y674 => k_asm); (case k4y674 => k_asm); (case k5y674 => k_asm); (case kKy674 => first | exact rfl | assumption); (case kdy674 => ((try dsimp +zetaDelta only); first | exact dm1 (by with_reducible assumption) rfl | ktr_room)); (case kuy674 => ((try dsimp +zetaDelta only); first | exact um1 (by with_reducible assumption) rfl | ktr_units)); (case g5y674 => k_mem); (case g6y674 => k_mem); (case g7y674 => k_mem); (case g4y674 => assumption); (rintro _ _ _ ⟨_, _⟩ _; (try dsimp only); (try k_fold)))); all_goals (try walk_at "fq")) | walk_at "Z"))
            all_goals (try k_data)
            refine listcomp_tup (F₀ := by k_asm) (by with_unfolding_all rfl) (by decide) (by rfl) (by decide) (by rfl) ?_
            (repeat' (walk_at "S"; walk_at "Z"))
            all_goals (try k_data)
            rename News _ _ _ _ => hN4
            rename Fr _ _ _ _ => hF4
            refine ⟨_, _, _, _, rfl, rfl, hF4, hN4, List.mem_cons_self .., (by show 3 ≤ _; rw [sizeLine_eq]; omega), fun s₂ hs₂ => ?_⟩
            obtain ⟨g9, rfl⟩ := hs₂
            let JJ7 : JTc := fun news₀ i ys news' => An2 (∀ p ∈ news₀, p ∈ news') (HL news' ys (List.take i [(nmK 2, x 2), (nmK 1, x 1), (nmK 0, x 0)]))
            refine compU_inv JJ7 ⟨fun p hp => hp, trivial⟩ (fun i ys news' h => h.1 _ (List.mem_cons_self ..)) ?_ ?_
            · intro i ys7 news7 v I7 oI7 C7 oC7 D7 m₇ h7 tk7 E7 hi7 zj0 hv7 hC7 hx7 F7 N7 off7 ne7
              walk_at "fg"
              obtain ⟨hsub7, hH7⟩ := zj0
              revert hv7; intro hv7; revert hC7; intro hC7; revert hx7; intro hx7; revert F7; intro F7; revert N7; intro N7; revert off7; intro off7; revert ne7; intro ne7
              have hi3 : i < 3 := hi7
              obtain ⟨k, hk⟩ : ∃ k : Int, k = 2 - (i : Int) := ⟨_, rfl⟩
              have k0 : 0 ≤ k := km0 hk hi3
              have k1 : k < 3 := km1 hk
              have k2 := kn3 k0
              have k3 := k63 k1
              obtain ⟨tv, rfl⟩ := g3k hk (by simpa using hv7)
              clear hv7 hN4 hF4
              have ml7 := hsub7 _ (List.mem_cons_of_mem _ (List.mem_cons_of_mem _ (List.mem_cons_of_mem _ ml6)))
              have mc47 := hsub7 _ (List.mem_cons_of_mem _ (List.mem_cons_of_mem _ (List.mem_cons_of_mem _ mc4)))
              walk_at "ug"
              (repeat' (walk_at "S"; first | (((with_reducible show wpAny _ _ (subscriptTail _ _ (Value.ref _) (Value.int _ _)) _ _ _); k_dflt (refine' my_itemL ?Ny745 ?my745 ?xy745 ?h0y745 ?hiy745 ?hny745 ?_; (case Ny745 => k_asm); (case my745 => k_mem); (case xy745 => assumption); (case h0y745 => omega); (case hiy745 => omega); (case hny745 => decide); (try dsimp only))); all_goals (try walk_at "fq")) | walk_at "Z"))
              all_goals (try k_data)
              (try dsimp only)
              rename Fr _ _ _ _ => hF5
              rename News _ _ _ _ => hN5
              rename (_ ∧ _ ∧ _ ∧ AllLt _ news7) => hlt9
              have hN8 := turn_reorder hN5
              refine ⟨_, _, _, rfl, hF5, hN8, ⟨⟨Ne.symm (Nat.ne_of_lt hlt9.1), Ne.symm (Nat.ne_of_lt hlt9.2.1), Ne.symm (Nat.ne_of_lt hlt9.2.2.1)⟩, off7⟩, ?_⟩
              unfold Kept
              refine ⟨fun p hp => List.mem_cons_of_mem _ (hsub7 p hp), ?_⟩
              exact hl3r (fun k => (nmK k, x k)) hk hi3 (List.mem_cons_self ..) (fun p hp => List.mem_cons_of_mem _ hp) hH7
            · intro ys7 news7 zj0
              walk_at "fg"
              obtain ⟨hsub7, hH7⟩ := zj0
              have hH7 : HL news7 ys7 [(nmK 2, x 2), (nmK 1, x 1), (nmK 0, x 0)] := hH7
              walk_at "ug"
              (repeat' (walk_at "S"; (fail_if_success (with_reducible show wpAny _ _ (compareOp _ (Value.ref _) (Value.ref _)) _ _ _)); walk_at "Z"))
              all_goals (try k_data)
              (try dsimp only [qk])
              (repeat' (walk_at "S"; (fail_if_success (with_reducible show wpAny _ _ (compareOp _ (Value.ref _) (Value.ref _)) _ _ _)); walk_at "Z"))
              all_goals (try k_data)
              rename News _ _ _ _ => hN5
              have hpa : AllPl [(nmK 2, x 2), (nmK 1, x 1), (nmK 0, x 0)] := by
                intro p hp
                revert p; refine List.forall_mem_cons.mpr ⟨?_, List.forall_mem_cons.mpr ⟨?_, List.forall_mem_cons.mpr ⟨?_, List.forall_mem_nil _⟩⟩⟩
                · exact ⟨(nmL_facts 2 (by decide) (by decide)).2.2.2.2, (hxs 2 (by decide) (by decide)).2.2.1⟩
                · exact ⟨(nmL_facts 1 (by decide) (by decide)).2.2.2.2, (hxs 1 (by decide) (by decide)).2.2.1⟩
                · exact ⟨(nmL_facts 0 (by decide) (by decide)).2.2.2.2, (hxs 0 (by decide) (by decide)).2.2.1⟩
              refine hl_eq hN5 (List.mem_cons_of_mem _ (hsub7 _ (.tail _ (.head _)))) (List.mem_cons_self ..) (HL.mono (fun p hp => List.mem_cons_of_mem _ (hsub7 p (List.mem_cons_of_mem _ (List.mem_cons_of_mem _ (List.mem_cons_of_mem _ hp))))) hH6) (HL.mono (fun p hp => List.mem_cons_of_mem _ hp) hH7) hpa hpa (by (try dsimp +zetaDelta only); ktr_units) ?_
              rw [decide_eq_true (rfl : [(nmK 2, x 2), (nmK 1, x 1), (nmK 0, x 0)] = [(nmK 2, x 2), (nmK 1, x 1), (nmK 0, x 0)])]
              (repeat' (walk_at "S"; walk_at "Z"))
              all_goals (try k_data)
              rename News h₀ L _ _ => kN9
              exact hret _ _ ⟨by k_asm, News.sub kN9 fun p hp => List.mem_cons_of_mem _ (hsub7 p (List.mem_cons_of_mem _ (List.mem_cons_of_mem _ (List.mem_cons_of_mem _ (hT6 p (hrT p hp))))))⟩
end
section
open PySem PySem.W PyProof.Rows PySem.Calls PySem.Spec
theorem sc_le (x y : Nat) : sc x y ≤ 2 := by
  unfold sc
  split
  · omega
  · split <;> omega
theorem ed_max : ∀ (n : Nat) (u v : List Nat), u.length ≤ n → v.length ≤ n → ed u v ≤ 2 * n
  | n, [], v, _, h => by rw [ed_nil]; omega
  | n, x :: u, [], h, _ => by rw [ed_nil']; omega
  | 0, x :: u, y :: v, h, _ => by simp at h
  | n + 1, x :: u, y :: v, h, h' => by
    have a := ed_sub x y u v
    have b := ed_max n u v (by simpa using h) (by simpa using h')
    have c := sc_le x y
    omega
def dW (wd : Int → PySem.Str) (p q : Nat) : Int := if p = q then 0 else dstW wd (min p q) (max p q)
section
variable {wd : Int → PySem.Str} (hw : ∀ k : Int, 0 ≤ k → k < 6 → OkW (wd k))
include hw
theorem dst_ed {p q : Nat} (hp : p < 6) (hq : q < 6) : dstW wd p q = (ed (wd (p : Int)).cps.toList (wd (q : Int)).cps.toList : Int) := lev_ed (hw _ (by omega) (by omega)) (hw _ (by omega) (by omega))
theorem ed_self_w : ∀ u : List Nat, okL u → ed u u = 0
  | [], _ => rfl
  | x :: u, h => by
    have a := ed_sub x x u u
    have b := ed_self_w u (fun c hc => h c (List.mem_cons_of_mem _ hc))
    have c : sc x x = 0 := by unfold sc; simp
    omega
theorem dW_ed {p q : Nat} (hp : p < 6) (hq : q < 6) : dW wd p q = (ed (wd (p : Int)).cps.toList (wd (q : Int)).cps.toList : Int) := by
  unfold dW
  have ap := (okW_L (hw (p : Int) (by omega) (by omega))).1
  have aq := (okW_L (hw (q : Int) (by omega) (by omega))).1
  split
  · rename_i e
    subst e
    rw [ed_self_w hw _ ap]; rfl
  · by_cases h : p ≤ q
    · rw [Nat.min_eq_left h, Nat.max_eq_right h, dst_ed hw hp hq]
    · rw [Nat.min_eq_right (by omega), Nat.max_eq_left (by omega), dst_ed hw hq hp]
      rw [ed_comm _ _ _ (Nat.le_refl _) aq ap]
theorem dW_bd {p q : Nat} (hp : p < 6) (hq : q < 6) : 0 ≤ dW wd p q ∧ dW wd p q ≤ 6 := by
  rw [dW_ed hw hp hq]
  have a := (okW_L (hw (p : Int) (by omega) (by omega))).2.2
  have b := (okW_L (hw (q : Int) (by omega) (by omega))).2.2
  have := ed_max 3 _ _ a b
  omega
theorem dW_met : Met (dW wd) where
  sym := fun u v hu hv => by
    rw [dW_ed hw hu hv, dW_ed hw hv hu]
    exact congrArg _ (ed_comm _ _ _ (Nat.le_refl _) (okW_L (hw (u : Int) (by omega) (by omega))).1 (okW_L (hw (v : Int) (by omega) (by omega))).1)
  tri := fun u v x hu hv hx => by
    rw [dW_ed hw hu hx, dW_ed hw hu hv, dW_ed hw hv hx]
    have := ed_triangle (okW_L (hw (u : Int) (by omega) (by omega))).1 (okW_L (hw (v : Int) (by omega) (by omega))).1 (okW_L (hw (x : Int) (by omega) (by omega))).1
    omega
end
section
variable {mk : PySem.Str} {F : Int → List Int} {ord : List Int} {wd : Int → PySem.Str} {ps : List (PySem.Str × PySem.Str)} {D : Nat → Nat → Int}
theorem three_list {p : List Int} {a b c : Int} (h : p.length = 3) (h0 : p.getD 0 0 = a) (h1 : p.getD 1 0 = b) (h2 : p.getD 2 0 = c) : p = [a, b, c] := by
  match p, h with
  | [x, y, z], _ => rw [show x = a from h0, show y = b from h1, show z = c from h2]
theorem at_rest (hv : Inv ord (ivOf ord)) (ho : OrdOk ord) {d : RD} (hd : d.p = [0, 0, 0]) (h3 : (dR mk F ord wd (dR mk F ord wd (dR mk F ord wd d))).r = 0) :
    (∀ i j, i < 3 → j < 3 → (dR mk F ord wd (dR mk F ord wd (dR mk F ord wd d))).p.getD (oOf ord i) 0 + svd F ord i j ≤ (dR mk F ord wd (dR mk F ord wd (dR mk F ord wd d))).p.getD j 0) ∧
    (dR mk F ord wd (dR mk F ord wd (dR mk F ord wd d))).p = [leastB (sv F ord (ivOf ord)) 0, leastB (sv F ord (ivOf ord)) 1, leastB (sv F ord (ivOf ord)) 2] := by
  have l0 : d.p.length = 3 := by rw [hd]; rfl
  have l1 := (dR_up (mk := mk) (F := F) (wd := wd) ho l0).1
  have l2 := (dR_up (mk := mk) (F := F) (wd := wd) ho l1).1
  have l3 := (dR_up (mk := mk) (F := F) (wd := wd) ho l2).1
  have hs := (dR_same (mk := mk) (F := F) (wd := wd) ho l2 h3).1
  have hr := (dR_rest (mk := mk) (F := F) (wd := wd) ho l2).mp h3
  rw [hs]
  refine ⟨hr, ?_⟩
  have hl := (third (mk := mk) (F := F) (wd := wd) hv ho hd).2 h3
  rw [hs] at hl
  refine three_list l2 (hl 0 (by decide)) (hl 1 (by decide)) (hl 2 (by decide))
theorem hlip_of (hD : Met D) (hF : ∀ u v : Nat, u < 6 → v < 6 → (F (u : Int)).getD v 0 = D u v) (hv : Inv ord (ivOf ord)) (hown : ∀ i : Int, 0 ≤ i → i < 3 → 0 ≤ ord.getD i.toNat 0 ∧ ord.getD i.toNat 0 < 3) {p : List Int} (hp : p.length = 3)
    (hr : ∀ i j, i < 3 → j < 3 → p.getD (oOf ord i) 0 + svd F ord i j ≤ p.getD j 0) (ivl : ∀ a, a < 3 → ivOf ord a < 3) :
    ∀ u v : Int, 0 ≤ u → u < 6 → 0 ≤ v → v < u → ((([worI F ord p 0, worI F ord p 1, worI F ord p 2] ++ p).getD u.toNat 0 - ([worI F ord p 0, worI F ord p 1, worI F ord p 2] ++ p).getD v.toNat 0).natAbs : Int) ≤ (F u).getD v.toNat 0 := by
  have ho3 : ∀ i, i < 3 → oOf ord i < 3 := fun i hi => by
    obtain ⟨a, b⟩ := hown (i : Int) (by omega) (by omega)
    unfold oOf
    have e : ((i : Int)).toNat = i := by omega
    rw [e] at a b
    omega
  have hsv : ∀ i j, i < 3 → j < 3 → svd F ord i j = D i (3 + oOf ord i) - D i (3 + j) := fun i j hi hj => by
    have := ho3 i hi
    unfold svd
    rw [← hF i (3 + j) (by omega) (by omega), ← hF i (3 + oOf ord i) (by omega) (by omega)]
    rfl
  have L := lip (D := D) (p := fun k => p.getD k 0) (o := oOf ord) (iv := ivOf ord) hD ho3 (fun a ha => ⟨ivl a ha, hv.o a ha⟩) (fun i j hi hj => by rw [← hsv i j hi hj]; exact hr i j hi hj)
  have hW : ∀ u : Nat, u < 6 → ([worI F ord p 0, worI F ord p 1, worI F ord p 2] ++ p).getD u 0 = wor D (fun k => p.getD k 0) (oOf ord) u := by
    intro u hu
    have key : ∀ i : Nat, i < 3 → worI F ord p (i : Int) = p.getD (oOf ord i) 0 + D i (3 + oOf ord i) := fun i hi => by
      obtain ⟨a, b⟩ := hown (i : Int) (by omega) (by omega)
      have := ho3 i hi
      unfold worI
      have e : ((i : Int)).toNat = i := by omega
      rw [e] at a b ⊢
      have e2 : (3 + ord.getD i 0).toNat = 3 + oOf ord i := by unfold oOf; omega
      rw [e2, hF i (3 + oOf ord i) (by omega) (by omega)]
      rfl
    unfold wor
    match p, hp with
    | [a, b, c], _ =>
      rcases (show u = 0 ∨ u = 1 ∨ u = 2 ∨ u = 3 ∨ u = 4 ∨ u = 5 by omega) with rfl | rfl | rfl | rfl | rfl | rfl
      · exact key 0 (by decide)
      · exact key 1 (by decide)
      · exact key 2 (by decide)
      · rfl
      · rfl
      · rfl
  intro u v u0 u1 v0 v1
  have e1 := hW u.toNat (by omega)
  have e2 := hW v.toNat (by omega)
  rw [e1, e2]
  have a := L u.toNat v.toNat (by omega) (by omega)
  have b := L v.toNat u.toNat (by omega) (by omega)
  have c := hD.sym u.toNat v.toNat (by omega) (by omega)
  have e := hF u.toNat v.toNat (by omega) (by omega)
  have e3 : ((u.toNat : Nat) : Int) = u := by omega
  rw [e3] at e
  omega
end
end
section
open PySem PySem.W PyProof.Rows PySem.Calls PySem.Spec
theorem round_back {g h : Heap} {L I C D ah al apl : Addr} {oI oC oD o1 o2 o3 x1 x2 x3 : Obj} {aw : Addr × Obj} {T R' : LLed} {vs lv : List Value} {ps : List (PySem.Str × PySem.Str)} (N : News g L h ((ah, o1) :: (al, o2) :: (apl, o3) :: R'))
    (hs : ∀ p ∈ (aw :: (I, oI) :: (C, oC) :: (D, oD) :: T : LLed), p ∈ R') (S : Sub T (aw :: (I, oI) :: (C, oC) :: (D, oD) :: T) R' vs lv ps) (off : LCg.Off3 I C D ((ah, x1) :: (al, x2) :: (apl, x3) :: T))
    (q1 : ∀ p ∈ R', p.1 ≠ ah) (q2 : ∀ p ∈ R', p.1 ≠ al) (q3 : ∀ p ∈ R', p.1 ≠ apl) :
    ∃ T' : LLed, News g L h ((I, oI) :: (C, oC) :: (D, oD) :: (ah, o1) :: (al, o2) :: (apl, o3) :: T') ∧ (∀ p ∈ T, p ∈ T') ∧ HL T' vs ps ∧ HL T' lv ps ∧ LCg.Off3 I C D ((ah, o1) :: (al, o2) :: (apl, o3) :: T') ∧ (∀ p ∈ T', p.1 ≠ ah) ∧ (∀ p ∈ T', p.1 ≠ al) ∧ (∀ p ∈ T', p.1 ≠ apl) := by
  obtain ⟨T1, k0, k1, k2, k3, k4⟩ := S
  have key := off.mem
  refine ⟨T1, News.sub N (fun p hp => ?_), k0, k2, k3, LCg.Off3.of (fun p hp => ?_), fun p hp => q1 p (k1 p hp), fun p hp => q2 p (k1 p hp), fun p hp => q3 p (k1 p hp)⟩
  · have mI := hs (I, oI) (by simp)
    have mC := hs (C, oC) (by simp)
    have mD := hs (D, oD) (by simp)
    (first | (revert p; refine all_cons ?_ (fun p hp => ?_)) | rcases List.mem_cons.mp hp with rfl | hp)
    · simp [mI]
    (first | (revert p; refine all_cons ?_ (fun p hp => ?_)) | rcases List.mem_cons.mp hp with rfl | hp)
    · simp [mC]
    (first | (revert p; refine all_cons ?_ (fun p hp => ?_)) | rcases List.mem_cons.mp hp with rfl | hp)
    · simp [mD]
    (first | (revert p; refine all_cons ?_ (fun p hp => ?_)) | rcases List.mem_cons.mp hp with rfl | hp)
    · simp
    (first | (revert p; refine all_cons ?_ (fun p hp => ?_)) | rcases List.mem_cons.mp hp with rfl | hp)
    · simp
    (first | (revert p; refine all_cons ?_ (fun p hp => ?_)) | rcases List.mem_cons.mp hp with rfl | hp)
    · simp
    · have := k1 p hp
      simp [this]
  · (first | (revert p; refine all_cons ?_ (fun p hp => ?_)) | rcases List.mem_cons.mp hp with rfl | hp)
    · exact key (ah, x1) (List.mem_cons_self ..)
    (first | (revert p; refine all_cons ?_ (fun p hp => ?_)) | rcases List.mem_cons.mp hp with rfl | hp)
    · exact key (al, x2) (List.mem_cons_of_mem _ (List.mem_cons_self ..))
    (first | (revert p; refine all_cons ?_ (fun p hp => ?_)) | rcases List.mem_cons.mp hp with rfl | hp)
    · exact key (apl, x3) (List.mem_cons_of_mem _ (List.mem_cons_of_mem _ (List.mem_cons_self ..)))
    · rcases k4 p hp with h | h
      · exact key p (by simp [h])
      · exact ⟨(h (I, oI) (by simp)).symm, (h (C, oC) (by simp)).symm, (h (D, oD) (by simp)).symm⟩
theorem law_rs {g h : Heap} {L l px pd ah al : Addr} {ol ox od o1 o2 : Obj} {c4 c5 c6 c7 : Addr × Obj} {T3 : LLed} (N : News g L h ((l, ol) :: (px, ox) :: (pd, od) :: (ah, o1) :: (al, o2) :: c4 :: c5 :: c6 :: c7 :: T3))
    (f1 : @Ne Nat al ah ∧ @Ne Nat c4.1 ah ∧ @Ne Nat c5.1 ah ∧ @Ne Nat c6.1 ah ∧ @Ne Nat c7.1 ah ∧ LCg.Off1 ah T3) (f2 : @Ne Nat c4.1 al ∧ @Ne Nat c5.1 al ∧ @Ne Nat c6.1 al ∧ @Ne Nat c7.1 al ∧ LCg.Off1 al T3)
    (f3 : @LT.lt Nat instLTNat px l ∧ @LT.lt Nat instLTNat pd l ∧ @LT.lt Nat instLTNat ah l ∧ @LT.lt Nat instLTNat al l ∧ @LT.lt Nat instLTNat c4.1 l ∧ @LT.lt Nat instLTNat c5.1 l ∧ @LT.lt Nat instLTNat c6.1 l ∧ @LT.lt Nat instLTNat c7.1 l ∧ AllLt l T3)
    (f4 : @LT.lt Nat instLTNat ah pd) (f5 : @LT.lt Nat instLTNat al pd) (f6 : @LT.lt Nat instLTNat pd px) :
    Ex4 fun (ah' al' l' : Addr) (T5 : LLed) => An12 (ah' = ah) (al' = al) (l' = l) (News g L h ((ah, o1) :: (al, o2) :: (l, ol) :: T5)) ((px, ox) ∈ T5) ((pd, od) ∈ T5) (c4 ∈ T5) (c5 ∈ T5) (c6 ∈ T5) (c7 ∈ T5) (∀ p ∈ T3, p ∈ T5) (An8 (∀ p ∈ T5, p.1 ≠ ah) (∀ p ∈ T5, p.1 ≠ al) (∀ p ∈ T5, p.1 ≠ l) (ah ≠ al) (ah ≠ l) (al ≠ l) (px ≠ ah) (pd ≠ ah)) := by
  obtain ⟨a1, a2, a3, a4, a5, a6⟩ := f1
  obtain ⟨b2, b3, b4, b5, b6⟩ := f2
  obtain ⟨e1, e2, e3, e4, e5, e6, e7, e8, e9⟩ := f3
  have g1 := off1_all a6
  have g2 := off1_all b6
  have g3 := allLt_all e9
  refine ⟨ah, al, l, (px, ox) :: (pd, od) :: c4 :: c5 :: c6 :: c7 :: T3, rfl, rfl, rfl, News.sub N (fun p hp => ?_), by repeat (first | exact List.Mem.head _ | apply List.Mem.tail), by repeat (first | exact List.Mem.head _ | apply List.Mem.tail), by repeat (first | exact List.Mem.head _ | apply List.Mem.tail), by repeat (first | exact List.Mem.head _ | apply List.Mem.tail), by repeat (first | exact List.Mem.head _ | apply List.Mem.tail), by repeat (first | exact List.Mem.head _ | apply List.Mem.tail), fun p hp => by repeat (first | exact hp | apply List.Mem.tail), fun p hp => ?_, fun p hp => ?_, fun p hp => ?_, neN (by omega), neN (by omega), neN (by omega), neN (by omega), neN (by omega)⟩
  · revert p; (repeat (refine sub_cons (by repeat (first | exact List.Mem.head _ | apply List.Mem.tail)) ?_)); (repeat (first | exact fun _ h => h | refine sub_tail ?_))
  · revert p; refine all_cons ?_ (all_cons ?_ (all_cons ?_ (all_cons ?_ (all_cons ?_ (all_cons ?_ (fun p hp => ?_))))))
    · exact neN (by dsimp only; omega)
    · exact neN (by dsimp only; omega)
    · exact neN a2
    · exact neN a3
    · exact neN a4
    · exact neN a5
    · exact g1 p hp
  · revert p; refine all_cons ?_ (all_cons ?_ (all_cons ?_ (all_cons ?_ (all_cons ?_ (all_cons ?_ (fun p hp => ?_))))))
    · exact neN (by dsimp only; omega)
    · exact neN (by dsimp only; omega)
    · exact neN b2
    · exact neN b3
    · exact neN b4
    · exact neN b5
    · exact g2 p hp
  · revert p; refine all_cons ?_ (all_cons ?_ (all_cons ?_ (all_cons ?_ (all_cons ?_ (all_cons ?_ (fun p hp => ?_))))))
    · exact neN (by dsimp only; omega)
    · exact neN (by dsimp only; omega)
    · exact neN (by omega)
    · exact neN (by omega)
    · exact neN (by omega)
    · exact neN (by omega)
    · exact Nat.ne_of_lt (g3 p hp)
def dRn (mk : PySem.Str) (F : Int → List Int) (ord : List Int) (wd : Int → PySem.Str) (d : RD) : Nat → RD
  | 0 => d
  | i + 1 => dR mk F ord wd (dRn mk F ord wd d i)
def ps0 (mk : PySem.Str) (xs : List PySem.Str) : List (PySem.Str × PySem.Str) := [(nmK 0, replyS mk (xs.getD (Int.toNat (3 + 0)) (PySem.Str.ofString "")) 0), (nmK 1, replyS mk (xs.getD (Int.toNat (3 + 1)) (PySem.Str.ofString "")) 0), (nmK 2, replyS mk (xs.getD (Int.toNat (3 + 2)) (PySem.Str.ofString "")) 0)]
def d0 (mk : PySem.Str) (xs : List PySem.Str) : RD := ⟨[0, 0, 0], ps0 mk xs, 0⟩
theorem sel_ps0 {mk : PySem.Str} {xs : List PySem.Str} {k : Int} (k0 : 0 ≤ k) (k1 : k < 3) : sel (Txt.lower (nmK k)) (ps0 mk xs) = [replyS mk (xs.getD (Int.toNat (3 + k)) (PySem.Str.ofString "")) 0] := by
  have n01 := low_ne 0 1 (by decide) (by decide) (by decide) (by decide) (by decide)
  have n02 := low_ne 0 2 (by decide) (by decide) (by decide) (by decide) (by decide)
  have n12 := low_ne 1 2 (by decide) (by decide) (by decide) (by decide) (by decide)
  rcases (show k = 0 ∨ k = 1 ∨ k = 2 by omega) with rfl | rfl | rfl <;> simp [sel, ps0, n01, n02, n12, Ne.symm n01, Ne.symm n02, Ne.symm n12]
theorem ri_start {mk : PySem.Str} {xs : List PySem.Str} (hm : OkM mk) (hx : ∀ k : Int, 0 ≤ k → k < 6 → OkW (xs.getD k.toNat (PySem.Str.ofString ""))) {T : LLed} {ys pv : List Value} (hH : HL T ys (ps0 mk xs)) (hp : IntsAre pv [0, 0, 0]) : RI T ys ys pv mk (d0 mk xs) 0 3 where
  hv := hH
  hl := hH
  hp := hp
  hpl := rfl
  hb0 := fun k k0 k1 => by rcases (show k = 0 ∨ k = 1 ∨ k = 2 by omega) with rfl | rfl | rfl <;> exact Int.le_refl _
  hb1 := fun k k0 k1 => by rcases (show k = 0 ∨ k = 1 ∨ k = 2 by omega) with rfl | rfl | rfl <;> exact Int.le_refl _
  hc := Nat.le_refl _
  hz := fun q hq => by
    unfold d0 ps0 at hq
    simp only [List.mem_cons, List.not_mem_nil, or_false] at hq
    rcases hq with rfl | rfl | rfl <;> exact (by decide : 1 ≤ 10)
  hlast := fun k k0 k1 => by
    refine ⟨replyS mk (xs.getD (Int.toNat (3 + k)) (PySem.Str.ofString "")) 0, ?_, ?_⟩
    · show (sel _ (ps0 mk xs)).getLast? = _
      rw [sel_ps0 k0 k1]; rfl
    · refine ⟨mk, _, hm, hx (3 + k) (by omega) (by omega), ?_, ?_, ?_⟩
      · rcases (show k = 0 ∨ k = 1 ∨ k = 2 by omega) with rfl | rfl | rfl <;> exact Int.le_refl _
      · rcases (show k = 0 ∨ k = 1 ∨ k = 2 by omega) with rfl | rfl | rfl <;> exact (by decide : (0 : Int) < 1000)
      · rcases (show k = 0 ∨ k = 1 ∨ k = 2 by omega) with rfl | rfl | rfl <;> rfl
theorem law_ord {o : Int} (h0 : 0 ≤ o) (h1 : o < 6) : orders6.getD o.toNat [] ∈ orders6 ∧ (orders6.getD o.toNat []).length = 3 ∧ ∀ i : Int, 0 ≤ i → i < 3 → 0 ≤ (orders6.getD o.toNat []).getD i.toNat 0 ∧ (orders6.getD o.toNat []).getD i.toNat 0 < 3 := by
  have key : ∀ n : Nat, n < 6 → orders6.getD n [] ∈ orders6 ∧ (orders6.getD n []).length = 3 ∧ ∀ i : Nat, i < 3 → 0 ≤ (orders6.getD n []).getD i 0 ∧ (orders6.getD n []).getD i 0 < 3 := by decide
  obtain ⟨a, b, c⟩ := key o.toNat (by omega)
  exact ⟨a, b, fun i i0 i1 => c i.toNat (by omega)⟩
theorem law_wan {ws : List Value} (h : ws.length = 6) : slicePick ws.toArray (some 3) none none = (ws.drop 3).toArray := by
  have e : sliceBounds (some 3) none none ws.toArray.size = (((3 : Nat) : Int), ((6 : Nat) : Int), 1) := by rw [List.size_toArray, h]; decide
  rw [kmk_pick_nat ws.toArray e]
  congr 1
  exact List.take_of_length_le (by rw [List.length_drop]; show ws.length - 3 ≤ _; omega)
theorem lv_drop {ws : List Value} {g : Int → Value} (h : LV ws 6 g) : LV (ws.drop 3) 3 (fun k => g (3 + k)) := by
  intro k h0 h1
  have := h (3 + k) (by omega) (by omega)
  rw [List.getElem?_drop, show 3 + k.toNat = (3 + k).toNat by omega]
  exact this
theorem lv_six {ra : Nat → Addr} : LV [Value.ref (ra 0), .ref (ra 1), .ref (ra 2), .ref (ra 3), .ref (ra 4), .ref (ra 5)] 6 (fun k => .ref (ra k.toNat)) := by
  intro k h0 h1
  obtain ⟨i, rfl⟩ : ∃ i : Nat, k = i := ⟨k.toNat, by omega⟩
  rcases six (i := i) (by omega) with rfl | rfl | rfl | rfl | rfl | rfl <;> rfl
end
section
open PySem PySem.W PyProof.Rows PySem.Calls PySem.Spec
theorem round_back2 {N : Heap → LLed → Prop} {h : Heap} (hN : ∀ h a b, N h a → (∀ p ∈ b, p ∈ a) → N h b) {I C D ah al apl : Addr} {oI oC oD o1 o2 o3 x1 x2 x3 : Obj} {aw : Addr × Obj} {T R' : LLed} {vs lv : List Value} {ps : List (PySem.Str × PySem.Str)} (n : N h ((ah, o1) :: (al, o2) :: (apl, o3) :: R'))
    (hs : ∀ p ∈ (aw :: (I, oI) :: (C, oC) :: (D, oD) :: T : LLed), p ∈ R') (S : Sub T (aw :: (I, oI) :: (C, oC) :: (D, oD) :: T) R' vs lv ps) (off : LCg.Off3 I C D ((ah, x1) :: (al, x2) :: (apl, x3) :: T))
    (q1 : ∀ p ∈ R', p.1 ≠ ah) (q2 : ∀ p ∈ R', p.1 ≠ al) (q3 : ∀ p ∈ R', p.1 ≠ apl) :
    ∃ T' : LLed, N h ((I, oI) :: (C, oC) :: (D, oD) :: (ah, o1) :: (al, o2) :: (apl, o3) :: T') ∧ (∀ p ∈ T, p ∈ T') ∧ HL T' vs ps ∧ HL T' lv ps ∧ LCg.Off3 I C D ((ah, o1) :: (al, o2) :: (apl, o3) :: T') ∧ (∀ p ∈ T', p.1 ≠ ah) ∧ (∀ p ∈ T', p.1 ≠ al) ∧ (∀ p ∈ T', p.1 ≠ apl) := by
  obtain ⟨T1, k0, k1, k2, k3, k4⟩ := S
  have key := off.mem
  refine ⟨T1, hN _ _ _ n (fun p hp => ?_), k0, k2, k3, LCg.Off3.of (fun p hp => ?_), fun p hp => q1 p (k1 p hp), fun p hp => q2 p (k1 p hp), fun p hp => q3 p (k1 p hp)⟩
  · have mI := hs (I, oI) (by simp)
    have mC := hs (C, oC) (by simp)
    have mD := hs (D, oD) (by simp)
    (first | (revert p; refine all_cons ?_ (fun p hp => ?_)) | rcases List.mem_cons.mp hp with rfl | hp)
    · simp [mI]
    (first | (revert p; refine all_cons ?_ (fun p hp => ?_)) | rcases List.mem_cons.mp hp with rfl | hp)
    · simp [mC]
    (first | (revert p; refine all_cons ?_ (fun p hp => ?_)) | rcases List.mem_cons.mp hp with rfl | hp)
    · simp [mD]
    (first | (revert p; refine all_cons ?_ (fun p hp => ?_)) | rcases List.mem_cons.mp hp with rfl | hp)
    · simp
    (first | (revert p; refine all_cons ?_ (fun p hp => ?_)) | rcases List.mem_cons.mp hp with rfl | hp)
    · simp
    (first | (revert p; refine all_cons ?_ (fun p hp => ?_)) | rcases List.mem_cons.mp hp with rfl | hp)
    · simp
    · have := k1 p hp
      simp [this]
  · (first | (revert p; refine all_cons ?_ (fun p hp => ?_)) | rcases List.mem_cons.mp hp with rfl | hp)
    · exact key (ah, x1) (List.mem_cons_self ..)
    (first | (revert p; refine all_cons ?_ (fun p hp => ?_)) | rcases List.mem_cons.mp hp with rfl | hp)
    · exact key (al, x2) (List.mem_cons_of_mem _ (List.mem_cons_self ..))
    (first | (revert p; refine all_cons ?_ (fun p hp => ?_)) | rcases List.mem_cons.mp hp with rfl | hp)
    · exact key (apl, x3) (List.mem_cons_of_mem _ (List.mem_cons_of_mem _ (List.mem_cons_self ..)))
    · rcases k4 p hp with h | h
      · exact key p (by simp [h])
      · exact ⟨(h (I, oI) (by simp)).symm, (h (C, oC) (by simp)).symm, (h (D, oD) (by simp)).symm⟩
theorem RI.with {T T' : LLed} {vs lv pv : List Value} {mk : PySem.Str} {d : RD} {b : Int} {c : Nat} (I : RI T vs lv pv mk d b c) (h1 : HL T' vs d.ps) (h2 : HL T' lv d.ps) : RI T' vs lv pv mk d b c := ⟨h1, h2, I.hp, I.hpl, I.hb0, I.hb1, I.hc, I.hz, I.hlast⟩
theorem RI.zero {T : LLed} {vs lv pv : List Value} {mk : PySem.Str} {d : RD} {b : Int} {c : Nat} (I : RI T vs lv pv mk d b c) : RI T vs lv pv mk { d with r := 0 } b c := ⟨I.hv, I.hl, I.hp, I.hpl, I.hb0, I.hb1, I.hc, I.hz, I.hlast⟩
theorem round_turn (w : World) (px pd ah al apl D2 ao D9 I6 C6 D6 : Addr) (oI6 oC6 oD6 : Obj) (kt : Tok) (mk : PySem.Str) (tm : Tok) (ra : Nat → Addr) (rv : Nat → List Value) (rn : Nat → Nat) (M : Nat → List Int) (vo : List Value) (ordd : List Int) (ws : List Value) (xs : List PySem.Str) (tw : Int → Tok) (T6 : LLed)
    (hpx : (px, instObj 282 pd) ∈ T6) (hpd : (pd, hdict w kt ah) ∈ T6) (hd2 : (D2, W.listOf #[.ref (ra 0), .ref (ra 1), .ref (ra 2), .ref (ra 3), .ref (ra 4), .ref (ra 5)] 6) ∈ T6) (hrr : ∀ k, k < 6 → (ra k, W.listOf (rv k).toArray (rn k)) ∈ T6)
    (hM : ∀ k, k < 6 → IntsAre (rv k) (M k)) (hMl : ∀ k, k < 6 → (M k).length = 6) (hMv : ∀ k l : Nat, k < 6 → l < 6 → (M k).getD l 0 = if k = l then 0 else dstW (fun k => xs.getD k.toNat (PySem.Str.ofString "")) (min k l) (max k l))
    (hao : (ao, W.listOf vo.toArray 0) ∈ T6) (hvo : IntsAre vo ordd) (horl : ordd.length = 3) (hown : ∀ i : Int, 0 ≤ i → i < 3 → 0 ≤ ordd.getD i.toNat 0 ∧ ordd.getD i.toNat 0 < 3) (hwl : ws.length = 6)
    (hLW6 : LV ws 6 (fun k => .str (xs.getD k.toNat (PySem.Str.ofString "")) (tw k))) (hxo : ∀ k : Int, 0 ≤ k → k < 6 → OkW (xs.getD k.toNat (PySem.Str.ofString ""))) (hmm : OkM mk)
    (vs lv pv : List Value) (n1 n2 n3 : Nat) (d : RD) (i : Nat) (hi : i < 3) (hI : RI T6 vs lv pv mk d (54 * (i : Int)) (3 + 9 * i)) (e1 : ah ≠ al) (e2 : ah ≠ apl) (e3 : al ≠ apl) (e4 : px ≠ ah) (e5 : pd ≠ ah)
    (hY1 : ∀ p ∈ T6, p.1 ≠ ah) (hY2 : ∀ p ∈ T6, p.1 ≠ al) (hY3 : ∀ p ∈ T6, p.1 ≠ apl) (off : LCg.Off3 I6 C6 D6 ((ah, W.listOf vs.toArray n1) :: (al, W.listOf lv.toArray n2) :: (apl, W.listOf pv.toArray n3) :: T6))
    (l9 : ∀ p ∈ ((I6, oI6) :: (C6, oC6) :: (D6, oD6) :: (ah, W.listOf vs.toArray n1) :: (al, W.listOf lv.toArray n2) :: (apl, W.listOf pv.toArray n3) :: T6 : LLed), p.1 < D9) :
    Ctr w 326 [.ref px, .ref al, .ref apl, .ref D2, .ref ao, .ref D9, .str mk tm] [] 10 ((D9, W.listOf (slicePick ws.toArray (some 3) none none) 0) :: (I6, oI6) :: (C6, oC6) :: (D6, oD6) :: (ah, W.listOf vs.toArray n1) :: (al, W.listOf lv.toArray n2) :: (apl, W.listOf pv.toArray n3) :: T6)
      fun N Q => ∀ vs' lv' pv' n1' n2' n3' T' t' h' tk', (∀ p ∈ T6, p ∈ T') → RI T' vs' lv' pv' mk (dR mk (fun i => M i.toNat) ordd (fun k => xs.getD (Int.toNat (3 + k)) (PySem.Str.ofString "")) d) (54 * ((i + 1 : Nat) : Int)) (3 + 9 * (i + 1)) →
        (∀ p ∈ T', p.1 ≠ ah) → (∀ p ∈ T', p.1 ≠ al) → (∀ p ∈ T', p.1 ≠ apl) → LCg.Off3 I6 C6 D6 ((ah, W.listOf vs'.toArray n1') :: (al, W.listOf lv'.toArray n2') :: (apl, W.listOf pv'.toArray n3') :: T') →
        N h' ((I6, oI6) :: (C6, oC6) :: (D6, oD6) :: (ah, W.listOf vs'.toArray n1') :: (al, W.listOf lv'.toArray n2') :: (apl, W.listOf pv'.toArray n3') :: T') → Q (.int (dR mk (fun i => M i.toNat) ordd (fun k => xs.getD (Int.toNat (3 + k)) (PySem.Str.ofString "")) d).r t') h' tk' := by
  have key := off.mem
  have ka := key (ah, W.listOf vs.toArray n1) (List.mem_cons_self ..)
  have kl := key (al, W.listOf lv.toArray n2) (List.mem_cons_of_mem _ (List.mem_cons_self ..))
  have kp := key (apl, W.listOf pv.toArray n3) (List.mem_cons_of_mem _ (List.mem_cons_of_mem _ (List.mem_cons_self ..)))
  have da := l9 (ah, W.listOf vs.toArray n1) (by simp)
  have dl := l9 (al, W.listOf lv.toArray n2) (by simp)
  have dp := l9 (apl, W.listOf pv.toArray n3) (by simp)
  rw [law_wan hwl]
  have up : ∀ p ∈ T6, p ∈ ((D9, W.listOf (ws.drop 3).toArray 0) :: (I6, oI6) :: (C6, oC6) :: (D6, oD6) :: T6 : LLed) := fun p hp => List.mem_cons_of_mem _ (List.mem_cons_of_mem _ (List.mem_cons_of_mem _ (List.mem_cons_of_mem _ hp)))
  have offs : ∀ (x : Addr), (@LT.lt Nat instLTNat x D9) → I6 ≠ x → C6 ≠ x → D6 ≠ x → (∀ p ∈ T6, p.1 ≠ x) → ∀ p ∈ ((D9, W.listOf (ws.drop 3).toArray 0) :: (I6, oI6) :: (C6, oC6) :: (D6, oD6) :: T6 : LLed), p.1 ≠ x := by
    intro x h1 h2 h3 h4 h5 p hp
    (first | (revert p; refine all_cons ?_ (fun p hp => ?_)) | rcases List.mem_cons.mp hp with rfl | hp)
    · exact (Nat.ne_of_lt h1).symm
    (first | (revert p; refine all_cons ?_ (fun p hp => ?_)) | rcases List.mem_cons.mp hp with rfl | hp)
    · exact h2
    (first | (revert p; refine all_cons ?_ (fun p hp => ?_)) | rcases List.mem_cons.mp hp with rfl | hp)
    · exact h3
    (first | (revert p; refine all_cons ?_ (fun p hp => ?_)) | rcases List.mem_cons.mp hp with rfl | hp)
    · exact h4
    · exact h5 p hp
  have G : Rnd w ((D9, W.listOf (ws.drop 3).toArray 0) :: (I6, oI6) :: (C6, oC6) :: (D6, oD6) :: T6) px pd ah D2 ao D9 kt mk [.ref (ra 0), .ref (ra 1), .ref (ra 2), .ref (ra 3), .ref (ra 4), .ref (ra 5)] vo (ws.drop 3) (fun i => ra i.toNat) (fun i => rv i.toNat) 6 0 0 (fun i => rn i.toNat) (fun i => M i.toNat) ordd (fun k => xs.getD (Int.toNat (3 + k)) (PySem.Str.ofString "")) (fun k => tw (3 + k)) :=
    { hpx := up _ hpx, hpd := up _ hpd, haf := up _ hd2, hfar := lv_six, hrow := fun i i0 i1 => up _ (hrr i.toNat (by omega)), hri := fun i i0 i1 => ⟨hM i.toNat (by omega), hMl i.toNat (by omega)⟩,
      hfb := fun i k i0 i1 k0 k1 => by
        have h := dW_bd (wd := fun k => xs.getD k.toNat (PySem.Str.ofString "")) hxo (p := i.toNat) (q := k.toNat) (by omega) (by omega)
        rw [hMv i.toNat k.toNat (by omega) (by omega)]
        exact h
      hao := up _ hao, hord := ⟨hvo, horl⟩, hown := hown, haw := List.mem_cons_self .., hwan := lv_drop hLW6, hwd := fun k k0 k1 => hxo (3 + k) (by omega) (by omega), hmk := hmm }
  refine Ctr.led (round_c w _ px pd ah al apl D2 ao D9 kt mk tm _ _ _ _ _ _ _ _ _ _ _ _ _ G vs lv pv n1 n2 n3 { d with r := 0 } (54 * (i : Int)) (3 + 9 * i) ((hI.zero).with (HL.mono up hI.hv) (HL.mono up hI.hl)) rfl (by omega) (by omega) e1 e2 e3 e4 e5 (offs ah da ka.1.symm ka.2.1.symm ka.2.2.symm hY1) (offs al dl kl.1.symm kl.2.1.symm kl.2.2.symm hY2) (offs apl dp kp.1.symm kp.2.1.symm kp.2.2.symm hY3) T6 ⟨T6, fun p hp => hp, up, hI.hv, hI.hl, fun p hp => .inl hp⟩) ?_ ?_
  · intro p hp
    revert p; (repeat (refine sub_cons (by repeat (first | exact List.Mem.head _ | apply List.Mem.tail)) ?_)); (repeat (first | exact fun _ h => h | refine sub_tail ?_))
  · intro N Q hN hQ vs' lv' pv' n1' n2' n3' R' t' h' tk' hs hI' q1 q2 q3 S n
    obtain ⟨T', g1, g2, g3, g4, g5, g6, g7, g8⟩ := round_back2 hN n hs S off q1 q2 q3
    have hI2 := hI'.with g3 g4
    refine hQ vs' lv' pv' n1' n2' n3' T' t' h' tk' g2 (hI2.mono (fun p hp => hp) (by omega) (by omega)) g6 g7 g8 g5 g1
end
section
open PySem PySem.W PyProof.Rows PySem.Calls PySem.Spec
theorem ps0_ok {mk : PySem.Str} {xs : List PySem.Str} (hm : OkM mk) (hx : ∀ k : Int, 0 ≤ k → k < 6 → OkW (xs.getD k.toNat (PySem.Str.ofString ""))) : PsOk (ps0 mk xs) ∧ ∀ p ∈ ps0 mk xs, p.1.length ≤ 1000 ∧ p.2.length ≤ 1000 := by
  have key : ∀ k : Int, 0 ≤ k → k < 3 → Plain (nmK k) ∧ (nmK k).length ≤ 10 ∧ Plain (replyS mk (xs.getD (Int.toNat (3 + k)) (PySem.Str.ofString "")) 0) ∧ (replyS mk (xs.getD (Int.toNat (3 + k)) (PySem.Str.ofString "")) 0).length ≤ 1000 := by
    intro k h0 h1
    have hw := hx (3 + k) (by omega) (by omega)
    exact ⟨(nmL_facts k h0 h1).2.2.2.2, Nat.le_trans (Nat.le_of_eq (show (nmK k).length = 1 from rfl)) (by decide), reply_plain hm hw (by decide) (by decide), Nat.le_trans (reply_len hm hw (by decide) (by decide)) (by decide)⟩
  obtain ⟨a1, a2, a3, a4⟩ := key 0 (by decide) (by decide)
  obtain ⟨b1, b2, b3, b4⟩ := key 1 (by decide) (by decide)
  obtain ⟨c1, c2, c3, c4⟩ := key 2 (by decide) (by decide)
  refine ⟨⟨fun q hq => ?_, fun q hq => ?_, fun q hq => ?_⟩, fun q hq => ?_⟩ <;> (unfold ps0 at hq; simp only [List.mem_cons, List.not_mem_nil, or_false] at hq)
  · rcases hq with rfl | rfl | rfl
    · exact ⟨0, by decide, by decide, rfl⟩
    · exact ⟨1, by decide, by decide, rfl⟩
    · exact ⟨2, by decide, by decide, rfl⟩
  · rcases hq with rfl | rfl | rfl
    · exact ⟨a1, a3⟩
    · exact ⟨b1, b3⟩
    · exact ⟨c1, c3⟩
  · rcases hq with rfl | rfl | rfl <;> assumption
  · rcases hq with rfl | rfl | rfl
    · exact ⟨Nat.le_trans a2 (by decide), a4⟩
    · exact ⟨Nat.le_trans b2 (by decide), b4⟩
    · exact ⟨Nat.le_trans c2 (by decide), c4⟩
theorem int_snoc {ys : List Value} {xs : List Int} {a b : Int} {t : Tok} (h : IntsAre ys xs) (e : a = b) : IntsAre (ys ++ [.int a t]) (xs ++ [b]) := e ▸ h.append (.cons _ _ .nil)
theorem take_cost {F : Int → List Int} : ∀ {i : Nat}, i < 6 → List.take (i + 1) (List.map (costD F) orders6) = List.take i (List.map (costD F) orders6) ++ [costD F (orders6.getD i [])]
  | 0, _ => rfl
  | 1, _ => rfl
  | 2, _ => rfl
  | 3, _ => rfl
  | 4, _ => rfl
  | 5, _ => rfl
  | n + 6, h => by omega
theorem cost_of {M : Nat → List Int} {oi : List Int} (hb : ∀ k : Int, 0 ≤ k → k < 3 → 0 ≤ oi.getD k.toNat 0 ∧ oi.getD k.toNat 0 < 3) :
    costD (fun i => M i.toNat) oi = (M 0).getD (3 + oi.getD 0 0).toNat 0 + (M 1).getD (3 + oi.getD 1 0).toNat 0 + (M 2).getD (3 + oi.getD 2 0).toNat 0 := by
  have e : ∀ n : Nat, n < 3 → (3 + oi.getD n 0).toNat = 3 + (oi.getD n 0).toNat := fun n hn => by
    have := hb (n : Int) (by omega) (by omega)
    rw [show ((n : Int)).toNat = n from rfl] at this
    omega
  rw [e 0 (by omega), e 1 (by omega), e 2 (by omega)]
  rfl
section
variable {mk : PySem.Str} {xs : List PySem.Str} {M : Nat → List Int} {ordd : List Int} (hm : OkM mk) (hx : ∀ k : Int, 0 ≤ k → k < 6 → OkW (xs.getD k.toNat (PySem.Str.ofString "")))
  (hMv : ∀ k l : Nat, k < 6 → l < 6 → (M k).getD l 0 = if k = l then 0 else dstW (fun k => xs.getD k.toNat (PySem.Str.ofString "")) (min k l) (max k l)) (ho : ordd ∈ orders6)
include hm hx hMv ho
theorem lw_okd : ∀ i : Nat, i ≤ 3 → OkD (ps0 mk xs) (54 * (i : Int)) (dRn mk (fun i => M i.toNat) ordd (fun k => xs.getD (Int.toNat (3 + k)) (PySem.Str.ofString "")) (d0 mk xs) i)
  | 0, _ => ⟨rfl, fun k hk => by
      rcases (show k = 0 ∨ k = 1 ∨ k = 2 by omega) with rfl | rfl | rfl <;> exact ⟨Int.le_refl _, Int.le_refl _⟩, (ps0_ok hm hx).1, [], by rw [List.append_nil]; rfl⟩
  | i + 1, h => by
    have ih := lw_okd i (by omega)
    have hw : ∀ k : Int, 0 ≤ k → k < 3 → OkW (xs.getD (Int.toNat (3 + k)) (PySem.Str.ofString "")) := fun k k0 k1 => hx (3 + k) (by omega) (by omega)
    refine (dR_okd (mk := mk) (F := fun i => M i.toNat) (ord := ordd) (wd := fun k => xs.getD (Int.toNat (3 + k)) (PySem.Str.ofString "")) hm hw (fun i k i0 i1 k0 k1 => ?_) (fun i i0 i1 => ?_) (by omega) ih).up (by omega)
    · have h := dW_bd (wd := fun k => xs.getD k.toNat (PySem.Str.ofString "")) hx (p := i.toNat) (q := k.toNat) (by omega) (by omega)
      show 0 ≤ (M i.toNat).getD k.toNat 0 ∧ _
      rw [hMv i.toNat k.toNat (by omega) (by omega)]
      exact h
    · have h := ord_cases ho
      rcases (show i = 0 ∨ i = 1 ∨ i = 2 by omega) with rfl | rfl | rfl <;> rcases h with rfl | rfl | rfl | rfl | rfl | rfl <;> decide
theorem lw_pl (i : Nat) (hi : i ≤ 3) : AllPl (dRn mk (fun i => M i.toNat) ordd (fun k => xs.getD (Int.toNat (3 + k)) (PySem.Str.ofString "")) (d0 mk xs) i).ps := (lw_okd hm hx hMv ho i hi).ok.pl
end
theorem mem_six {a b c d e f p : Addr × Obj} {T : LLed} (h : p ∈ T) : p ∈ (a :: b :: c :: d :: e :: f :: T : LLed) := List.mem_cons_of_mem _ (List.mem_cons_of_mem _ (List.mem_cons_of_mem _ (List.mem_cons_of_mem _ (List.mem_cons_of_mem _ (List.mem_cons_of_mem _ h)))))
end
section
open PySem PySem.W PyProof.Rows PySem.Calls PySem.Spec
theorem dRn3 {mk : PySem.Str} {F : Int → List Int} {ord : List Int} {wd : Int → PySem.Str} {d : RD} : dRn mk F ord wd d 3 = dR mk F ord wd (dR mk F ord wd (dR mk F ord wd d)) := by
  unfold dRn; unfold dRn; unfold dRn; unfold dRn; rfl
theorem cost_iff {F : Int → List Int} {ordd : List Int} {M9 : Int} (h : ordd ∈ orders6) (hm : M9 ∈ List.map (costD F) orders6) (ha : ∀ a ∈ List.map (costD F) orders6, M9 ≤ a) : costD F ordd = M9 ↔ Still (sv F ordd (ivOf ordd)) := by
  rw [still_iff h]
  constructor
  · rintro rfl
    refine ⟨ha _ (.head _), ha _ (.tail _ (.head _)), ha _ (.tail _ (.tail _ (.head _))), ha _ (.tail _ (.tail _ (.tail _ (.head _)))), ha _ (.tail _ (.tail _ (.tail _ (.tail _ (.head _))))), ha _ (.tail _ (.tail _ (.tail _ (.tail _ (.tail _ (.head _))))))⟩
  · rintro ⟨h1, h2, h3, h4, h5, h6⟩
    refine Int.le_antisymm ?_ (ha _ (List.mem_map.mpr ⟨_, h, rfl⟩))
    obtain ⟨o, ho, rfl⟩ := List.mem_map.mp hm
    rcases ord_cases ho with rfl | rfl | rfl | rfl | rfl | rfl
    · exact h1
    · exact h2
    · exact h3
    · exact h4
    · exact h5
    · exact h6
theorem cost_at {F : Int → List Int} {n : Nat} (h : n < 6) : (List.map (costD F) orders6).getD n 0 = costD F (orders6.getD n []) := by
  rcases (show n = 0 ∨ n = 1 ∨ n = 2 ∨ n = 3 ∨ n = 4 ∨ n = 5 by omega) with rfl | rfl | rfl | rfl | rfl | rfl <;> rfl
section
variable {mk : PySem.Str} {xs : List PySem.Str} {M : Nat → List Int} {ordd : List Int} (ho : ordd ∈ orders6)
include ho
theorem lw_third {M9 : Int} (hm9 : M9 ∈ List.map (costD (fun i => M i.toNat)) orders6) (ha : ∀ a ∈ List.map (costD (fun i => M i.toNat)) orders6, M9 ≤ a) :
    (dRn mk (fun i => M i.toNat) ordd (fun k => xs.getD (Int.toNat (3 + k)) (PySem.Str.ofString "")) (d0 mk xs) 3).r = 0 ↔ costD (fun i => M i.toNat) ordd = M9 := by
  rw [cost_iff ho hm9 ha, dRn3]
  exact (third (mk := mk) (F := fun i => M i.toNat) (wd := fun k => xs.getD (Int.toNat (3 + k)) (PySem.Str.ofString "")) (ord_ok ho).2 (ord_ok ho).1 (d := d0 mk xs) rfl).1
theorem lw_rest (hx : ∀ k : Int, 0 ≤ k → k < 6 → OkW (xs.getD k.toNat (PySem.Str.ofString ""))) (hMv : ∀ k l : Nat, k < 6 → l < 6 → (M k).getD l 0 = if k = l then 0 else dstW (fun k => xs.getD k.toNat (PySem.Str.ofString "")) (min k l) (max k l))
    (h3 : (dRn mk (fun i => M i.toNat) ordd (fun k => xs.getD (Int.toNat (3 + k)) (PySem.Str.ofString "")) (d0 mk xs) 3).r = 0) {d : RD} (hd : d = dRn mk (fun i => M i.toNat) ordd (fun k => xs.getD (Int.toNat (3 + k)) (PySem.Str.ofString "")) (d0 mk xs) 3) (hl : d.p.length = 3) :
    d.p = [leastB (sv (fun i => M i.toNat) ordd (ivOf ordd)) 0, leastB (sv (fun i => M i.toNat) ordd (ivOf ordd)) 1, leastB (sv (fun i => M i.toNat) ordd (ivOf ordd)) 2] ∧
    ∀ u v : Int, 0 ≤ u → u < 6 → 0 ≤ v → v < u → ((([worI (fun i => M i.toNat) ordd d.p 0, worI (fun i => M i.toNat) ordd d.p 1, worI (fun i => M i.toNat) ordd d.p 2] ++ d.p).getD u.toNat 0 - ([worI (fun i => M i.toNat) ordd d.p 0, worI (fun i => M i.toNat) ordd d.p 1, worI (fun i => M i.toNat) ordd d.p 2] ++ d.p).getD v.toNat 0).natAbs : Int) ≤ (M u.toNat).getD v.toNat 0 := by
  have hv := (ord_ok ho).2
  rw [dRn3] at h3 hd
  obtain ⟨a1, a2⟩ := at_rest (mk := mk) (F := fun i => M i.toNat) (wd := fun k => xs.getD (Int.toNat (3 + k)) (PySem.Str.ofString "")) hv (ord_ok ho).1 (d := d0 mk xs) rfl h3
  rw [← hd] at a1 a2
  refine ⟨a2, ?_⟩
  clear hd h3 a2
  generalize d.p = p at a1 hl ⊢
  refine hlip_of (F := fun i => M i.toNat) (ord := ordd) (p := p) (D := dW (fun k => xs.getD k.toNat (PySem.Str.ofString ""))) (dW_met hx) (fun u v hu hv => ?_) hv (fun i i0 i1 => ?_) hl a1 (fun a ha => ?_)
  · show (M ((u : Int)).toNat).getD v 0 = _
    rw [show ((u : Int)).toNat = u from rfl, hMv u v hu hv]
    rfl
  · rcases (show i = 0 ∨ i = 1 ∨ i = 2 by omega) with rfl | rfl | rfl <;> rcases ord_cases ho with rfl | rfl | rfl | rfl | rfl | rfl <;> decide
  · unfold ivOf
    split
    · omega
    · split <;> omega
end
end
section
open PySem PySem.W PyProof.Rows PySem.Calls PySem.Spec
theorem okr_facts {x : PySem.Str} {v : Int} (h : OkR x v) : Plain x ∧ x.length ≤ 1000 := by
  obtain ⟨mk, wd, hm, hw, h0, h1, rfl⟩ := h
  exact ⟨reply_plain hm hw h0 h1, Nat.le_trans (reply_len hm hw h0 h1) (by decide)⟩
theorem law_restc (w : World) (px pd ah al D2 ao : Addr) (kt : Tok) (mk : PySem.Str) (ra : Nat → Addr) (rv : Nat → List Value) (rn : Nat → Nat) (M : Nat → List Int) (vo : List Value) (ordd : List Int) (xs : List PySem.Str) (T6 : LLed)
    (hpx : (px, instObj 282 pd) ∈ T6) (hpd : (pd, hdict w kt ah) ∈ T6) (hd2 : (D2, W.listOf #[.ref (ra 0), .ref (ra 1), .ref (ra 2), .ref (ra 3), .ref (ra 4), .ref (ra 5)] 6) ∈ T6) (hrr : ∀ k, k < 6 → (ra k, W.listOf (rv k).toArray (rn k)) ∈ T6)
    (hM : ∀ k, k < 6 → IntsAre (rv k) (M k)) (hMl : ∀ k, k < 6 → (M k).length = 6)
    (hao : (ao, W.listOf vo.toArray 0) ∈ T6) (hvo : IntsAre vo ordd) (horl : ordd.length = 3) (hown : ∀ i : Int, 0 ≤ i → i < 3 → 0 ≤ ordd.getD i.toNat 0 ∧ ordd.getD i.toNat 0 < 3) (ho : ordd ∈ orders6)
    (hxo : ∀ k : Int, 0 ≤ k → k < 6 → OkW (xs.getD k.toNat (PySem.Str.ofString ""))) (hmm : OkM mk)
    (vs lv pv : List Value) (n1 n2 : Nat) (d : RD) (hI : RI T6 vs lv pv mk d 162 30) (hok : OkD (ps0 mk xs) 162 d) (e1 : ah ≠ al) (e4 : px ≠ ah) (e5 : pd ≠ ah) (hY1 : ∀ p ∈ T6, p.1 ≠ ah)
    (hlst : d.p = [leastB (sv (fun i => M i.toNat) ordd (ivOf ordd)) 0, leastB (sv (fun i => M i.toNat) ordd (ivOf ordd)) 1, leastB (sv (fun i => M i.toNat) ordd (ivOf ordd)) 2])
    (hlip : ∀ u v : Int, 0 ≤ u → u < 6 → 0 ≤ v → v < u → ((([worI (fun i => M i.toNat) ordd d.p 0, worI (fun i => M i.toNat) ordd d.p 1, worI (fun i => M i.toNat) ordd d.p 2] ++ d.p).getD u.toNat 0 - ([worI (fun i => M i.toNat) ordd d.p 0, worI (fun i => M i.toNat) ordd d.p 1, worI (fun i => M i.toNat) ordd d.p 2] ++ d.p).getD v.toNat 0).natAbs : Int) ≤ (M u.toNat).getD v.toNat 0) :
    Ctr w 336 [.ref px, .ref al, .ref D2, .ref ao] [] 20 ((ah, W.listOf vs.toArray n1) :: (al, W.listOf lv.toArray n2) :: T6) fun N Q => ∀ h' tk', N h' ((al, W.listOf lv.toArray n2) :: T6) → Q (.bool true) h' tk' := by
  have up : ∀ p ∈ T6, p ∈ ((al, W.listOf lv.toArray n2) :: T6 : LLed) := fun p hp => List.mem_cons_of_mem _ hp
  obtain ⟨x, hx⟩ : ∃ x : Int → PySem.Str, ∀ k : Int, 0 ≤ k → k < 3 → (sel (Txt.lower (nmK k)) d.ps).getLast? = some (x k) ∧ OkR (x k) (d.p.getD k.toNat 0) := by
    have hc : ∀ k : Int, ∃ y, 0 ≤ k → k < 3 → (sel (Txt.lower (nmK k)) d.ps).getLast? = some y ∧ OkR y (d.p.getD k.toNat 0) := by
      intro k
      by_cases h : 0 ≤ k ∧ k < 3
      · obtain ⟨y, h1, h2⟩ := hI.hlast k h.1 h.2
        exact ⟨y, fun _ _ => ⟨h1, h2⟩⟩
      · exact ⟨PySem.Str.ofString "", fun a b => absurd ⟨a, b⟩ h⟩
    exact ⟨fun k => (hc k).choose, fun k h0 h1 => (hc k).choose_spec h0 h1⟩
  have G : RestD w ((al, W.listOf lv.toArray n2) :: T6) px pd ah al D2 ao kt [.ref (ra 0), .ref (ra 1), .ref (ra 2), .ref (ra 3), .ref (ra 4), .ref (ra 5)] vo vs lv (fun i => ra i.toNat) (fun i => rv i.toNat) 6 0 n2 (fun i => rn i.toNat) (fun i => M i.toNat) ordd (ivOf ordd) d x (fun k => replyS mk (xs.getD (Int.toNat (3 + k)) (PySem.Str.ofString "")) 0) :=
    { hpx := up _ hpx, hpd := up _ hpd, haf := up _ hd2, hfar := lv_six, hrow := fun i i0 i1 => up _ (hrr i.toNat (by omega)), hri := fun i i0 i1 => ⟨hM i.toNat (by omega), hMl i.toNat (by omega)⟩,
      hao := up _ hao, hord := ⟨hvo, horl⟩, hv := (ord_ok ho).2, hown := hown, hal := List.mem_cons_self .., hvs := HL.mono up hI.hv, hlv := HL.mono up hI.hl, hpl := hI.hpl,
      hxs := fun k k0 k1 => ⟨(hx k k0 k1).1, (hx k k0 k1).2, okr_facts (hx k k0 k1).2⟩, hps := hok.ok, hpn := Nat.le_trans hI.hc (by decide), hpre := hok.pre,
      hrp := fun k k0 k1 => reply_plain hmm (hxo (3 + k) (by omega) (by omega)) (by decide) (by decide), hlst := hlst, hlip := hlip, e1 := e4, e2 := e5, e3 := off_cons e1.symm hY1 }
  exact rest_c w _ px pd ah al D2 ao kt _ vo vs lv _ _ 6 0 n1 n2 _ _ ordd _ d x _ G
theorem goodW_true {c : PySem.W.ClaimW} {cl : PySem.Str → Option Addr} {mean : ExcName → Option Value} {args : List PySem.W.WData} {s₁ s' : Shared} (hk : ∀ b o, s₁.heap.get? b = some o → s'.heap.get? b = some o) (hg : s'.gens = #[]) (hn : ∀ cls, c.raises args cls = false) (hp : c.post args (.bool true) args = true) (hos : s'.os = s₁.os) :
    PySem.W.GoodW c cl mean args s₁ (.ok (.ret (.bool true))) s' := ⟨.inl ⟨_, _, [], rfl, hn, PySem.W.ReadsW.bool true, hp, fun _ => ⟨List.nodup_nil, fun _ hm => (nomatch hm)⟩⟩, hk, hos, hg⟩
end
section
open PySem PySem.W PyProof.Rows PySem.Calls PySem.Spec
local macro_rules | `(tactic| k_mem) => `(tactic| ((iterate 12 (try (first | (with_reducible assumption) | (with_reducible exact List.mem_cons_self ..) | (with_reducible refine List.mem_append_right _ ?_) | (with_reducible refine List.mem_cons_of_mem _ ?_)))); done))
local macro_rules | `(tactic| walk_at "CompSrc") => `(tactic| ((refine LCg.CompSrc.ledger (by rfl) (by k_asm) (by k_asm) (by k_mem) ?hz ?_; (case hz => (rw [sizeLine_eq, List.size_toArray]; omega))); intro g9))
local macro_rules | `(tactic| walk_at "CompSrc") => `(tactic| ((refine LCg.CompSrc.range (n := 3) (by rfl) (by k_asm) (by k_asm) (by assumption) (by decide) (by decide) ?hz ?_; (case hz => (rw [sizeLine_eq]; omega))); intro g9))
theorem init_k (w : World) (rest : LLed) (x d l : Addr) (vs : List Value) (ps : List (PySem.Str × PySem.Str)) (hl : HL rest vs ps) (hll : (l, LCg.lst vs) ∈ rest) (h1 : x ≠ d) (hr : ∀ p ∈ rest, p.1 ≠ d) (hs : vs.length ≤ 1000)
    (hpl : ∀ p ∈ ps, Plain p.1 ∧ Plain p.2) (hpz : ∀ p ∈ ps, p.1.length ≤ 1000 ∧ p.2.length ≤ 1000) :
    ∀ (loose : List PySem.Str) (mean : ExcName → Option Value) (mg mb : PySem.Str → Option Value) (dp un : Nat) (gd : Option (List Code)) (cn : PySem.Str) (cs : Scope) (a : Addr) (ccd : Value) (cl : List (PySem.Str × Addr)) (outer : List Env)
    (A₀ : Around) (base h₀ : Heap) (L : Addr) (m : PySem.Str → Option Value) (s : Shared) (R : Result → Shared → Prop),
    Below A₀ base outer h₀ → Fr h₀ L s.heap m → (hd.heap_39 w.params).In h₀ → News h₀ L s.heap ((x, instObj 282 d) :: (d, dictOf [] 0) :: rest) → Top hd.view_39 loose mean mg mb h₀ → cs.kind = .function →
    dp + 5 < recursionLimit → un + 40 < cLine →
    (∀ kt h' tk', Fr h₀ L h' m ∧ News h₀ L h' ((x, instObj 282 d) :: (d, hdict w kt l) :: rest) → R (.ok (.ret .none)) { s with heap := h', toks := tk' }) →
    codeAny (model P0 w) (ktrTop dp un gd cn cs L a ccd cl outer) (.call (.ref 176) ⟨[.ref x, .ref l], []⟩) R s := by
  have hdummy : PySem.Challenge.rw_wo0075_01 = PySem.Challenge.rw_wo0075_01 ∧ hd.heap_39 w.params = hd.heap_39 w.params := by k_fill; exact ⟨rfl, rfl⟩
  clear hdummy
  intro loose mean mg mb dp un gd cn cs a ccd cl outer A₀ base h₀ L m s R hB hF hX hN hT hk hdp hun hret
  rcases cs with ⟨ki, na, g1, g2, mo⟩
  dsimp only at hk
  subst hk
  k_enter
  have h1' := h1.symm
  (repeat' (walk_at "S"; walk_at "Z"))
  all_goals (try k_data)
  refine For_turns (by k_asm) ?_
  (repeat' (walk_at "S"; walk_at "Z"))
  all_goals (try k_data)
  rename Fr _ _ _ _ => hF9
  rename News _ _ _ _ => hN9
  refine list_inv (vs := vs) (lo := LCg.lst vs) (by rfl) hF9 hN9 (.tail _ (.tail _ hll)) rfl rfl
    (fun m₀ news₀ I i m news => news = news₀ ∧ (∀ p ∈ news, p.1 ≠ I) ∧ St m₀ [PySem.Str.ofString "k", PySem.Str.ofString "v"] m)
    (fun I hI => ⟨rfl, fun p hp => Nat.ne_of_lt (hI p hp), St.refl⟩) (fun I i m news h => ?j5) ?_ ?_
  case j5 =>
    obtain ⟨rfl, h9, _⟩ := h
    exact ⟨.tail _ (.tail _ hll), h9⟩
  · rintro I i v m news h5 tk5 oI hv ⟨rfl, hI, hst⟩ F9 N9 hcI
    obtain ⟨u5, rfl⟩ := hst.open0
    clear hst hN9 hF9
    obtain ⟨p, hp, a, t1, u1, rfl, hm⟩ := hl.get hv
    have hpm := List.mem_of_getElem? hp
    obtain ⟨hpl1, hpl2⟩ := hpl p hpm
    obtain ⟨hpz1, hpz2⟩ := hpz p hpm
    (repeat' (walk_at "S"; first | ((first | ((with_reducible show wpAny _ _ (callWith _ _ _ _ (backToKw _ (keywordEach (_ :: _) _))) _ _ _); k_dflt (refine' callWith_KW ?k1y34 ?k2y34 ?k3y34 ?_ ?k4y34 ?k5y34; (case k1y34 => k_in); (case k2y34 => k_is); (case k3y34 => kernel_rfl); (case k4y34 => kernel_rfl); (case k5y34 => kernel_rfl); k_whole)) | ((with_reducible show wpAny _ _ (call (Value.ref 183) _ _) _ _ _); k_dflt (refine' Ctr.use (conv_c _ _ _ _ _ _ ?vy35 ?zy35) ?k1y35 ?k2y35 ?k3y35 ?k4y35 ?k5y35 ?kKy35 ?kdy35 ?kuy35 ?_; (case vy35 => first | k_asm | (unfold Plain; decide)); (case zy35 => first | k_asm | decide | (size_fits)); (case k1y35 => k_asm); (case k2y35 => k_asm); (case k3y35 => k_asm); (case k4y35 => k_asm); (case k5y35 => k_asm); (case kKy35 => first | exact rfl | assumption); (case kdy35 => ((try dsimp +zetaDelta only); first | exact dm1 (by with_reducible assumption) rfl | ktr_room)); (case kuy35 => ((try dsimp +zetaDelta only); first | exact um1 (by with_reducible assumption) rfl | ktr_units)); (rintro _ _ ⟨_, _⟩; (try dsimp only); (try k_fold))))); all_goals (try walk_at "fq")) | walk_at "Z"))
    all_goals (try k_data)
    (try dsimp only)
    rename Fr _ _ _ _ => hF5
    rename News _ _ _ _ => hN5
    refine ⟨_, _, _, _, rfl, hF5, hN5, ?_⟩
    unfold Kept
    exact ⟨rfl, hI, by walk_at "st_base"⟩
  · rintro I m news h5 tk5 ⟨rfl, hI, hst⟩ F9 N9
    obtain ⟨u5, rfl⟩ := hst.open0
    clear hst hN9 hF9
    (try dsimp only)
    (repeat' (walk_at "S"; walk_at "Z"))
    all_goals (try k_data)
    exact hret _ _ _ ⟨by k_asm, by k_asm⟩
end
section
open PySem PySem.W PyProof.Rows PySem.Calls PySem.Spec
section
variable {prog : Program} {w : World} {A₀ A : Around} {s : Shared} {h₀ : Heap} {L a : Addr} {m : PySem.Str → Option Value} {cn : PySem.Str} {cs : Scope} {ccd : Value} {cl : List (PySem.Str × Addr)} {K : Frag} {p : Program} {loose : List PySem.Str} {mean : ExcName → Option Value} {mg mb : PySem.Str → Option Value}
    {R : Result → Shared → Prop} {name qual : PySem.Str} {params : Arguments} {body : List Stmt} {scope : Scope} {dV kV doc pm cdv ct oc : Value} {an od : Option Addr} {osl : Array (Option Value)} {f : Addr} {args : Args} {binds : List (PySem.Str × Value)}
theorem enter_try (B : Below A₀ h₀ [] h₀) (F : Fr h₀ L s.heap m) (X₀ : K.In h₀) (T : Top p loose mean mg mb h₀) (hA : A.frames = some [envX cn cs L a ccd cl])
    (ho : K.lookup f = some ⟨oc, od, .func (fnOf name qual params body scope dV kV doc pm an cdv ct), osl⟩) (hcd : codeIn K cdv qual = true) (hroom : A.depth < recursionLimit)
    (hbind : BindsTo s (fnOf name qual params body scope dV kV doc pm an cdv ct) args binds) (hloc : ∀ y ∈ binds, scope.names.lookup y.1 = some .local)
    (h : ∀ g L' h₁, Fr g L' h₁ (fun y => binds.reverse.lookup y) → News g L' h₁ [] → Below A h₀ [envX cn cs L a ccd cl] g → K.In g → Top p loose mean mg mb g → KtsDicts ([envX cn cs L a ccd cl].filterMap (·.frame)) g →
      wpAny (model prog w) (A.deeper (envOf qual scope L' f cdv)) (execs body (envOf qual scope L' f cdv))
        (fun fl s' => R (.ok (.ret (match fl with | .ret v => v | _ => .none))) s')
        (fun e s' => wpAny (model prog w) (A.deeper (envOf qual scope L' f cdv)) (leaving (envOf qual scope L' f cdv) e) (fun _ s'' => R (.error e) s'') (fun e' s'' => R (.error e') s'') s')
        { s with heap := h₁, toks := s.toks + binds.length })
    (hck : cs.kind = .function) (hco : scope.isCoroutine = false) (hgen : scope.isGenerator = false) (hk : scope.kind = .function)
    (hcell : ∀ x ∈ scope.names, x.2 ≠ .cell) : codeAny (model prog w) A (.call (.ref f) args) R s := by
  have X := X₀.keeps F.keep
  have nL := kts_self F
  obtain ⟨oL, es, ep, hLg, hLd, _, _⟩ := id F.ns
  refine codeAny_call_def (fd := fnOf name qual params body scope dV kV doc pm an cdv ct) (body := body) (binds := binds) hroom (X _ _ ho) rfl (T.nolimit.keeps F.keep) (codeRec_of X hcd) rfl hbind hcell hloc (fun h₁ hns hk₁ => ?_) hco hgen hk
  refine h s.heap s.heap.objs.size h₁ ⟨hns, hk₁, Nat.le_refl _⟩ News.nil ⟨hA, fun b o e => F.keep b o e, ?_⟩ X (T.keeps F.keep) ?_
  · refine ⟨by show cs.kind ≠ .module; rw [hck]; decide, ⟨L, oL, rfl, nL, hLg, fun vs q => ?_⟩, trivial⟩
    rw [hLd] at q; cases q
  · intro b hb
    have e : b = L := by simpa using hb
    subst e
    exact ⟨oL, es, ep, hLg, hLd⟩
end
end
section
open PySem PySem.W PyProof.Rows PySem.Calls PySem.Spec
inductive FGSt (L ax I : Addr) (vs : List Value) (B X T D : Heap → Prop) (J : Nat → (PySem.Str → Option Value) → LLed → Prop) (s : Shared) (k : Nat) (s' : Shared) : Prop
  | mk (h' : Heap) (tk : Nat) (g' : Heap) (m' : PySem.Str → Option Value) (news' : LLed) (i : Nat) (e : s' = { s with heap := h', toks := tk }) (st : h'.IsListIter I ax i ∧ h'.IsList ax vs.toArray) (F : Fr g' L h' m') (N : News g' L h' news') (z : g'.get? I = none) (b : B g') (x : X g') (t : T g') (d : D g') (j : J i m' news') (hi : i ≤ vs.length) (hk : k = vs.length + 1 - i)
theorem for_ground {prog : Program} {w : World} {A A₀ : Around} {base g : Heap} {outer : List Env} {K : Frag} {p : Program} {loose : List PySem.Str} {mean : ExcName → Option Value} {mg mb : PySem.Str → Option Value} {fs : List Addr}
    {E : Value → Shared → Prop} {s : Shared} {env : Env} {x : PySem.Str} {px : Pos} {body : List Stmt} {Q : Flow → Shared → Prop} {ax : Addr} {lo : Obj} {vs : List Value} {n : Nat} {m₀ : PySem.Str → Option Value} {news₀ : LLed}
    (hh : A.handled = none) (F : Fr g env.locals s.heap m₀) (N : News g env.locals s.heap news₀) (hm : (ax, lo) ∈ news₀) (hc : lo.cls = .type "list") (hd : lo.data = .seq vs.toArray n)
    (B : Below A₀ base outer g) (X : K.In g) (T : Top p loose mean mg mb g) (D : KtsDicts fs g)
    (J : (PySem.Str → Option Value) → LLed → Addr → Nat → (PySem.Str → Option Value) → LLed → Prop) (h0 : ∀ I, (∀ p ∈ news₀, p.1 < I) → J m₀ news₀ I 0 m₀ news₀) (hJ : ∀ I i m news, J m₀ news₀ I i m news → (ax, lo) ∈ news ∧ ∀ p ∈ news, p.1 ≠ I)
    (turn : ∀ I i v m news h tk oI g', vs[i]? = some v → J m₀ news₀ I i m news → Fr g' env.locals h m → News g' env.locals h ((I, oI) :: news) → Below A₀ base outer g' → K.In g' → Top p loose mean mg mb g' → KtsDicts fs g' → oI.cls = .type "list_iterator" →
      wpAny (model prog w) A (assign (.Name x px) env v) (fun _ s₂ => wpAny (model prog w) A (execs body env) (fun f s' => match f with
        | .ret v => Q (.ret v) s'
        | .brk => Q .next s'
        | _ => GEnd env.locals I oI s s' (Below A₀ base outer) K.In (Top p loose mean mg mb) (KtsDicts fs) (J m₀ news₀ I (i + 1))) E s₂) E { s with heap := h, toks := tk })
    (done : ∀ I m news h tk g', J m₀ news₀ I vs.length m news → Fr g' env.locals h m → News g' env.locals h news → Below A₀ base outer g' → K.In g' → Top p loose mean mg mb g' → KtsDicts fs g' → Q .next { s with heap := h, toks := tk })
    (hE : PassesOwn (model prog w) A env E := by passes_own) :
    wpAny (model prog w) A (pyIter (.ref ax)) (fun it s₂ => codeAny (model prog w) A (.forLoop (.Name x px) it body [] env) (fun r s' => match r with | .ok f => Q f s' | .error e => cameBackBy (model prog w) A env E e s') s₂) E s := by
  have lst : ∀ {g' h news}, News g' env.locals h news → (ax, lo) ∈ news → h.IsList ax vs.toArray := fun N hm => ⟨lo, (N _ hm).1, hc, n, hd⟩
  have hl := lst N hm
  have hlt : ax < s.heap.objs.size := Heap.lt_size (N _ hm).1
  refine wpAny_pyIter_list hl ?_
  have W := Walks.list (prog := prog) (w := w) (A := A) hh s.heap.objs.size ax (Nat.ne_of_lt hlt) vs.toArray
  have up : ∀ b o, s.heap.get? b = some o → (s.heap.push { cls := .type "list_iterator", data := .fields #[.ref ax, .int 0 0] }).get? b = some o := fun b o e => Heap.get?_push_of_some _ e
  have gI : ∀ b o, g.get? b = some o → b ≠ s.heap.objs.size := fun b o e => Nat.ne_of_lt (Heap.lt_size (F.keep b o e))
  refine codeAny_forLoop_any
    (FGSt env.locals ax s.heap.objs.size vs (Below A₀ base outer) K.In (Top p loose mean mg mb) (KtsDicts fs) (J m₀ news₀ s.heap.objs.size) s) ?_ (vs.length + 1)
    ⟨_, s.toks, g, m₀, news₀, 0, rfl, ⟨⟨_, Heap.get?_push_size _ rfl, rfl, rfl⟩, hl.push _⟩, F.keeps up, N.grown up, ?_, B, X, T, D, h0 _ (fun p hp => Heap.lt_size (N p hp).1), Nat.zero_le _, rfl⟩
  · rintro k s' ⟨h', tk, g', m', news', i, rfl, hst, F', N', hgI, B', X', T', D', hj, hi, rfl⟩
    have hLI : env.locals ≠ s.heap.objs.size := Nat.ne_of_lt F.ns.lt
    have hnI := (hJ _ _ _ _ hj).2
    have next : ∀ h₁ : Heap, (∀ b o, b ∉ [s.heap.objs.size] → h'.get? b = some o → h₁.get? b = some o) → Fr g' env.locals h₁ m' ∧ News g' env.locals h₁ news' := fun h₁ hk₁ =>
      ⟨⟨F'.ns.at' fun o e => hk₁ _ o (by simpa using hLI) e, fun b o e => hk₁ b o (by simp only [List.mem_singleton]; rintro rfl; rw [hgI] at e; cases e) (F'.keep b o e), F'.above⟩, fun p hp => ⟨hk₁ _ _ (by simpa using hnI p hp) (N' p hp).1, (N' p hp).2⟩⟩
    by_cases hlt' : i < vs.length
    · refine W.item i _ _ _ (by simpa using hlt') hst fun v h₁ tk₁ hP hst₁ hk₁ => ?_
      obtain ⟨F₁, N₁⟩ := next h₁ hk₁
      obtain ⟨oI, hoI, hcI, hdI⟩ := id hst₁.1
      have NI : News g' env.locals h₁ ((s.heap.objs.size, oI) :: news') := fun q hq => by
        rcases List.mem_cons.mp hq with rfl | hq
        · exact ⟨hoI, hLI.symm, hgI⟩
        · exact N₁ q hq
      refine wpAny_pure ?_
      refine wpAny_mono (turn s.heap.objs.size i v m' news' h₁ tk₁ oI g' (by simpa using hP) hj F₁ NI B' X' T' D' hcI) (fun _ s₂ q => ?_) hE
      refine wpAny_mono q (fun f s₃ r => ?_) hE
      have fin : GEnd env.locals s.heap.objs.size oI s s₃ (Below A₀ base outer) K.In (Top p loose mean mg mb) (KtsDicts fs) (J m₀ news₀ s.heap.objs.size (i + 1)) →
          ∃ k, k < vs.length + 1 - i ∧ FGSt env.locals ax s.heap.objs.size vs (Below A₀ base outer) K.In (Top p loose mean mg mb) (KtsDicts fs) (J m₀ news₀ s.heap.objs.size) s k s₃ := by
        rintro ⟨h₂, tk₂, m₂, news₂, g₂, rfl, F₂, N₂, B₂, X₂, T₂, D₂, j₂⟩
        have hI := N₂ _ (List.mem_cons_self ..)
        have N₃ : News g₂ env.locals h₂ news₂ := fun q hq => N₂ q (List.mem_cons_of_mem _ hq)
        exact ⟨vs.length + 1 - (i + 1), by omega, h₂, tk₂, g₂, m₂, news₂, i + 1, rfl, ⟨⟨oI, hI.1, hcI, hdI⟩, lst N₃ (hJ _ _ _ _ j₂).1⟩, F₂, N₃, hI.2.2, B₂, X₂, T₂, D₂, j₂, hlt', rfl⟩
      cases f with
      | ret v => exact r
      | brk => exact r
      | next => exact fin r
      | cont => exact fin r
    · have hin : i = vs.length := by omega
      subst hin
      refine W.done _ _ _ (by simpa using hst) fun h₁ tk₁ hk₁ => wpAny_execs_nil ?_
      obtain ⟨F₁, N₁⟩ := next h₁ hk₁
      exact done _ _ _ _ _ _ hj F₁ N₁ B' X' T' D'
  · cases q : g.get? s.heap.objs.size with
    | none => rfl
    | some o => exact absurd rfl (gI _ _ q)
def TD (news : LLed) (v : Value) : Option PySem.Str → Prop
  | some x => ∃ t, v = .str x t
  | none => ∃ D t u, v = .ref D ∧ (D, tup2 (.str (PySem.Str.ofString "") t) (.int 7 u)) ∈ news
def TDs (news : LLed) : List Value → List (Option PySem.Str) → Prop
  | [], [] => True
  | v :: vs, x :: xs => TD news v x ∧ TDs news vs xs
  | _, _ => False
theorem TD.mono {news news' : LLed} (hs : ∀ p ∈ news, p ∈ news') {v : Value} : ∀ {x : Option PySem.Str}, TD news v x → TD news' v x
  | some _, h => h
  | none, ⟨D, t, u, e, hm⟩ => ⟨D, t, u, e, hs _ hm⟩
theorem TDs.mono {news news' : LLed} (hs : ∀ p ∈ news, p ∈ news') : ∀ {vs : List Value} {xs : List (Option PySem.Str)}, TDs news vs xs → TDs news' vs xs
  | [], [], _ => trivial
  | [], _ :: _, h => h.elim
  | _ :: _, [], h => h.elim
  | _ :: _, _ :: _, ⟨h, r⟩ => ⟨h.mono hs, r.mono hs⟩
theorem TDs.snoc {news : LLed} {v : Value} {x : Option PySem.Str} (hv : TD news v x) : ∀ {vs : List Value} {xs : List (Option PySem.Str)}, TDs news vs xs → TDs news (vs ++ [v]) (xs ++ [x])
  | [], [], _ => ⟨hv, trivial⟩
  | [], _ :: _, h => h.elim
  | _ :: _, [], h => h.elim
  | _ :: _, _ :: _, ⟨h, r⟩ => ⟨h, r.snoc hv⟩
theorem TDs.length {news : LLed} : ∀ {vs : List Value} {xs : List (Option PySem.Str)}, TDs news vs xs → vs.length = xs.length
  | [], [], _ => rfl
  | [], _ :: _, h => h.elim
  | _ :: _, [], h => h.elim
  | _ :: _, _ :: _, ⟨_, r⟩ => by simp [r.length]
theorem news_ne {h₀ h : Heap} {L a b : Addr} {o o' : Obj} {news : LLed} (N : News h₀ L h news) (ha : (a, o) ∈ news) (hb : (b, o') ∈ news) (ho : o ≠ o') : a ≠ b := by
  rintro rfl
  have e1 := (N _ ha).1
  have e2 := (N _ hb).1
  rw [e1] at e2
  exact ho (Option.some.inj e2)
theorem turn_tup {g h : Heap} {L D I aT : Addr} {t u : Tok} {p1 : Addr × Obj} {oI o9 : Obj} {ts : List Value} {xs : List (Option PySem.Str)} {k : Nat} {T9 : LLed}
    (N : News g L h ((D, tup2 (.str (PySem.Str.ofString "") t) (.int 7 u)) :: p1 :: (I, oI) :: (aT, W.listOf (ts ++ [Value.ref D]).toArray k) :: T9)) (hc : oI.cls = .type "list_iterator") (hts : TDs T9 ts xs) (ho : ∀ p ∈ T9, p.1 ≠ aT) (q : ∀ p ∈ ((aT, o9) :: T9 : LLed), p.1 ≠ I) :
    ∃ T : LLed, (∀ p ∈ T9, p ∈ T) ∧ News g L h ((I, oI) :: (aT, W.listOf (ts ++ [Value.ref D]).toArray k) :: T) ∧ (∀ p ∈ T, p.1 ≠ aT) ∧ TDs T (ts ++ [Value.ref D]) (xs ++ [none]) ∧ (∀ p ∈ ((aT, W.listOf (ts ++ [Value.ref D]).toArray k) :: T : LLed), p.1 ≠ I) := by
  have hDa : D ≠ aT := news_ne (o := tup2 (.str (PySem.Str.ofString "") t) (.int 7 u)) N (by simp) (show (aT, W.listOf (ts ++ [Value.ref D]).toArray k) ∈ _ by simp) fun e => by
    have := congrArg (fun o : Obj => o.cls) e
    simp [W.listOf] at this
  have hDI : D ≠ I := news_ne (o := tup2 (.str (PySem.Str.ofString "") t) (.int 7 u)) N (by simp) (show (I, oI) ∈ _ by simp) fun e => by
    have := congrArg (fun o : Obj => o.cls) e
    rw [hc] at this
    simp at this
  have off : ∀ {x : Addr}, D ≠ x → (∀ p ∈ T9, p.1 ≠ x) → ∀ p ∈ ((D, tup2 (.str (PySem.Str.ofString "") t) (.int 7 u)) :: T9 : LLed), p.1 ≠ x := fun h1 h2 p hp => by
    (first | (revert p; refine all_cons ?_ (fun p hp => ?_)) | rcases List.mem_cons.mp hp with rfl | hp)
    · exact h1
    · exact h2 p hp
  refine ⟨(D, tup2 (.str (PySem.Str.ofString "") t) (.int 7 u)) :: T9, fun p hp => List.mem_cons_of_mem _ hp, fun p hp => N p ?_, off hDa ho, TDs.snoc (x := none) ⟨D, t, u, rfl, List.mem_cons_self ..⟩ (hts.mono fun p hp => List.mem_cons_of_mem _ hp), fun p hp => ?_⟩
  · revert p; (repeat (refine sub_cons (by repeat (first | exact List.Mem.head _ | apply List.Mem.tail)) ?_)); (repeat (first | exact fun _ h => h | refine sub_tail ?_))
  · (first | (revert p; refine all_cons ?_ (fun p hp => ?_)) | rcases List.mem_cons.mp hp with rfl | hp)
    · exact q (aT, o9) (List.mem_cons_self ..)
    · exact off hDI (fun p hp => q p (List.mem_cons_of_mem _ hp)) p hp
def tdP : Option PySem.Str → PyData
  | some x => .str x
  | none => .tuple [.str (PySem.Str.ofString ""), .int 7]
theorem TDs.reads {h₀ h : Heap} {L : Addr} {news : LLed} (N : News h₀ L h news) : ∀ {vs : List Value} {xs : List (Option PySem.Str)}, TDs news vs xs → ∃ as, ReadsAll h vs (xs.map tdP) as
  | [], [], _ => ⟨_, ReadsAll.nil⟩
  | [], _ :: _, h => h.elim
  | _ :: _, [], h => h.elim
  | _ :: _, some x :: _, ⟨⟨t, e⟩, r⟩ => by
    obtain ⟨bs, q⟩ := TDs.reads N r
    subst e
    exact ⟨_, ReadsAll.cons (Reads.str _ _) q⟩
  | _ :: _, none :: _, ⟨⟨D, t, u, e, hm⟩, r⟩ => by
    obtain ⟨bs, q⟩ := TDs.reads N r
    subst e
    exact ⟨_, ReadsAll.cons (reads_tuple_at (N.get hm) rfl rfl (ReadsAll.cons (Reads.str _ _) (ReadsAll.cons (Reads.int _ _) ReadsAll.nil))) q⟩
theorem td_lay : ∀ {xs : List (Option PySem.Str)}, (∀ x, some x ∈ xs → PyData.strOk x = true) → PyData.canLayAll0 (xs.map tdP) = true ∧ PyData.depthAll (xs.map tdP) ≤ 1
  | [], _ => by simp [PyData.canLayAll0, PyData.depthAll]
  | some x :: xs, h => by
    have h1 := h x (.head _)
    have ih := td_lay (xs := xs) fun q hq => h q (.tail _ hq)
    simp only [List.map_cons, tdP, PyData.canLayAll0, PyData.depthAll, PyData.canLay0, PyData.depth, h1, ih.1, Bool.and_self, true_and]
    have := ih.2
    omega
  | none :: xs, h => by
    have ih := td_lay (xs := xs) fun q hq => h q (.tail _ hq)
    have e1 : PyData.strOk (PySem.Str.ofString "") = true := by decide +kernel
    simp only [List.map_cons, tdP, PyData.canLayAll0, PyData.depthAll, PyData.canLay0, PyData.depth, e1, ih.1, Bool.and_self, true_and]
    have := ih.2
    omega
theorem td_same : ∀ xs : List (Option PySem.Str), PyData.eqvAll (xs.map tdP) (xs.map tdP) = true
  | [] => by simp [PyData.eqvAll]
  | some x :: xs => by simp [tdP, PyData.eqvAll, PyData.eqv, td_same xs]
  | none :: xs => by simp [tdP, PyData.eqvAll, PyData.eqv, td_same xs]
theorem td_eq {prog : Program} {w : World} {A : Around} {E Q : Value → Shared → Prop} {s : Shared} {h₀ : Heap} {L a b : Addr} {news : LLed} {vs ws : List Value} {n k : Nat} {xs : List (Option PySem.Str)}
    (N : News h₀ L s.heap news) (ma : (a, W.listOf vs.toArray n) ∈ news) (mb : (b, W.listOf ws.toArray k) ∈ news) (ha : TDs news vs xs) (hb : TDs news ws xs) (hok : ∀ x, some x ∈ xs → PyData.strOk x = true) (hu : A.units + 64 < cLine)
    (h : Q (.bool true) s) : wpAny (model prog w) A (compareOp .Eq (.ref a) (.ref b)) Q E s := by
  obtain ⟨as, ra⟩ := TDs.reads N ha
  obtain ⟨bs, rb⟩ := TDs.reads N hb
  have sh : PySem.SeqAt.shaped (.list (xs.map tdP)) = true := by
    obtain ⟨p, q⟩ := td_lay hok
    unfold PySem.SeqAt.shaped
    simp only [PyData.canLay0, PyData.depth, p, Bool.true_and]
    exact decide_eq_true (by omega)
  refine eq_dataH (reads_list_at (N.get ma) rfl rfl (by simpa [W.listOf] using ra)) (reads_list_at (N.get mb) rfl rfl (by simpa [W.listOf] using rb)) sh sh hu ?_
  rw [show PyData.eqv (.list (xs.map tdP)) (.list (xs.map tdP)) = PyData.eqvAll (xs.map tdP) (xs.map tdP) from by simp [PyData.eqv], td_same]
  exact h
end
section
open PySem PySem.W PyProof.Rows PySem.Calls PySem.Spec
def CtrR (w : World) (f : Addr) (vs : List Value) (C : Addr) (ws : List Value) (dep : Nat) (news : LLed) : Prop :=
  ∀ (loose : List PySem.Str) (mean : ExcName → Option Value) (mg mb : PySem.Str → Option Value) (dp un : Nat) (gd : Option (List Code)) (cn : PySem.Str) (cs : Scope) (a : Addr) (ccd : Value) (outer : List Env)
    (A₀ : Around) (base g : Heap) (L : Addr) (m : PySem.Str → Option Value) (s : Shared) (Q E : Value → Shared → Prop),
    Below A₀ base outer g → Fr g L s.heap m → (hd.heap_39 w.params).In g → News g L s.heap news → Top hd.view_39 loose mean mg mb g → (hd.heap_39 w.params).In base → Top hd.view_39 loose mean mg mb base → KtsDicts (outer.filterMap (·.frame)) g →
    cs.kind = .function → dp + dep < recursionLimit → un + 8 * dep < cLine →
    (∀ e t tk h' G, Fr g L G m → RaisedS base G (envOf cn cs L a ccd :: outer) e (.ref C) t ws news h' → G.UpToSlots h' → E (.ref e) { s with heap := h', toks := tk }) →
    wpAny (model P0 w) (ktrTop dp un gd cn cs L a ccd [] outer) (call (.ref f) vs) Q E s
theorem RaisedS.sub {base G : Heap} {l : List Env} {e t : Addr} {cls : Value} {vs : List Value} {news news' : LLed} {h : Heap} (R : RaisedS base G l e cls t vs news h) (hs : ∀ p ∈ news', p ∈ news) : RaisedS base G l e cls t vs news' h := by
  obtain ⟨⟨B, hB, hG, hl, hfl, hnew⟩, htup⟩ := R
  exact ⟨⟨B, hB, hG, fun q hq => hl q (hs q hq), hfl, hnew⟩, htup⟩
theorem p229_A (w : World) (news : LLed) (resp : PySem.Str) (t : Tok) (pv : Value) (hz : resp.length ≤ 1000) (h1 : (Txt.slice resp none (some 3) != PySem.Str.ofString "229") = true) : CtrR w 82 [.str resp t, pv] 61 [.str resp t] 3 news := by
  unfold CtrR
  have hdummy : PySem.Challenge.rw_wo0075_01 = PySem.Challenge.rw_wo0075_01 ∧ hd.heap_39 w.params = hd.heap_39 w.params := by k_fill; exact ⟨rfl, rfl⟩
  clear hdummy
  intro loose mean mg mb dp un gd cn cs a ccd outer A₀ base g L m s Q E hB hF hX hN hT hXB hTB hD hk hdp hun hret
  rcases cs with ⟨ki, na, g1, g2, mo⟩
  dsimp only at hk
  subst hk
  refine wpAny_call ?_
  kts_go
  (try walk_at "fe")
  repeat' (walk_at "Y")
  all_goals exact hret _ _ _ _ _ (by k_asm) (by assumption) (by assumption)
theorem p229_bad (w : World) (news : LLed) (resp : PySem.Str) (t : Tok) (pv : Value) (hz : resp.length ≤ 1000) (h1 : (Txt.slice resp none (some 3) != PySem.Str.ofString "229") = false)
    (hb : 0 ≤ Txt.find resp (PySem.Str.ofString "(") → 0 ≤ Txt.find3 resp (PySem.Str.ofString ")") (Txt.find resp (PySem.Str.ofString "(") + 1) → Txt.find resp (PySem.Str.ofString "(") < Txt.find3 resp (PySem.Str.ofString ")") (Txt.find resp (PySem.Str.ofString "(") + 1) ∧ Txt.find3 resp (PySem.Str.ofString ")") (Txt.find resp (PySem.Str.ofString "(") + 1) < resp.length) (hbad : Txt.find resp (PySem.Str.ofString "(") < 0 ∨ Txt.find3 resp (PySem.Str.ofString ")") (Txt.find resp (PySem.Str.ofString "(") + 1) < 0 ∨ (Txt.item resp (Txt.find resp (PySem.Str.ofString "(") + 1) != Txt.item resp (Txt.find3 resp (PySem.Str.ofString ")") (Txt.find resp (PySem.Str.ofString "(") + 1) - 1)) = true ∨ (Txt.split (Txt.slice resp (some (Txt.find resp (PySem.Str.ofString "(") + 1)) (some (Txt.find3 resp (PySem.Str.ofString ")") (Txt.find resp (PySem.Str.ofString "(") + 1)))) (Txt.item resp (Txt.find resp (PySem.Str.ofString "(") + 1))).length ≠ 5) : CtrR w 82 [.str resp t, pv] 73 [.str resp t] 3 news := by
  unfold CtrR
  have hdummy : PySem.Challenge.rw_wo0075_01 = PySem.Challenge.rw_wo0075_01 ∧ hd.heap_39 w.params = hd.heap_39 w.params := by k_fill; exact ⟨rfl, rfl⟩
  clear hdummy
  intro loose mean mg mb dp un gd cn cs a ccd outer A₀ base g L m s Q E hB hF hX hN hT hXB hTB hD hk hdp hun hret
  rcases cs with ⟨ki, na, g1, g2, mo⟩
  dsimp only at hk
  subst hk
  refine wpAny_call ?_
  kts_go
  (try walk_at "fe")
  repeat' (first | ((first | ((with_reducible show wpAny _ _ (subscriptTail _ _ (Value.ref _) (Value.int _ _)) _ _ _); (with_reducible rename (List.map _ _ = _) => hlook'); refine item_strs (News.isList (by assumption) (by first | exact .head _ | exact .tail _ (.head _) | exact .tail _ (.tail _ (.head _)))) (by omega) (by first | omega | (have := len_of_split (by assumption); omega)) (by omega) ?_; intro _ _ _) | ((with_reducible show wpAny _ _ (subscriptTail _ _ (Value.str _ _) (Value.int _ _)) _ _ _); (refine item_str (fitsSsize_of (N := 9223372036854775808) (by omega) (by omega) (Int.le_refl _)) (by omega) (by omega) ?_; intro zhL9; clear zhL9))); all_goals (try walk_at "fq")) | walk_at "Y")
  all_goals first
    | exact hret _ _ _ _ _ (by k_asm) (by assumption) (by assumption)
    | exact hret _ _ _ _ _ (by k_asm) (RaisedS.sub (by assumption) fun p hp => List.mem_cons_of_mem _ hp) (by assumption)
    | (exfalso
       rename (List.map _ _ = Txt.split _ _) => hk9
       rename ((_ != _) = false) => hk8
       have h8 := congrArg List.length hk9
       rw [List.length_map] at h8
       rcases hbad with h | h | h | h
       · omega
       · omega
       · rw [hk8] at h; cases h
       · omega)
theorem p229_B (w : World) (news : LLed) (resp : PySem.Str) (t : Tok) (pv : Value) (hz : resp.length ≤ 1000) (h1 : (Txt.slice resp none (some 3) != PySem.Str.ofString "229") = false) (h2 : Txt.find resp (PySem.Str.ofString "(") < 0) : CtrR w 82 [.str resp t, pv] 73 [.str resp t] 3 news := p229_bad w news resp t pv hz h1 (fun h => absurd h (Int.not_le.mpr h2)) (.inl h2)
theorem p229_C (w : World) (news : LLed) (resp : PySem.Str) (t : Tok) (pv : Value) (hz : resp.length ≤ 1000) (h1 : (Txt.slice resp none (some 3) != PySem.Str.ofString "229") = false) (h2 : 0 ≤ Txt.find resp (PySem.Str.ofString "(")) (h3 : Txt.find3 resp (PySem.Str.ofString ")") (Txt.find resp (PySem.Str.ofString "(") + 1) < 0) : CtrR w 82 [.str resp t, pv] 73 [.str resp t] 3 news := p229_bad w news resp t pv hz h1 (fun _ h => absurd h (Int.not_le.mpr h3)) (.inr (.inl h3))
theorem p229_D (w : World) (news : LLed) (resp : PySem.Str) (t : Tok) (pv : Value) (hz : resp.length ≤ 1000) (h1 : (Txt.slice resp none (some 3) != PySem.Str.ofString "229") = false) (h2 : 0 ≤ Txt.find resp (PySem.Str.ofString "(")) (h3 : Txt.find resp (PySem.Str.ofString "(") < Txt.find3 resp (PySem.Str.ofString ")") (Txt.find resp (PySem.Str.ofString "(") + 1)) (h3' : Txt.find3 resp (PySem.Str.ofString ")") (Txt.find resp (PySem.Str.ofString "(") + 1) < resp.length) (h4 : (Txt.item resp (Txt.find resp (PySem.Str.ofString "(") + 1) != Txt.item resp (Txt.find3 resp (PySem.Str.ofString ")") (Txt.find resp (PySem.Str.ofString "(") + 1) - 1)) = true) : CtrR w 82 [.str resp t, pv] 73 [.str resp t] 3 news := p229_bad w news resp t pv hz h1 (fun _ _ => ⟨h3, h3'⟩) (.inr (.inr (.inl h4)))
theorem p229_E (w : World) (news : LLed) (resp : PySem.Str) (t : Tok) (pv : Value) (hz : resp.length ≤ 1000) (h1 : (Txt.slice resp none (some 3) != PySem.Str.ofString "229") = false) (h2 : 0 ≤ Txt.find resp (PySem.Str.ofString "(")) (h3 : Txt.find resp (PySem.Str.ofString "(") < Txt.find3 resp (PySem.Str.ofString ")") (Txt.find resp (PySem.Str.ofString "(") + 1)) (h3' : Txt.find3 resp (PySem.Str.ofString ")") (Txt.find resp (PySem.Str.ofString "(") + 1) < resp.length) (h4 : (Txt.item resp (Txt.find resp (PySem.Str.ofString "(") + 1) != Txt.item resp (Txt.find3 resp (PySem.Str.ofString ")") (Txt.find resp (PySem.Str.ofString "(") + 1) - 1)) = false) (h5 : (Txt.split (Txt.slice resp (some (Txt.find resp (PySem.Str.ofString "(") + 1)) (some (Txt.find3 resp (PySem.Str.ofString ")") (Txt.find resp (PySem.Str.ofString "(") + 1)))) (Txt.item resp (Txt.find resp (PySem.Str.ofString "(") + 1))).length ≠ 5) : CtrR w 82 [.str resp t, pv] 73 [.str resp t] 3 news := p229_bad w news resp t pv hz h1 (fun _ _ => ⟨h3, h3'⟩) (.inr (.inr (.inr h5)))
end
section
open PySem PySem.W PyProof.Rows PySem.Calls PySem.Spec
abbrev gdS (mk : PySem.Str) : PySem.Str := Txt.mul mk 3 ++ PySem.Str.ofString "7" ++ mk
abbrev tx0 (mk : PySem.Str) : PySem.Str := PySem.Str.ofString "257 (" ++ gdS mk ++ PySem.Str.ofString ")"
abbrev tx1 (mk : PySem.Str) : PySem.Str := PySem.Str.ofString "229 " ++ (PySem.Str.ofString ")(" ++ gdS mk ++ PySem.Str.ofString ") ()")
abbrev tx2 (mk : PySem.Str) : PySem.Str := PySem.Str.ofString "229 " ++ (PySem.Str.ofString "(" ++ gdS mk ++ mk ++ PySem.Str.ofString ")")
abbrev tx3 (mk : PySem.Str) : PySem.Str := PySem.Str.ofString "229 " ++ (PySem.Str.ofString "(" ++ Txt.slice (gdS mk) (some 1) none ++ PySem.Str.ofString ")")
abbrev tx4 (mk : PySem.Str) : PySem.Str := PySem.Str.ofString "229 " ++ (PySem.Str.ofString "(" ++ gdS mk ++ PySem.Str.ofString "x)")
abbrev tx5 (mk : PySem.Str) : PySem.Str := PySem.Str.ofString "229 " ++ (PySem.Str.ofString "(" ++ gdS mk ++ PySem.Str.ofString "x")
abbrev tx6 : PySem.Str := PySem.Str.ofString "229 " ++ PySem.Str.ofString "2 7 2)"
abbrev ty3 (mk : PySem.Str) : PySem.Str := PySem.Str.ofString "257 \"7\"\" " ++ mk ++ PySem.Str.ofString "\""
abbrev fnd (x : PySem.Str) : Int := Txt.find x (PySem.Str.ofString "(")
abbrev fnd3 (x : PySem.Str) : Int := Txt.find3 x (PySem.Str.ofString ")") (Txt.find x (PySem.Str.ofString "(") + 1)
abbrev is229 (x : PySem.Str) : Bool := Txt.slice x none (some 3) != PySem.Str.ofString "229"
abbrev mism (x : PySem.Str) : Bool := Txt.item x (fnd x + 1) != Txt.item x (fnd3 x - 1)
abbrev prt (x : PySem.Str) : List PySem.Str := Txt.split (Txt.slice x (some (fnd x + 1)) (some (fnd3 x))) (Txt.item x (fnd x + 1))
theorem tx_f0 {mk : PySem.Str} (hm : OkM mk) : (tx0 mk).length ≤ 1000 ∧ is229 (tx0 mk) = true := by
  rcases hm with rfl | rfl | rfl <;> decide +kernel
theorem tx_f1 {mk : PySem.Str} (hm : OkM mk) : (tx1 mk).length ≤ 1000 ∧ is229 (tx1 mk) = false ∧ 0 ≤ fnd (tx1 mk) ∧ fnd (tx1 mk) < fnd3 (tx1 mk) ∧ fnd3 (tx1 mk) < (tx1 mk).length ∧ mism (tx1 mk) = false ∧ prt (tx1 mk) = [⟨#[]⟩, ⟨#[]⟩, ⟨#[]⟩, PySem.Str.ofString "7", ⟨#[]⟩] := by
  rcases hm with rfl | rfl | rfl <;> decide +kernel
theorem tx_f2 {mk : PySem.Str} (hm : OkM mk) : (tx2 mk).length ≤ 1000 ∧ is229 (tx2 mk) = false ∧ 0 ≤ fnd (tx2 mk) ∧ fnd (tx2 mk) < fnd3 (tx2 mk) ∧ fnd3 (tx2 mk) < (tx2 mk).length ∧ mism (tx2 mk) = false ∧ (prt (tx2 mk)).length ≠ 5 := by
  rcases hm with rfl | rfl | rfl <;> decide +kernel
theorem tx_f3 {mk : PySem.Str} (hm : OkM mk) : (tx3 mk).length ≤ 1000 ∧ is229 (tx3 mk) = false ∧ 0 ≤ fnd (tx3 mk) ∧ fnd (tx3 mk) < fnd3 (tx3 mk) ∧ fnd3 (tx3 mk) < (tx3 mk).length ∧ mism (tx3 mk) = false ∧ (prt (tx3 mk)).length ≠ 5 := by
  rcases hm with rfl | rfl | rfl <;> decide +kernel
theorem tx_f4 {mk : PySem.Str} (hm : OkM mk) : (tx4 mk).length ≤ 1000 ∧ is229 (tx4 mk) = false ∧ 0 ≤ fnd (tx4 mk) ∧ fnd (tx4 mk) < fnd3 (tx4 mk) ∧ fnd3 (tx4 mk) < (tx4 mk).length ∧ mism (tx4 mk) = true := by
  rcases hm with rfl | rfl | rfl <;> decide +kernel
theorem tx_f5 {mk : PySem.Str} (hm : OkM mk) : (tx5 mk).length ≤ 1000 ∧ is229 (tx5 mk) = false ∧ 0 ≤ fnd (tx5 mk) ∧ fnd3 (tx5 mk) < 0 := by
  rcases hm with rfl | rfl | rfl <;> decide +kernel
theorem tx_f6 : tx6.length ≤ 1000 ∧ is229 tx6 = false ∧ fnd tx6 < 0 := by decide +kernel
theorem ty_f3 {mk : PySem.Str} (hm : OkM mk) : (ty3 mk).length ≤ 100 ∧ 5 ≤ (ty3 mk).length ∧ (Txt.slice (ty3 mk) none (some 3) != PySem.Str.ofString "257") = false ∧ (Txt.slice (ty3 mk) (some 3) (some 5) != PySem.Str.ofString " \"") = false ∧
    (⟨(scan ((ty3 mk).cps.toList.drop 5)).toArray⟩ : PySem.Str) = PySem.Str.ofString "7\" " ++ mk := by
  rcases hm with rfl | rfl | rfl <;> decide +kernel
theorem tx_c1 (w : World) (news : LLed) (pa : Addr) (mk host : PySem.Str) (t u v : Tok) (po : Int) (hm : OkM mk) (hpa : (pa, tup2 (.str host u) (.int po v)) ∈ news) :
    Ctr w 82 [.str (tx1 mk) t, .ref pa] [] 3 news fun N Q => ∀ D t' h' tk', N h' ((D, tup2 (.str host u) (.int 7 t')) :: news) → Q (.ref D) h' tk' := by
  obtain ⟨f0, f1, f2, f3, f4, f5, f6⟩ := tx_f1 hm
  refine (p229_ok w news pa (tx1 mk) host t u v po 7 f0 _ _ _ _ _ f1 f2 f3 f4 f5 f6 (by decide +kernel) (by decide +kernel)).led (fun p hp => ?_) fun N Q hN h D t' h' tk' hn => h D t' h' tk' (hN _ _ _ hn fun p hp => ?_)
  · (first | (revert p; refine all_cons ?_ (fun p hp => ?_)) | rcases List.mem_cons.mp hp with rfl | hp)
    · exact hpa
    · exact hp
  · (first | (revert p; refine all_cons ?_ (fun p hp => ?_)) | rcases List.mem_cons.mp hp with rfl | hp)
    · exact List.mem_cons_self ..
    · exact List.mem_cons_of_mem _ (List.mem_cons_of_mem _ hp)
section
variable (w : World) (news : LLed) (pv : Value) {mk : PySem.Str} (t : Tok) (hm : OkM mk)
include hm
theorem tx_r0 : CtrR w 82 [.str (tx0 mk) t, pv] 61 [.str (tx0 mk) t] 3 news := p229_A w news _ t pv (tx_f0 hm).1 (tx_f0 hm).2
theorem tx_r2 : CtrR w 82 [.str (tx2 mk) t, pv] 73 [.str (tx2 mk) t] 3 news := by
  obtain ⟨f0, f1, f2, f3, f4, f5, f6⟩ := tx_f2 hm
  exact p229_E w news _ t pv f0 f1 f2 f3 f4 f5 f6
theorem tx_r3 : CtrR w 82 [.str (tx3 mk) t, pv] 73 [.str (tx3 mk) t] 3 news := by
  obtain ⟨f0, f1, f2, f3, f4, f5, f6⟩ := tx_f3 hm
  exact p229_E w news _ t pv f0 f1 f2 f3 f4 f5 f6
theorem tx_r4 : CtrR w 82 [.str (tx4 mk) t, pv] 73 [.str (tx4 mk) t] 3 news := by
  obtain ⟨f0, f1, f2, f3, f4, f5⟩ := tx_f4 hm
  exact p229_D w news _ t pv f0 f1 f2 f3 f4 f5
theorem tx_r5 : CtrR w 82 [.str (tx5 mk) t, pv] 73 [.str (tx5 mk) t] 3 news := by
  obtain ⟨f0, f1, f2, f3⟩ := tx_f5 hm
  exact p229_C w news _ t pv f0 f1 f2 f3
omit hm in
theorem tx_r6 : CtrR w 82 [.str tx6 t, pv] 73 [.str tx6 t] 3 news := p229_B w news _ t pv tx_f6.1 tx_f6.2.1 tx_f6.2.2
end
theorem ty_c3 (w : World) (news : LLed) {mk : PySem.Str} (t : Tok) (hm : OkM mk) : Ctr w 89 [.str (ty3 mk) t] [] 1 news fun N Q => ∀ t' h' tk', N h' news → Q (.str (PySem.Str.ofString "7\" " ++ mk) t') h' tk' := by
  obtain ⟨f0, f1, f2, f3, f4⟩ := ty_f3 hm
  have := p257_c w news (ty3 mk) t f0 f1 f2 f3
  rw [f4] at this
  exact this
theorem p257_N (w : World) (news : LLed) (x : PySem.Str) (t : Tok) (hx : x.length ≤ 100) (h1 : (Txt.slice x none (some 3) != PySem.Str.ofString "257") = false) (h2 : (Txt.slice x (some 3) (some 5) != PySem.Str.ofString " \"") = true) :
    Ctr w 89 [.str x t] [] 1 news fun N Q => ∀ t' h' tk', N h' news → Q (.str (PySem.Str.ofString "") t') h' tk' := by
  unfold Ctr
  have hdummy : PySem.Challenge.rw_wo0075_01 = PySem.Challenge.rw_wo0075_01 ∧ hd.heap_39 w.params = hd.heap_39 w.params := by k_fill; exact ⟨rfl, rfl⟩
  clear hdummy
  intro loose mean mg mb dp un gd cn cs a ccd cl outer A₀ base h₀ L m s Q E hB hF hX hN hT hk hdp hun hret
  rcases cs with ⟨ki, na, g1, g2, mo⟩
  dsimp only at hk
  subst hk
  (try walk_at "fe")
  repeat' (walk_at "Y")
  exact hret _ _ _ ⟨by k_asm, by k_asm⟩
theorem p257_R (w : World) (news : LLed) (resp : PySem.Str) (t : Tok) (hz : resp.length ≤ 1000) (h1 : (Txt.slice resp none (some 3) != PySem.Str.ofString "257") = true) : CtrR w 89 [.str resp t] 61 [.str resp t] 3 news := by
  unfold CtrR
  have hdummy : PySem.Challenge.rw_wo0075_01 = PySem.Challenge.rw_wo0075_01 ∧ hd.heap_39 w.params = hd.heap_39 w.params := by k_fill; exact ⟨rfl, rfl⟩
  clear hdummy
  intro loose mean mg mb dp un gd cn cs a ccd outer A₀ base g L m s Q E hB hF hX hN hT hXB hTB hD hk hdp hun hret
  rcases cs with ⟨ki, na, g1, g2, mo⟩
  dsimp only at hk
  subst hk
  refine wpAny_call ?_
  kts_go
  (try walk_at "fe")
  repeat' (walk_at "Y")
  all_goals exact hret _ _ _ _ _ (by k_asm) (by assumption) (by assumption)
theorem ty_r0 (w : World) (news : LLed) (t : Tok) : CtrR w 89 [.str (PySem.Str.ofString "229 \"7\"") t] 61 [.str (PySem.Str.ofString "229 \"7\"") t] 3 news := p257_R w news _ t (by decide +kernel) (by decide +kernel)
theorem ty_c1 (w : World) (news : LLed) (t : Tok) : Ctr w 89 [.str (PySem.Str.ofString "257-\"7\"") t] [] 1 news fun N Q => ∀ t' h' tk', N h' news → Q (.str (PySem.Str.ofString "") t') h' tk' := p257_N w news _ t (by decide +kernel) (by decide +kernel) (by decide +kernel)
theorem ty_c2 (w : World) (news : LLed) (t : Tok) : Ctr w 89 [.str (PySem.Str.ofString "257 77\"") t] [] 1 news fun N Q => ∀ t' h' tk', N h' news → Q (.str (PySem.Str.ofString "") t') h' tk' := p257_N w news _ t (by decide +kernel) (by decide +kernel) (by decide +kernel)
theorem CtrR.use {w : World} {f : Addr} {vs : List Value} {C : Addr} {ws : List Value} {dep : Nat} {news : LLed} (H : CtrR w f vs C ws dep news)
    {loose : List PySem.Str} {mean : ExcName → Option Value} {mg mb : PySem.Str → Option Value} {dp un : Nat} {gd : Option (List Code)} {cn : PySem.Str} {cs : Scope} {a : Addr} {ccd : Value} {outer : List Env}
    {A₀ : Around} {base g : Heap} {L : Addr} {m : PySem.Str → Option Value} {s : Shared} {Q E : Value → Shared → Prop}
    (B : Below A₀ base outer g) (F : Fr g L s.heap m) (X : (hd.heap_39 w.params).In g) (N : News g L s.heap news) (T : Top hd.view_39 loose mean mg mb g) (XB : (hd.heap_39 w.params).In base) (TB : Top hd.view_39 loose mean mg mb base) (D : KtsDicts (outer.filterMap (·.frame)) g)
    (hk : cs.kind = .function) (hd : dp + dep < recursionLimit) (hu : un + 8 * dep < cLine)
    (h : ∀ e t tk h' G, Fr g L G m → RaisedS base G (envOf cn cs L a ccd :: outer) e (.ref C) t ws news h' → G.UpToSlots h' → E (.ref e) { s with heap := h', toks := tk }) :
    wpAny (model P0 w) (ktrTop dp un gd cn cs L a ccd [] outer) (call (.ref f) vs) Q E s := H loose mean mg mb dp un gd cn cs a ccd outer A₀ base g L m s Q E B F X N T XB TB D hk hd hu h
end
section
open PySem PySem.W PyProof.Rows PySem.Calls PySem.Spec
local macro_rules | `(tactic| k_mem) => `(tactic| ((iterate 12 (try (first | (with_reducible assumption) | (with_reducible exact List.mem_cons_self ..) | (with_reducible refine List.mem_append_right _ ?_) | (with_reducible refine List.mem_cons_of_mem _ ?_)))); done))
local macro_rules | `(tactic| walk_at "CompSrc") => `(tactic| ((refine LCg.CompSrc.ledger (by rfl) (by k_asm) (by k_asm) (by k_mem) ?hz ?_; (case hz => (rw [sizeLine_eq, List.size_toArray]; omega))); intro g9))
local macro_rules | `(tactic| walk_at "CompSrc") => `(tactic| ((refine LCg.CompSrc.range (n := 3) (by rfl) (by k_asm) (by k_asm) (by assumption) (by decide) (by decide) ?hz ?_; (case hz => (rw [sizeLine_eq]; omega))); intro g9))
local macro_rules | `(tactic| k_ne) => `(tactic| ((try dsimp only); refine' tup_ne ?tn0 ?tn1 ?tn2; (case tn0 => with_reducible assumption); (case tn1 => first | exact List.Mem.head _ | exact .tail _ (.head _) | exact .tail _ (.tail _ (.head _)) | exact .tail _ (.tail _ (.tail _ (.head _)))); (case tn2 => k_mem); done))
local macro_rules | `(tactic| k_ne) => `(tactic| ((try dsimp only); assumption))
theorem g6_0 {a b c d e f v : Value} (h : (#[a, b, c, d, e, f] : Array Value)[0]? = some v) : a = v := Option.some.inj h
theorem g6_1 {a b c d e f v : Value} (h : (#[a, b, c, d, e, f] : Array Value)[1]? = some v) : b = v := Option.some.inj h
theorem g6_2 {a b c d e f v : Value} (h : (#[a, b, c, d, e, f] : Array Value)[2]? = some v) : c = v := Option.some.inj h
theorem g6_3 {a b c d e f v : Value} (h : (#[a, b, c, d, e, f] : Array Value)[3]? = some v) : d = v := Option.some.inj h
theorem g6_4 {a b c d e f v : Value} (h : (#[a, b, c, d, e, f] : Array Value)[4]? = some v) : e = v := Option.some.inj h
theorem g6_5 {a b c d e f v : Value} (h : (#[a, b, c, d, e, f] : Array Value)[5]? = some v) : f = v := Option.some.inj h
theorem g7_0 {a b c d e f g v : Value} (h : ([a, b, c, d, e, f, g] : List Value)[0]? = some v) : a = v := Option.some.inj h
theorem g7_1 {a b c d e f g v : Value} (h : ([a, b, c, d, e, f, g] : List Value)[1]? = some v) : b = v := Option.some.inj h
theorem g7_2 {a b c d e f g v : Value} (h : ([a, b, c, d, e, f, g] : List Value)[2]? = some v) : c = v := Option.some.inj h
theorem g7_3 {a b c d e f g v : Value} (h : ([a, b, c, d, e, f, g] : List Value)[3]? = some v) : d = v := Option.some.inj h
theorem g7_4 {a b c d e f g v : Value} (h : ([a, b, c, d, e, f, g] : List Value)[4]? = some v) : e = v := Option.some.inj h
theorem g7_5 {a b c d e f g v : Value} (h : ([a, b, c, d, e, f, g] : List Value)[5]? = some v) : f = v := Option.some.inj h
theorem g7_6 {a b c d e f g v : Value} (h : ([a, b, c, d, e, f, g] : List Value)[6]? = some v) : g = v := Option.some.inj h
theorem g4_0 {a b c d v : Value} (h : ([a, b, c, d] : List Value)[0]? = some v) : a = v := Option.some.inj h
theorem g4_1 {a b c d v : Value} (h : ([a, b, c, d] : List Value)[1]? = some v) : b = v := Option.some.inj h
theorem g4_2 {a b c d v : Value} (h : ([a, b, c, d] : List Value)[2]? = some v) : c = v := Option.some.inj h
theorem g4_3 {a b c d v : Value} (h : ([a, b, c, d] : List Value)[3]? = some v) : d = v := Option.some.inj h
theorem vs_thr {ys : List Value} {a b c : PySem.Str} (h : VS ys [a, b, c]) : ∃ t1 t2 t3, ys = [.str a t1, .str b t2, .str c t3] := by
  obtain ⟨t1, r1, e1, h1⟩ := h.inv
  obtain ⟨t2, r2, e2, h2⟩ := h1.inv
  obtain ⟨t3, r3, e3, h3⟩ := h2.inv
  exact ⟨t1, t2, t3, by rw [e1, e2, e3, h3.inv0]⟩
theorem vs_six {ys : List Value} {a b c d e f : PySem.Str} (h : VS ys [a, b, c, d, e, f]) : ∃ t1 t2 t3 t4 t5 t6, ys = [.str a t1, .str b t2, .str c t3, .str d t4, .str e t5, .str f t6] := by
  obtain ⟨t1, r1, e1, h1⟩ := h.inv
  obtain ⟨t2, r2, e2, h2⟩ := h1.inv
  obtain ⟨t3, r3, e3, h3⟩ := h2.inv
  obtain ⟨t4, t5, t6, e4⟩ := vs_thr h3
  exact ⟨t1, t2, t3, t4, t5, t6, by rw [e1, e2, e3, e4]⟩
theorem ref_start {g h : Heap} {L D C l m t aT : Addr} {v1 v2 v3 v4 v5 v6 v7 : Value} {vs2 vs3 vs4 : List Value} {vs5 : Array Value} {n1 n2 n3 n4 : Nat} (h2 : vs2.length = 6) (h3 : vs3.length = 1) (h4 : vs4.length = 6)
    (N : News g L h [(D, W.listOf #[v1, v2, v3, v4, v5, v6, v7] n1), (C, W.listOf vs2.toArray n2), (l, W.listOf vs3.toArray n3), (m, W.listOf vs4.toArray n4), (t, { cls := .type "tuple", data := .seq vs5 0 }), (aT, W.listOf #[] 0)]) :
    ∃ (b : Addr) (T : LLed), b = aT ∧ News g L h ((b, W.listOf ([] : List Value).toArray 0) :: T) ∧ (D, W.listOf [v1, v2, v3, v4, v5, v6, v7].toArray n1) ∈ T ∧ ∀ p ∈ T, p.1 ≠ b := by
  refine ⟨aT, [(D, W.listOf #[v1, v2, v3, v4, v5, v6, v7] n1), (C, W.listOf vs2.toArray n2), (l, W.listOf vs3.toArray n3), (m, W.listOf vs4.toArray n4), (t, { cls := .type "tuple", data := .seq vs5 0 })], rfl, News.sub N (fun p hp => ?_), by simp, ?_⟩
  · revert p; (repeat (refine sub_cons (by repeat (first | exact List.Mem.head _ | apply List.Mem.tail)) ?_)); (repeat (first | exact fun _ h => h | refine sub_tail ?_))
  · have key : ∀ {x : Addr} {vs : List Value} {n : Nat}, 0 < vs.length → (W.listOf vs.toArray n) ≠ W.listOf #[] 0 := by
      intro x vs n hl e
      have := congrArg (fun o : Obj => match o.data with | .seq a _ => a.size | _ => 0) e
      simp [W.listOf] at this
      rw [this] at hl; simp at hl
    have all : ∀ q : Addr × Obj, q ∈ [(D, W.listOf #[v1, v2, v3, v4, v5, v6, v7] n1), (C, W.listOf vs2.toArray n2), (l, W.listOf vs3.toArray n3), (m, W.listOf vs4.toArray n4), (t, { cls := .type "tuple", data := .seq vs5 0 }), (aT, W.listOf #[] 0)] → q.2 ≠ W.listOf #[] 0 → q.1 ≠ aT :=
      fun q hq h => news_ne (a := q.1) (o := q.2) N hq (by simp) h
    intro p hp
    refine all p (by revert p; (repeat (refine sub_cons (by repeat (first | exact List.Mem.head _ | apply List.Mem.tail)) ?_)); (repeat (first | exact fun _ h => h | refine sub_tail ?_))) ?_
    revert p; refine all_cons ?_ (all_cons ?_ (all_cons ?_ (all_cons ?_ (all_cons ?_ (List.forall_mem_nil _)))))
    · exact key (x := 0) (vs := [v1, v2, v3, v4, v5, v6, v7]) (by simp)
    · exact key (x := 0) (by omega)
    · exact key (x := 0) (by omega)
    · exact key (x := 0) (by omega)
    · intro e
      have := congrArg (fun o : Obj => o.cls) e
      simp [W.listOf] at this
theorem q4' {a I : Addr} {o : Obj} {T : LLed} (h : a ≠ I) (hT : ∀ p ∈ T, p.1 ≠ I) : ∀ p ∈ ((a, o) :: T : LLed), p.1 ≠ I := by
  intro p hp
  (first | (revert p; refine all_cons ?_ (fun p hp => ?_)) | rcases List.mem_cons.mp hp with rfl | hp)
  · exact h
  · exact hT p hp
def Bad (w : World) (x : PySem.Str) (C : Addr) : Prop := ∀ news pv t, CtrR w 82 [.str x t, pv] C [.str x t] 3 news
theorem Bad.use {w : World} {x : PySem.Str} {C : Addr} {news : LLed} {pv : Value} {t : Tok} (h : Bad w x C) : CtrR w 82 [.str x t, pv] C [.str x t] 3 news := h _ _ _
def Good (w : World) (x : PySem.Str) : Prop := ∀ (news : LLed) (pa : Addr) (host : PySem.Str) (t u v : Tok) (po : Int), (pa, tup2 (.str host u) (.int po v)) ∈ news → Ctr w 82 [.str x t, .ref pa] [] 3 news fun N Q => ∀ D t' h' tk', N h' ((D, tup2 (.str host u) (.int 7 t')) :: news) → Q (.ref D) h' tk'
theorem Good.use {w : World} {x : PySem.Str} {news : LLed} {pa : Addr} {host : PySem.Str} {t u v : Tok} {po : Int} (h : Good w x) (hm : (pa, tup2 (.str host u) (.int po v)) ∈ news) : Ctr w 82 [.str x t, .ref pa] [] 3 news fun N Q => ∀ D t' h' tk', N h' ((D, tup2 (.str host u) (.int 7 t')) :: news) → Q (.ref D) h' tk' := h _ _ _ _ _ _ _ hm
def Bad7 (w : World) (x : PySem.Str) : Prop := ∀ news t, CtrR w 89 [.str x t] 61 [.str x t] 3 news
theorem Bad7.use {w : World} {x : PySem.Str} {news : LLed} {t : Tok} (h : Bad7 w x) : CtrR w 89 [.str x t] 61 [.str x t] 3 news := h _ _
def Good7 (w : World) (x y : PySem.Str) : Prop := ∀ news t, Ctr w 89 [.str x t] [] 1 news fun N Q => ∀ t' h' tk', N h' news → Q (.str y t') h' tk'
theorem Good7.use {w : World} {x y : PySem.Str} {news : LLed} {t : Tok} (h : Good7 w x y) : Ctr w 89 [.str x t] [] 1 news fun N Q => ∀ t' h' tk', N h' news → Q (.str y t') h' tk' := h _ _
theorem ref_start2 {g h : Heap} {L l aT : Addr} {v1 v2 v3 v4 : Value} {ts : List Value} {k n : Nat} {T : LLed} (N : News g L h ((l, W.listOf #[v1, v2, v3, v4] n) :: (aT, W.listOf ts.toArray k) :: T)) (hl : ts.length ≠ 4) (ho : ∀ p ∈ T, p.1 ≠ aT) :
    ∃ T2 : LLed, News g L h ((aT, W.listOf ts.toArray k) :: T2) ∧ (l, W.listOf [v1, v2, v3, v4].toArray n) ∈ T2 ∧ (∀ p ∈ T, p ∈ T2) ∧ ∀ p ∈ T2, p.1 ≠ aT := by
  have hne : l ≠ aT := news_ne (o := W.listOf #[v1, v2, v3, v4] n) (o' := W.listOf ts.toArray k) N (by simp) (by simp) fun e => by
    have := congrArg (fun o : Obj => match o.data with | .seq a _ => a.size | _ => 0) e
    simp [W.listOf] at this
    exact hl this.symm
  refine ⟨(l, W.listOf [v1, v2, v3, v4].toArray n) :: T, fun p hp => N p ?_, List.mem_cons_self .., fun p hp => List.mem_cons_of_mem _ hp, fun p hp => ?_⟩
  · revert p; (repeat (refine sub_cons (by repeat (first | exact List.Mem.head _ | apply List.Mem.tail)) ?_)); (repeat (first | exact fun _ h => h | refine sub_tail ?_))
  · (first | (revert p; refine all_cons ?_ (fun p hp => ?_)) | rcases List.mem_cons.mp hp with rfl | hp)
    · exact hne
    · exact ho p hp
local macro_rules | `(tactic| walk_at "my_useR") => `(tactic| ((case r2 => k_asm); (case r1 => assumption); (case r3 => k_asm); (case r4 => k_asm); (case r5 => k_asm); (case r6 => assumption); (case r7 => assumption); (case r8 => assumption); (case rk => first | exact rfl | assumption)))
theorem td_two {news : LLed} {x : PySem.Str} {xs : List (Option PySem.Str)} : ∀ {vs : List Value}, TDs news vs (some x :: none :: xs) → ∃ (t : Tok) (D : Addr) (t1 t2 : Tok) (r : List Value), vs = Value.str x t :: Value.ref D :: r ∧ (D, tup2 (.str (PySem.Str.ofString "") t1) (.int 7 t2)) ∈ news ∧ TDs news r xs
  | [], h => h.elim
  | [_], h => h.2.elim
  | _ :: _ :: r, ⟨⟨t, e⟩, ⟨⟨D, t1, t2, e', hm⟩, hr⟩⟩ => ⟨t, D, t1, t2, r, by rw [e, e'], hm, hr⟩
theorem ref_ok {mk : PySem.Str} (hm : OkM mk) : ∀ x, some x ∈ (some (PySem.Str.ofString "reply") :: none :: [some (PySem.Str.ofString "proto"), some (PySem.Str.ofString "proto"), some (PySem.Str.ofString "proto"), some (PySem.Str.ofString "proto"), some (PySem.Str.ofString "proto"), some (PySem.Str.ofString "reply"), some (PySem.Str.ofString ""), some (PySem.Str.ofString ""), some (PySem.Str.ofString "7\" " ++ mk)] : List (Option PySem.Str)) → PyData.strOk x = true := by
  intro x hx
  have e1 : PyData.strOk (PySem.Str.ofString "reply") = true := by decide +kernel
  have e2 : PyData.strOk (PySem.Str.ofString "proto") = true := by decide +kernel
  have e3 : PyData.strOk (PySem.Str.ofString "") = true := by decide +kernel
  have e4 : PyData.strOk (PySem.Str.ofString "7\" " ++ mk) = true := by rcases hm with rfl | rfl | rfl <;> decide +kernel
  simp only [List.mem_cons, Option.some.injEq, List.not_mem_nil, or_false, reduceCtorEq, false_or] at hx
  rcases hx with rfl | rfl | rfl | rfl | rfl | rfl | rfl | rfl | rfl | rfl <;> assumption
noncomputable def due1 : List (Option PySem.Str) := [some (PySem.Str.ofString "reply"), none, some (PySem.Str.ofString "proto"), some (PySem.Str.ofString "proto"), some (PySem.Str.ofString "proto"), some (PySem.Str.ofString "proto"), some (PySem.Str.ofString "proto")]
noncomputable def due2 (mk : PySem.Str) : List (Option PySem.Str) := [some (PySem.Str.ofString "reply"), some (PySem.Str.ofString ""), some (PySem.Str.ofString ""), some (PySem.Str.ofString "7\" " ++ mk)]
noncomputable def dueR (mk : PySem.Str) : List (Option PySem.Str) := [some (PySem.Str.ofString "proto"), some (PySem.Str.ofString "proto"), some (PySem.Str.ofString "proto"), some (PySem.Str.ofString "proto"), some (PySem.Str.ofString "proto"), some (PySem.Str.ofString "reply"), some (PySem.Str.ofString ""), some (PySem.Str.ofString ""), some (PySem.Str.ofString "7\" " ++ mk)]
noncomputable def sgs (mk : PySem.Str) : List PySem.Str := [tx1 mk, tx2 mk, tx3 mk, tx4 mk, tx5 mk, tx6]
theorem TDs.to {news : LLed} {vs : List Value} {xs ys : List (Option PySem.Str)} (h : TDs news vs xs) (e : ys = xs) : TDs news vs ys := e ▸ h
theorem VS.to {vs : List Value} {xs ys : List PySem.Str} (h : VS vs xs) (e : ys = xs) : VS vs ys := e ▸ h
theorem sg_len {mk : PySem.Str} (hm : OkM mk) : ∀ x ∈ [PySem.Str.ofString ")(" ++ gdS mk ++ PySem.Str.ofString ") ()", PySem.Str.ofString "(" ++ gdS mk ++ mk ++ PySem.Str.ofString ")", PySem.Str.ofString "(" ++ Txt.slice (gdS mk) (some 1) none ++ PySem.Str.ofString ")", PySem.Str.ofString "(" ++ gdS mk ++ PySem.Str.ofString "x)", PySem.Str.ofString "(" ++ gdS mk ++ PySem.Str.ofString "x", PySem.Str.ofString "2 7 2)"], x.length ≤ 100 := by
  rcases hm with rfl | rfl | rfl <;> decide +kernel
theorem sg_case {mk : PySem.Str} (hm : OkM mk) {t1 t2 t3 t4 t5 t6 : Tok} {i : Nat} {v : Value} (hi : i < 6) (h : (#[.str (PySem.Str.ofString ")(" ++ gdS mk ++ PySem.Str.ofString ") ()") t1, .str (PySem.Str.ofString "(" ++ gdS mk ++ mk ++ PySem.Str.ofString ")") t2, .str (PySem.Str.ofString "(" ++ Txt.slice (gdS mk) (some 1) none ++ PySem.Str.ofString ")") t3, .str (PySem.Str.ofString "(" ++ gdS mk ++ PySem.Str.ofString "x)") t4, .str (PySem.Str.ofString "(" ++ gdS mk ++ PySem.Str.ofString "x") t5, .str (PySem.Str.ofString "2 7 2)") t6] : Array Value)[i]? = some v) :
    Ex2 fun (x : PySem.Str) (t : Tok) => An3 (.str x t = v) (x.length ≤ 100) (List.take (i + 1) (sgs mk) = List.take i (sgs mk) ++ [PySem.Str.ofString "229 " ++ x]) := by
  have hl := sg_len hm
  rcases (show i = 0 ∨ i = 1 ∨ i = 2 ∨ i = 3 ∨ i = 4 ∨ i = 5 by omega) with rfl | rfl | rfl | rfl | rfl | rfl
  · exact ⟨_, _, g6_0 h, hl _ (.head _), rfl⟩
  · exact ⟨_, _, g6_1 h, hl _ (.tail _ (.head _)), rfl⟩
  · exact ⟨_, _, g6_2 h, hl _ (.tail _ (.tail _ (.head _))), rfl⟩
  · exact ⟨_, _, g6_3 h, hl _ (.tail _ (.tail _ (.tail _ (.head _)))), rfl⟩
  · exact ⟨_, _, g6_4 h, hl _ (.tail _ (.tail _ (.tail _ (.tail _ (.head _))))), rfl⟩
  · exact ⟨_, _, g6_5 h, hl _ (.tail _ (.tail _ (.tail _ (.tail _ (.tail _ (.head _)))))), rfl⟩
inductive TxC (w : World) (x : PySem.Str) : Option PySem.Str → Prop
  | r (h : Bad w x 61) : TxC w x (some (PySem.Str.ofString "reply"))
  | p (h : Bad w x 73) : TxC w x (some (PySem.Str.ofString "proto"))
  | g (h : Good w x) : TxC w x none
inductive TyC (w : World) (x : PySem.Str) : Option PySem.Str → Prop
  | r (h : Bad7 w x) : TyC w x (some (PySem.Str.ofString "reply"))
  | g (y : PySem.Str) (h : Good7 w x y) : TyC w x (some y)
theorem tx_case {w : World} {mk : PySem.Str} (hm : OkM mk) {t0 t1 t2 t3 t4 t5 t6 : Tok} {i : Nat} {v : Value} (hi : i < 7) (h : ([.str (tx0 mk) t0, .str (tx1 mk) t1, .str (tx2 mk) t2, .str (tx3 mk) t3, .str (tx4 mk) t4, .str (tx5 mk) t5, .str tx6 t6] : List Value)[i]? = some v) :
    Ex3 fun (x : PySem.Str) (t : Tok) (o : Option PySem.Str) => An3 (.str x t = v) (List.take (i + 1) due1 = List.take i due1 ++ [o]) (TxC w x o) := by
  rcases (show i = 0 ∨ i = 1 ∨ i = 2 ∨ i = 3 ∨ i = 4 ∨ i = 5 ∨ i = 6 by omega) with rfl | rfl | rfl | rfl | rfl | rfl | rfl
  · exact ⟨_, _, _, g7_0 h, rfl, .r fun _ _ _ => tx_r0 _ _ _ _ hm⟩
  · exact ⟨_, _, _, g7_1 h, rfl, .g fun _ _ _ _ _ _ _ h => tx_c1 _ _ _ _ _ _ _ _ _ hm h⟩
  · exact ⟨_, _, _, g7_2 h, rfl, .p fun _ _ _ => tx_r2 _ _ _ _ hm⟩
  · exact ⟨_, _, _, g7_3 h, rfl, .p fun _ _ _ => tx_r3 _ _ _ _ hm⟩
  · exact ⟨_, _, _, g7_4 h, rfl, .p fun _ _ _ => tx_r4 _ _ _ _ hm⟩
  · exact ⟨_, _, _, g7_5 h, rfl, .p fun _ _ _ => tx_r5 _ _ _ _ hm⟩
  · exact ⟨_, _, _, g7_6 h, rfl, .p fun _ _ _ => tx_r6 _ _ _ _⟩
theorem ty_case {w : World} {mk : PySem.Str} (hm : OkM mk) {t0 t1 t2 t3 : Tok} {i : Nat} {v : Value} (hi : i < 4) (h : ([.str (PySem.Str.ofString "229 \"7\"") t0, .str (PySem.Str.ofString "257-\"7\"") t1, .str (PySem.Str.ofString "257 77\"") t2, .str (ty3 mk) t3] : List Value)[i]? = some v) :
    Ex3 fun (x : PySem.Str) (t : Tok) (o : Option PySem.Str) => An3 (.str x t = v) (due1 ++ List.take (i + 1) (due2 mk) = (due1 ++ List.take i (due2 mk)) ++ [o]) (TyC w x o) := by
  rcases (show i = 0 ∨ i = 1 ∨ i = 2 ∨ i = 3 by omega) with rfl | rfl | rfl | rfl
  · exact ⟨_, _, _, g4_0 h, rfl, .r fun _ _ => ty_r0 _ _ _⟩
  · exact ⟨_, _, _, g4_1 h, rfl, .g _ fun _ _ => ty_c1 _ _ _⟩
  · exact ⟨_, _, _, g4_2 h, rfl, .g _ fun _ _ => ty_c2 _ _ _⟩
  · exact ⟨_, _, _, g4_3 h, rfl, .g _ fun _ _ => ty_c3 _ _ _ hm⟩
theorem rf_lens {mk : PySem.Str} (hm : OkM mk) : An12 ((PySem.Str.ofString "(" ++ (Txt.slice (Txt.mul mk 3 ++ PySem.Str.ofString "7" ++ mk) (some 1) none)).length + (PySem.Str.ofString ")").length ≤ 16777216) ((PySem.Str.ofString "257 (" ++ (Txt.mul mk 3 ++ PySem.Str.ofString "7" ++ mk)).length + (PySem.Str.ofString ")").length ≤ 16777216) ((PySem.Str.ofString "(" ++ (Txt.mul mk 3 ++ PySem.Str.ofString "7" ++ mk) ++ mk).length + (PySem.Str.ofString ")").length ≤ 16777216) ((PySem.Str.ofString "(").length + (Txt.mul mk 3 ++ PySem.Str.ofString "7" ++ mk).length ≤ 16777216) ((PySem.Str.ofString "(" ++ (Txt.mul mk 3 ++ PySem.Str.ofString "7" ++ mk)).length + (PySem.Str.ofString "x").length ≤ 16777216) ((PySem.Str.ofString "(").length + (Txt.slice (Txt.mul mk 3 ++ PySem.Str.ofString "7" ++ mk) (some 1) none).length ≤ 16777216) ((PySem.Str.ofString "(" ++ (Txt.mul mk 3 ++ PySem.Str.ofString "7" ++ mk)).length + mk.length ≤ 16777216) ((PySem.Str.ofString "(" ++ (Txt.mul mk 3 ++ PySem.Str.ofString "7" ++ mk)).length + (PySem.Str.ofString "x)").length ≤ 16777216) ((PySem.Str.ofString "257 (").length + (Txt.mul mk 3 ++ PySem.Str.ofString "7" ++ mk).length ≤ 16777216) ((Txt.mul mk 3 ++ PySem.Str.ofString "7" ++ mk).length ≤ 16777216) ((PySem.Str.ofString ")(" ++ (Txt.mul mk 3 ++ PySem.Str.ofString "7" ++ mk)).length + (PySem.Str.ofString ") ()").length ≤ 16777216) ((Txt.mul mk 3 ++ PySem.Str.ofString "7").length + mk.length ≤ 16777216) := by
  rcases hm with rfl | rfl | rfl <;> exact ⟨by decide +kernel, by decide +kernel, by decide +kernel, by decide +kernel, by decide +kernel, by decide +kernel, by decide +kernel, by decide +kernel, by decide +kernel, by decide +kernel, by decide +kernel, by decide +kernel⟩
theorem rf_lens2 {mk : PySem.Str} (hm : OkM mk) : An4 ((PySem.Str.ofString "257 \"7\"\" " ++ mk).length + (PySem.Str.ofString "\"").length ≤ 16777216) ((PySem.Str.ofString ")(").length + (Txt.mul mk 3 ++ PySem.Str.ofString "7" ++ mk).length ≤ 16777216) ((Txt.mul mk 3).length + (PySem.Str.ofString "7").length ≤ 16777216) ((PySem.Str.ofString "7\" ").length + mk.length ≤ 16777216) := by
  rcases hm with rfl | rfl | rfl <;> exact ⟨by decide +kernel, by decide +kernel, by decide +kernel, by decide +kernel⟩
theorem refused_c (w : World) (t : Tok) (mk : PySem.Str) (hm : OkM mk) (loose : List PySem.Str) (mean : ExcName → Option Value) (mg mb : PySem.Str → Option Value) (dp un : Nat) (gd : Option (List Code)) (cn : PySem.Str) (cs : Scope) (a : Addr) (ccd : Value) (cl : List (PySem.Str × Addr))
    (A₀ : Around) (h₀ : Heap) (L : Addr) (m : PySem.Str → Option Value) (s : Shared) (Q E : Value → Shared → Prop) (B : Below A₀ h₀ [] h₀) (F : Fr h₀ L s.heap m) (X : (hd.heap_39 w.params).In h₀) (T : Top hd.view_39 loose mean mg mb h₀) (hk : cs.kind = .function)
    (hdp : dp + 10 < recursionLimit) (hun : un + 8 * 10 < cLine) (hret : ∀ h' tk', (∀ b o, h₀.get? b = some o → h'.get? b = some o) → Q (.bool true) { s with heap := h', toks := tk' }) :
    wpAny (model P0 w) (ktrTop dp un gd cn cs L a ccd cl []) (call (.ref 341) [.str mk t]) Q E s := by
  have hdummy : PySem.Challenge.rw_wo0075_01 = PySem.Challenge.rw_wo0075_01 ∧ hd.heap_39 w.params = hd.heap_39 w.params := by k_fill; exact ⟨rfl, rfl⟩
  clear hdummy
  rcases cs with ⟨ki, na, g1, g2, mo⟩
  have hml : mk.length = 1 := by rcases hm with rfl | rfl | rfl <;> decide
  have hmul : (Txt.mul mk 3).length = 3 := by rcases hm with rfl | rfl | rfl <;> decide +kernel
  obtain ⟨zl1, zl2, zl3, zl4, zl5, zl6, zl7, zl8, zl9, zl10, zl11, zl12⟩ := rf_lens hm
  obtain ⟨zl13, zl14, zl15, zl16⟩ := rf_lens2 hm
  dsimp only at hk
  subst hk
  refine wpAny_call ?_
  refine' enter_try ?k1 ?k2 ?k3 ?k5 ?kA ?k6 ?k7 ?k8 ?k9 ?kB ?_ ?cK ?c2 ?c3 ?c4 ?c5
  case kA => exact rfl
  case k2 => exact F
  case k1 => exact B
  case k3 => exact X
  case k5 => exact T
  case k6 => k_is
  case k7 => k_is
  case k8 => k_room
  case k9 => first | exact binds_K (by k_in) rfl (by k_is) rfl rfl rfl | exact BindsTo.of_eq rfl
  case kB => exact locs rfl
  case cK => exact rfl
  case c2 => exact rfl
  case c3 => exact rfl
  case c4 => exact rfl
  case c5 => decide
  clear F
  intro g' L' h' F' N' B' X' T' D'
  (try dsimp only)
  (try k_lift B')
  (try k_fold)
  walk_at "fd"
  (repeat' (walk_at "S"; walk_at "Z"))
  refine wpAny_For ?_
  (repeat' (walk_at "S"; (fail_if_success (with_reducible show wpAny _ _ (eval (Expr.ListComp _ _ _ _) _) _ _ _)); walk_at "Z"))
  refine LCg.ListComp_U (F₀ := by k_asm) (by with_unfolding_all rfl) (by decide) (by rfl) (by decide) (by rfl) ?_
  lcg_toSrc
  (repeat' (walk_at "S"; (fail_if_success (with_reducible show wpAny _ _ (eval (Expr.ListComp _ _ _ _) _) _ _ _)); walk_at "Z"))
  let JJ1 : JTc := fun news₀ i ys news' => An2 (news' = news₀) (VS ys (List.take i (sgs mk)))
  refine compU_inv JJ1 ⟨rfl, trivial⟩ (fun i ys news' h => ?s2) ?_ ?_
  case s2 =>
    obtain ⟨rfl, _⟩ := h
    exact .inr ⟨_, by k_mem, rfl, _, rfl⟩
  · intro i ys news' v I oI C oC D m₂ h2 tk2 E2 hi zj0 hv hC hx F8 N8 off ne
    walk_at "fg"
    obtain ⟨rfl, hys⟩ := zj0
    revert hv; intro hv; revert hC; intro hC; revert hx; intro hx; revert F8; intro F8; revert N8; intro N8; revert off; intro off; revert ne; intro ne
    have hi6 : i < 6 := hi
    obtain ⟨x, tv, rfl, hxl, hd⟩ := sg_case hm hi6 hv
    clear hv
    walk_at "ug"
    (repeat' (walk_at "S"; walk_at "Z"))
    refine ⟨_, _, _, rfl, F8, N8, off, ?_⟩
    unfold Kept
    exact ⟨rfl, (VS.snoc hys).to hd⟩
  · intro ys news' zj0
    walk_at "fg"
    obtain ⟨rfl, hys⟩ := zj0
    obtain ⟨t1, t2, t3, t4, t5, t6, rfl⟩ := vs_six hys
    clear hys
    walk_at "ug"
    (repeat' (walk_at "S"; (fail_if_success (with_reducible show wpAny _ _ (eval (Expr.ListComp _ _ _ _) _) _ _ _)); walk_at "Z"))
    rename News _ _ _ _ => hN9
    rename Fr _ _ _ _ => hF9
    obtain ⟨aT, T1, rfl, hN1, hmD, hoT⟩ := ref_start (vs2 := [_, _, _, _, _, _]) (vs3 := [_]) (vs4 := [_, _, _, _, _, _]) rfl rfl rfl hN9
    clear hN9
    let JJ2 : JT6 := fun m₀ news₀ I i m news => An2 (St m₀ [PySem.Str.ofString "text"] m) (Ex3 fun (ts : List Value) (k : Nat) (T9 : LLed) => An5 (news = (aT, W.listOf ts.toArray k) :: T9) (∀ p ∈ T1, p ∈ T9) (∀ p ∈ T9, p.1 ≠ aT) (TDs T9 ts (List.take i due1)) (∀ p ∈ news, p.1 ≠ I))
    refine for_ground (by rfl) hF9 hN1 (List.mem_cons_of_mem _ hmD) rfl rfl B' X' T' D'
      JJ2
      (fun I hI => ⟨St.refl, [], 0, T1, rfl, fun p hp => hp, hoT, trivial, fun p hp => Nat.ne_of_lt (hI p hp)⟩) (fun I i m news h => ?j1) ?_ ?_
    case j1 =>
      obtain ⟨_, ts, k, T9, rfl, h8, _, _, h9⟩ := h
      exact ⟨List.mem_cons_of_mem _ (h8 _ hmD), h9⟩
    · intro I i v m news h tk oI g2 hv zj0 F9 N9 B9 X9 P9 D9 hcI
      walk_at "fg"
      obtain ⟨hst, ts, k, T9, rfl, hT9, hoT9, hts, q4⟩ := zj0
      revert F9; intro F9; revert N9; intro N9; revert B9; intro B9; revert X9; intro X9; revert P9; intro P9; revert D9; intro D9; revert hcI; intro hcI
      obtain ⟨u, rfl⟩ := hst.open0
      clear hst hF9 hN1
      have hIa := q4 _ (List.mem_cons_self ..)
      have hIa' := hIa.symm
      have hi7 : i < 7 := (List.getElem?_eq_some_iff.mp hv).1
      have htl : ts.length ≤ 7 := by rw [hts.length, List.length_take]; exact Nat.min_le_right _ _
      obtain ⟨x, tv, o, rfl, hd, hb⟩ := tx_case (w := w) hm hi7 hv
      clear hv
      walk_at "ug"
      rcases hb with ⟨hb⟩ | ⟨hb⟩ | ⟨hb⟩
      · (repeat' (walk_at "S"; first | (((with_reducible show wpAny _ _ (call (Value.ref 82) _ _) _ _ _); k_dflt (refine' CtrR.use ?cy136 ?r1y136 ?r2y136 ?r3y136 ?r4y136 ?r5y136 ?r6y136 ?r7y136 ?r8y136 ?rky136 ?rdy136 ?ruy136 ?_; (case r2y136 => k_asm); (case r1y136 => assumption); (case r3y136 => k_asm); (case r4y136 => k_asm); (case r5y136 => k_asm); (case r6y136 => assumption); (case r7y136 => assumption); (case r8y136 => assumption); (case rky136 => first | exact rfl | assumption); (case cy136 => with_reducible exact Bad.use (by assumption)); (case rdy136 => ktr_room); (case ruy136 => ktr_units); (intro _ _ _ _ _ _ zS9 zU9; (try dsimp only at zS9 zU9 ⊢)))); all_goals (try walk_at "fq")) | walk_at "Z"))
        (try dsimp only)
        rename Fr _ _ _ _ => hF5
        rename News _ _ _ _ => hN5
        rw [push_list] at hN5
        refine ⟨_, _, _, (aT, _) :: T9, _, rfl, hF5, News.sub hN5 (fun p hp => List.mem_cons_of_mem _ hp), by assumption, by assumption, by assumption, by assumption, ?_⟩
        unfold Kept
        exact ⟨by walk_at "st_base", _, _, T9, rfl, hT9, hoT9, (hts.snoc (x := some _) ⟨_, rfl⟩).to hd, q4' hIa (fun p hp => q4 p (List.mem_cons_of_mem _ hp))⟩
      · (repeat' (walk_at "S"; first | (((with_reducible show wpAny _ _ (call (Value.ref 82) _ _) _ _ _); k_dflt (refine' CtrR.use ?cy162 ?r1y162 ?r2y162 ?r3y162 ?r4y162 ?r5y162 ?r6y162 ?r7y162 ?r8y162 ?rky162 ?rdy162 ?ruy162 ?_; (case r2y162 => k_asm); (case r1y162 => assumption); (case r3y162 => k_asm); (case r4y162 => k_asm); (case r5y162 => k_asm); (case r6y162 => assumption); (case r7y162 => assumption); (case r8y162 => assumption); (case rky162 => first | exact rfl | assumption); (case cy162 => with_reducible exact Bad.use (by assumption)); (case rdy162 => ktr_room); (case ruy162 => ktr_units); (intro _ _ _ _ _ _ zS9 zU9; (try dsimp only at zS9 zU9 ⊢)))); all_goals (try walk_at "fq")) | walk_at "Z"))
        (try dsimp only)
        rename Fr _ _ _ _ => hF5
        rename News _ _ _ _ => hN5
        rw [push_list] at hN5
        refine ⟨_, _, _, (aT, _) :: T9, _, rfl, hF5, News.sub hN5 (fun p hp => List.mem_cons_of_mem _ hp), by assumption, by assumption, by assumption, by assumption, ?_⟩
        unfold Kept
        exact ⟨by walk_at "st_base", _, _, T9, rfl, hT9, hoT9, (hts.snoc (x := some _) ⟨_, rfl⟩).to hd, q4' hIa (fun p hp => q4 p (List.mem_cons_of_mem _ hp))⟩
      · (repeat' (walk_at "S"; first | (((with_reducible show wpAny _ _ (call (Value.ref 82) _ _) _ _ _); k_dflt (refine' Ctr.use ?cy186 ?k1y186 ?k2y186 ?k3y186 ?k4y186 ?k5y186 ?kKy186 ?kdy186 ?kuy186 ?_; (case k1y186 => k_asm); (case k2y186 => k_asm); (case k3y186 => k_asm); (case k4y186 => k_asm); (case k5y186 => k_asm); (case kKy186 => first | exact rfl | assumption); (case cy186 => with_reducible exact Good.use (by assumption) (by k_mem)); (case kdy186 => ktr_room); (case kuy186 => ktr_units); (rintro _ _ _ _ ⟨_, _⟩; (try dsimp only); (try k_fold)))); all_goals (try walk_at "fq")) | walk_at "Z"))
        (try dsimp only)
        rename Fr _ _ _ _ => hF5
        rename News _ _ _ _ => hN5
        rw [push_list] at hN5
        obtain ⟨T8, hT8, hN4, ho8, hts8, hq8⟩ := turn_tup hN5 hcI hts hoT9 q4
        refine ⟨_, _, _, (aT, _) :: T8, _, rfl, hF5, hN4, by assumption, by assumption, by assumption, by assumption, ?_⟩
        unfold Kept
        exact ⟨by walk_at "st_base", _, _, T8, rfl, fun p hp => hT8 p (hT9 p hp), ho8, hts8.to hd, hq8⟩
    · intro I m news h tk g2 zj0 F9 N9 B9 X9 P9 D9
      walk_at "fg"
      obtain ⟨hst, ts, k, T9, rfl, hT9, hoT9, hts, q4⟩ := zj0
      revert F9; intro F9; revert N9; intro N9; revert B9; intro B9; revert X9; intro X9; revert P9; intro P9; revert D9; intro D9
      obtain ⟨u, rfl⟩ := hst.open0
      clear hst hF9 hN1
      walk_at "ug"
      (try dsimp only)
      (repeat' (walk_at "S"; walk_at "Z"))
      refine wpAny_For ?_
      (repeat' (walk_at "S"; (fail_if_success (with_reducible show wpAny _ _ (eval (Expr.ListComp _ _ _ _) _) _ _ _)); walk_at "Z"))
      rename News _ _ _ _ => hN9
      rename Fr _ _ _ _ => hF9
      obtain ⟨T2, hN2, hmD2, hT2, hoT2⟩ := ref_start2 hN9 (by rw [hts.length]; exact (by decide : (7 : Nat) ≠ 4)) hoT9
      have hts2 := hts.mono hT2
      clear hN9 hmD
      let JJ3 : JT6 := fun m₀ news₀ I i m news => An2 (St m₀ [PySem.Str.ofString "text"] m) (Ex3 fun (ts : List Value) (k : Nat) (T9 : LLed) => An5 (news = (aT, W.listOf ts.toArray k) :: T9) (∀ p ∈ T2, p ∈ T9) (∀ p ∈ T9, p.1 ≠ aT) (TDs T9 ts (due1 ++ List.take i (due2 mk))) (∀ p ∈ news, p.1 ≠ I))
      refine for_ground (by rfl) hF9 hN2 (List.mem_cons_of_mem _ hmD2) rfl rfl (by assumption) (by assumption) (by assumption) (by assumption)
        JJ3
        (fun I hI => ⟨St.refl, ts, _, T2, rfl, fun p hp => hp, hoT2, hts2, fun p hp => Nat.ne_of_lt (hI p hp)⟩) (fun I i m news h => ?j2) ?_ ?_
      case j2 =>
        obtain ⟨_, ts, k, T9, rfl, h8, _, _, h9⟩ := h
        exact ⟨List.mem_cons_of_mem _ (h8 _ hmD2), h9⟩
      · intro I i v m news h tk oI g3 hv zj0 F8 N8 B8 X8 P8 D8 hcI
        walk_at "fg"
        obtain ⟨hst, ts3, k3, T3, rfl, hT3, hoT3, hts3, q5⟩ := zj0
        revert F8; intro F8; revert N8; intro N8; revert B8; intro B8; revert X8; intro X8; revert P8; intro P8; revert D8; intro D8; revert hcI; intro hcI
        obtain ⟨u3, rfl⟩ := hst.open0
        clear hst hF9 hN2
        have hIa := q5 _ (List.mem_cons_self ..)
        have hIa' := hIa.symm
        have hi4 : i < 4 := (List.getElem?_eq_some_iff.mp hv).1
        have htl : ts3.length ≤ 11 := by rw [hts3.length, List.length_append, List.length_take]; exact Nat.add_le_add_left (Nat.min_le_right _ _) 7
        obtain ⟨x, tv, o, rfl, hd, hb⟩ := ty_case (w := w) hm hi4 hv
        clear hv
        walk_at "ug"
        rcases hb with ⟨hb⟩ | ⟨y, hb⟩
        · (repeat' (walk_at "S"; first | (((with_reducible show wpAny _ _ (call (Value.ref 89) _ _) _ _ _); k_dflt (refine' CtrR.use ?cy265 ?r1y265 ?r2y265 ?r3y265 ?r4y265 ?r5y265 ?r6y265 ?r7y265 ?r8y265 ?rky265 ?rdy265 ?ruy265 ?_; (case r2y265 => k_asm); (case r1y265 => assumption); (case r3y265 => k_asm); (case r4y265 => k_asm); (case r5y265 => k_asm); (case r6y265 => assumption); (case r7y265 => assumption); (case r8y265 => assumption); (case rky265 => first | exact rfl | assumption); (case cy265 => with_reducible exact Bad7.use (by assumption)); (case rdy265 => ktr_room); (case ruy265 => ktr_units); (intro _ _ _ _ _ _ zS9 zU9; (try dsimp only at zS9 zU9 ⊢)))); all_goals (try walk_at "fq")) | walk_at "Z"))
          (try dsimp only)
          rename Fr _ _ _ _ => hF5
          rename News _ _ _ _ => hN5
          rw [push_list] at hN5
          refine ⟨_, _, _, (aT, _) :: T3, _, rfl, hF5, hN5, by assumption, by assumption, by assumption, by assumption, ?_⟩
          unfold Kept
          exact ⟨by walk_at "st_base", _, _, T3, rfl, hT3, hoT3, (TDs.snoc (x := some _) ⟨_, rfl⟩ hts3).to hd, q4' hIa (fun p hp => q5 p (List.mem_cons_of_mem _ hp))⟩
        · (repeat' (walk_at "S"; first | (((with_reducible show wpAny _ _ (call (Value.ref 89) _ _) _ _ _); k_dflt (refine' Ctr.use ?cy289 ?k1y289 ?k2y289 ?k3y289 ?k4y289 ?k5y289 ?kKy289 ?kdy289 ?kuy289 ?_; (case k1y289 => k_asm); (case k2y289 => k_asm); (case k3y289 => k_asm); (case k4y289 => k_asm); (case k5y289 => k_asm); (case kKy289 => first | exact rfl | assumption); (case cy289 => with_reducible exact Good7.use (by assumption)); (case kdy289 => ktr_room); (case kuy289 => ktr_units); (rintro _ _ _ ⟨_, _⟩; (try dsimp only); (try k_fold)))); all_goals (try walk_at "fq")) | walk_at "Z"))
          (try dsimp only)
          rename Fr _ _ _ _ => hF5
          rename News _ _ _ _ => hN5
          rw [push_list] at hN5
          refine ⟨_, _, _, (aT, _) :: T3, _, rfl, hF5, hN5, by assumption, by assumption, by assumption, by assumption, ?_⟩
          unfold Kept
          exact ⟨by walk_at "st_base", _, _, T3, rfl, hT3, hoT3, (TDs.snoc (x := some _) ⟨_, rfl⟩ hts3).to hd, q4' hIa (fun p hp => q5 p (List.mem_cons_of_mem _ hp))⟩
      · intro I m news h tk g3 zj0 F8 N8 B8 X8 P8 D8
        walk_at "fg"
        obtain ⟨hst, ts3, k3, T3, rfl, hT3, hoT3, hts3, q5⟩ := zj0
        revert F8; intro F8; revert N8; intro N8; revert B8; intro B8; revert X8; intro X8; revert P8; intro P8; revert D8; intro D8
        obtain ⟨u3, rfl⟩ := hst.open0
        clear hst hF9 hN2
        have hts4 : TDs T3 ts3 (some (PySem.Str.ofString "reply") :: none :: dueR mk) := hts3
        obtain ⟨t0, D0, t8, t9, r0, rfl, hD0, hr0⟩ := td_two hts4
        walk_at "ug"
        (try dsimp only)
        (repeat' (walk_at "S"; (fail_if_success (with_reducible show wpAny _ _ (compareOp CmpOp.Eq (Value.ref _) (Value.ref _)) _ _ _)); walk_at "Z"))
        rename News _ _ _ _ => hN6
        refine td_eq (xs := some (PySem.Str.ofString "reply") :: none :: dueR mk) hN6 (ws := [_, _, _, _, _, _, _, _, _, _, _]) (.tail _ (.tail _ (.head _))) (.head _) (hts4.mono (fun p hp => .tail _ (.tail _ (.tail _ hp)))) ?dh (ref_ok hm) ?du ?_
        case dh => exact ⟨⟨_, rfl⟩, ⟨_, _, _, rfl, .tail _ (.head _)⟩, ⟨_, rfl⟩, ⟨_, rfl⟩, ⟨_, rfl⟩, ⟨_, rfl⟩, ⟨_, rfl⟩, ⟨_, rfl⟩, ⟨_, rfl⟩, ⟨_, rfl⟩, ⟨_, rfl⟩, trivial⟩
        case du => (dsimp +zetaDelta only; ktr_units)
        (repeat' (walk_at "S"; first | ((first | ((with_reducible show wpAny _ _ (subscriptTail _ _ (Value.ref _) (Value.int _ _)) _ _ _); k_dflt (refine' item_tupleT ?ty339 ?ay339 ?by339 ?cy339 ?dy339 ?_; (case ty339 => exact News.isTup (by k_asm) (by k_mem)); (case ay339 => decide); (case by339 => decide); (case cy339 => rfl); (case dy339 => rfl); k_whole)) | ((with_reducible show wpAny _ _ (subscriptTail _ _ (Value.ref _) (Value.int _ _)) _ _ _); k_dflt (refine' my_item ?Ny340 ?my340 ?h0y340 ?hiy340 ?xy340 ?_; (case Ny340 => k_asm); (case my340 => k_mem); (case h0y340 => decide); (case hiy340 => decide); (case xy340 => rfl); (try dsimp only)))); all_goals (try walk_at "fq")) | walk_at "Z"))
        rename Fr _ _ _ _ => hF7
        exact hret _ _ (fun b o e => hF7.keep b o (B8.stays b o e))
end
section
open PySem PySem.W PyProof.Rows PySem.Calls PySem.Spec
def wdig (left : Int) (k : Nat) : PySem.Str := Txt.item (PySem.Str.ofString "aAb\"") (((left.fdiv 3).fdiv (4 ^ k)).fmod 4)
def wp (left : Int) : Nat → PySem.Str
  | 0 => PySem.Str.ofString ""
  | k + 1 => wp left k ++ wdig left k
def wordOf (left : Int) : PySem.Str := wp left (1 + left.fmod 3).toNat
abbrev toldOf (x : PySem.Str) : PySem.Str := PySem.Str.ofString "257 \"" ++ Txt.replace x (PySem.Str.ofString "\"") (PySem.Str.ofString "\"\"") ++ PySem.Str.ofString "\" is told"
theorem word_fin : ∀ k : Fin 192, ((1 ≤ (wordOf (k.val : Int)).length ∧ (wordOf (k.val : Int)).length ≤ 3 ∧ ∀ c ∈ (wordOf (k.val : Int)).cps.toList, c = 97 ∨ c = 65 ∨ c = 98 ∨ c = 34) ∧
    (toldOf (wordOf (k.val : Int))).length ≤ 100 ∧ 5 ≤ (toldOf (wordOf (k.val : Int))).length ∧ (Txt.slice (toldOf (wordOf (k.val : Int))) none (some 3) != PySem.Str.ofString "257") = false ∧ (Txt.slice (toldOf (wordOf (k.val : Int))) (some 3) (some 5) != PySem.Str.ofString " \"") = false ∧
    (⟨(scan ((toldOf (wordOf (k.val : Int))).cps.toList.drop 5)).toArray⟩ : PySem.Str) = wordOf (k.val : Int)) := by decide +kernel
theorem word_ok {left : Int} (h0 : 0 ≤ left) (h1 : left < 192) : OkW (wordOf left) := by
  have := (word_fin ⟨left.toNat, by omega +splitNatSub⟩).1
  have e : ((left.toNat : Nat) : Int) = left := by omega +splitNatSub
  simp only [e] at this
  exact this
theorem told_c (w : World) (news : LLed) (left : Int) (t : Tok) (h0 : 0 ≤ left) (h1 : left < 192) :
    Ctr w 89 [.str (toldOf (wordOf left)) t] [] 1 news fun N Q => ∀ t' h' tk', N h' news → Q (.str (wordOf left) t') h' tk' := by
  have h := (word_fin ⟨left.toNat, by omega +splitNatSub⟩).2
  have e : ((left.toNat : Nat) : Int) = left := by omega +splitNatSub
  simp only [e] at h
  have := p257_c w news (toldOf (wordOf left)) t h.1 h.2.1 h.2.2.1 h.2.2.2.1
  rw [h.2.2.2.2] at this
  exact this
theorem repl_fin : ∀ k : Fin 192, (Txt.replace (wordOf (k.val : Int)) (PySem.Str.ofString "\"") (PySem.Str.ofString "\"\"")).length ≤ 6 := by decide +kernel
theorem repl_len {left : Int} (h0 : 0 ≤ left) (h1 : left < 192) : (Txt.replace (wordOf left) (PySem.Str.ofString "\"") (PySem.Str.ofString "\"\"")).length ≤ 6 := by
  have := repl_fin ⟨left.toNat, by omega +splitNatSub⟩
  have e : ((left.toNat : Nat) : Int) = left := by omega +splitNatSub
  simp only [e] at this
  exact this
end
section
open PySem PySem.W PyProof.Rows PySem.Calls PySem.Spec
theorem wdig_len (left : Int) (k : Nat) : (wdig left k).length = 1 := rfl
theorem cps_len (x : PySem.Str) : x.length = x.cps.toList.length := by simp [PySem.Str.length]
theorem VS.length : ∀ {ys : List Value} {xs : List PySem.Str}, VS ys xs → ys.length = xs.length
  | [], [], _ => rfl
  | [], _ :: _, h => h.elim
  | _ :: _, [], h => h.elim
  | _ :: ys, _ :: xs, h => by simp [VS.length h.2]
theorem words_c (w : World) (news : LLed) (x : Addr) (vs : List Value) (ns : List Int) (n : Nat) (hi : IntsAre vs ns) (hl : ns.length = 7) (hx : (x, W.listOf vs.toArray n) ∈ news) :
    Ctr w 300 [.ref x] [] 3 news fun N Q => ∀ D ys k h' tk', VS ys ((List.take 6 ns).map fun c => wordOf (c.fmod 192)) → N h' ((D, W.listOf ys.toArray k) :: news) → (∀ p ∈ news, p.1 < D) → Q (.ref D) h' tk' := by
  unfold Ctr
  have hdummy : PySem.Challenge.rw_wo0075_01 = PySem.Challenge.rw_wo0075_01 ∧ hd.heap_39 w.params = hd.heap_39 w.params := by k_fill; exact ⟨rfl, rfl⟩
  clear hdummy
  intro loose mean mg mb dp un gd cn cs a ccd cl outer A₀ base h₀ L m s Q E hB hF hX hN hT hk hdp hun hret
  rcases cs with ⟨ki, na, g1, g2, mo⟩
  dsimp only at hk
  subst hk
  walk_at "fd"
  (repeat' (first | tb_start | (walk_at "S0"; first | (k_end; wrow_close) | walk_at "Z")))
  rename (∀ p ∈ news, p.1 < _) => hlt0
  refine For_turns (by k_asm) ?_
  (repeat' (first | tb_start | (walk_at "S0"; first | (k_end; wrow_close) | walk_at "Z")))
  rename News _ _ _ _ => hN9
  rename IntsAre _ (List.take 6 ns) => hI9
  rename (_ < _ ∧ AllLt _ news) => hl9
  have hlen9 := hI9.length
  have hlen8 : (List.take 6 ns).length = 6 := by rw [List.length_take]; omega
  refine list_inv (by rfl) (by k_asm) hN9 (List.mem_cons_self ..) rfl rfl
    (fun m₀ news₀ I i m news' => Ex2 fun ys k => An4 (St m₀ [PySem.Str.ofString "cell", PySem.Str.ofString "left", PySem.Str.ofString "word", PySem.Str.ofString "k"] m) (news' = (_, W.listOf _ _) :: (_, W.listOf ys.toArray k) :: news) (VS ys ((List.take i (List.take 6 ns)).map fun c => wordOf (c.fmod 192))) (∀ p ∈ news', p.1 ≠ I))
    (fun I hI => ⟨[], 0, St.refl, rfl, trivial, fun p hp => Nat.ne_of_lt (hI p hp)⟩) (fun I i m news' h => ?c5) ?_ ?_
  case c5 =>
    obtain ⟨_, _, _, h8, _, h9⟩ := h
    exact ⟨by rw [h8]; exact List.mem_cons_self .., h9⟩
  · intro I i v m news' h tk oI hv zj0 F9 N9 hcI
    walk_at "fg"
    obtain ⟨ys, k, hst, rfl, hys, q4⟩ := zj0
    revert F9; intro F9; revert N9; intro N9; revert hcI; intro hcI
    obtain ⟨c, tc, rfl, hc⟩ := hI9.at _ _ hv
    obtain ⟨u, rfl⟩ := hst.open0
    clear hst
    have hf0 : 0 ≤ c.fmod 192 := Int.fmod_nonneg_of_pos _ (by decide)
    have hf1 : c.fmod 192 < 192 := Int.fmod_lt_of_pos _ (by decide)
    have hg0 : 0 ≤ (c.fmod 192).fmod 3 := Int.fmod_nonneg_of_pos _ (by decide)
    have hg1 : (c.fmod 192).fmod 3 < 3 := Int.fmod_lt_of_pos _ (by decide)
    have hok := word_ok hf0 hf1
    refine letF (G := zG) F9 ?_; clear F9; intro mT F9
    walk_at "ug"
    (repeat' (first | tb_start | (walk_at "S0"; first | (k_end; wrow_close) | walk_at "Z")))
    refine For_invVF (by k_asm) rfl rfl ?_
    (repeat' (first | tb_start | (walk_at "S0"; first | (k_end; wrow_close) | walk_at "Z")))
    rename IsRange _ _ _ _ _ _ _ _ => hR
    rename News _ _ _ _ => hN7
    let JJ1 : JT6 := fun m₀ news₀ I2 i2 m news' => Ex1 fun tw => An5 (St m₀ [PySem.Str.ofString "word", PySem.Str.ofString "k"] m) (m (PySem.Str.ofString "word") = some (.str (wp (c.fmod 192) i2) tw)) (news' = news₀) (∀ p ∈ news', p.1 ≠ I2) ((wp (c.fmod 192) i2).length = i2)
    refine range_inv (n := (1 + (c.fmod 192).fmod 3).toNat) (by rfl) hR (small_one (by omega) (by omega) (by omega) (by omega)) (by rw [rangeSize_nat]; omega) (by k_asm) hN7
      JJ1
      (fun I hI => ⟨_, St.refl, rfl, rfl, fun p hp => Nat.ne_of_lt (hI p hp), rfl⟩) (fun I i m news' h => ?d5) ?_ ?_
    case d5 =>
      obtain ⟨_, _, _, _, h9, _⟩ := h
      exact h9
    · intro I2 i2 ri m news' h2 tk2 t2 oI2 hi2 hri zj0 F8 N8
      walk_at "fg"
      obtain ⟨tw, hst2, hw2, rfl, q5, hwl⟩ := zj0
      revert F8; intro F8; revert N8; intro N8
      obtain ⟨u2, rfl⟩ := hst2.open1 hw2
      clear hst2 hw2
      have hi3 : i2 = 0 ∨ i2 = 1 ∨ i2 = 2 := by omega
      refine letF (G := zG) F8 ?_; clear F8; intro mT F8
      walk_at "ug"
      rcases hi3 with rfl | rfl | rfl
      · obtain rfl : ri = 0 := by omega
        (repeat' (first | tb_start | (walk_at "S0"; first | (k_end; wrow_close) | walk_at "Z")))
        (try dsimp only)
        rename Fr _ _ _ _ => hF5
        rename News _ _ _ _ => hN5
        refine ⟨_, _, _, _, rfl, hF5, hN5, ?_⟩
        unfold Kept
        refine ⟨_, ?_, rfl, rfl, q5, ?_⟩
        · walk_at "st_base"
        · show (wp _ _ ++ wdig _ _).length = _
          rw [cps_len, app_list, List.length_append, ← cps_len, ← cps_len, wdig_len, hwl]
      · obtain rfl : ri = 1 := by omega
        (repeat' (first | tb_start | (walk_at "S0"; first | (k_end; wrow_close) | walk_at "Z")))
        (try dsimp only)
        rename Fr _ _ _ _ => hF5
        rename News _ _ _ _ => hN5
        refine ⟨_, _, _, _, rfl, hF5, hN5, ?_⟩
        unfold Kept
        refine ⟨_, ?_, rfl, rfl, q5, ?_⟩
        · walk_at "st_base"
        · show (wp _ _ ++ wdig _ _).length = _
          rw [cps_len, app_list, List.length_append, ← cps_len, ← cps_len, wdig_len, hwl]
      · obtain rfl : ri = 2 := by omega
        (repeat' (first | tb_start | (walk_at "S0"; first | (k_end; wrow_close) | walk_at "Z")))
        (try dsimp only)
        rename Fr _ _ _ _ => hF5
        rename News _ _ _ _ => hN5
        refine ⟨_, _, _, _, rfl, hF5, hN5, ?_⟩
        unfold Kept
        refine ⟨_, ?_, rfl, rfl, q5, ?_⟩
        · walk_at "st_base"
        · show (wp _ _ ++ wdig _ _).length = _
          rw [cps_len, app_list, List.length_append, ← cps_len, ← cps_len, wdig_len, hwl]
    · intro I2 m news' h2 tk2 zj0 F8 N8
      walk_at "fg"
      obtain ⟨tw, hst2, hw2, rfl, q5, hwl⟩ := zj0
      revert F8; intro F8; revert N8; intro N8
      obtain ⟨u2, rfl⟩ := hst2.open1 hw2
      clear hst2 hw2
      have hIl := q4 _ (List.mem_cons_of_mem _ (List.mem_cons_self ..))
      have hIl2 := hIl.symm
      have hne0 : ∀ p ∈ news, p.1 ≠ _ := fun p hp => Nat.ne_of_lt (hlt0 p hp)
      have hwe : wp (c.fmod 192) (1 + (c.fmod 192).fmod 3).toNat = wordOf (c.fmod 192) := rfl
      rw [hwe] at F8
      have hwl3 := hok.2.1
      have hrl := repl_len hf0 hf1
      have hyl : ys.length ≤ 6 := by
        rw [hys.length, List.length_map, List.length_take, hlen8]
        have := (List.getElem?_eq_some_iff.mp hc).1
        omega
      refine letF (G := zG) F8 ?_; clear F8; intro mT F8
      walk_at "ug"
      (repeat' (first | tb_start | (walk_at "S0"; first | (k_end; wrow_close) | (((with_reducible show wpAny _ _ (call (Value.ref 89) _ _) _ _ _); k_dflt (refine' Ctr.use (told_c _ _ _ _ ?w0y113 ?w1y113) ?k1y113 ?k2y113 ?k3y113 ?k4y113 ?k5y113 ?kKy113 ?kdy113 ?kuy113 ?_; (case k1y113 => k_asm); (case k2y113 => k_asm); (case k3y113 => k_asm); (case k4y113 => k_asm); (case k5y113 => k_asm); (case kKy113 => first | exact rfl | assumption); (case kdy113 => ((try dsimp +zetaDelta only); first | exact dm1 (by with_reducible assumption) rfl | ktr_room)); (case kuy113 => ((try dsimp +zetaDelta only); first | exact um1 (by with_reducible assumption) rfl | ktr_units)); (case w0y113 => assumption); (case w1y113 => assumption); (rintro _ _ _ ⟨_, _⟩; (try dsimp only); (try k_fold)))); all_goals (try walk_at "fq")) | walk_at "Z")))
      · (try dsimp only)
        rename Fr _ _ _ _ => hF5
        rename News _ _ _ _ => hN5
        rw [push_list] at hN5
        refine ⟨_, _, _, _, rfl, hF5, hN5, ?_⟩
        unfold Kept
        refine ⟨_, _, ?_, rfl, ?_, ?_⟩
        · walk_at "st_base"
        · rw [List.take_add_one, hc, List.map_append]
          exact VS.snoc hys
        · intro p hp
          (first | (revert p; refine all_cons ?_ (fun p hp => ?_)) | rcases List.mem_cons.mp hp with rfl | hp)
          · exact q4 _ (List.mem_cons_self ..)
          (first | (revert p; refine all_cons ?_ (fun p hp => ?_)) | rcases List.mem_cons.mp hp with rfl | hp)
          · exact hIl
          · exact q4 p (List.mem_cons_of_mem _ (List.mem_cons_of_mem _ hp))
  · intro I m news' h tk zj0 F9 N9
    walk_at "fg"
    obtain ⟨ys, k, hst, rfl, hys, q4⟩ := zj0
    revert F9; intro F9; revert N9; intro N9
    obtain ⟨u, rfl⟩ := hst.open0
    clear hst
    rw [hlen9, List.take_length] at hys
    refine letF (G := zG) F9 ?_; clear F9; intro mT F9
    walk_at "ug"
    (try dsimp only)
    (repeat' (first | tb_start | (walk_at "S0"; first | (k_end; wrow_close) | walk_at "Z")))
    all_goals (try k_data)
    rename News h₀ L _ _ => hN5
    exact hret _ ys _ _ _ hys ⟨by k_asm, News.sub hN5 (fun p hp => by
      (first | (revert p; refine all_cons ?_ (fun p hp => ?_)) | rcases List.mem_cons.mp hp with rfl | hp)
      · k_mem
      · exact List.mem_cons_of_mem _ (List.mem_cons_of_mem _ hp))⟩ hlt0
end
section
open PySem PySem.W PyProof.Rows PySem.Calls PySem.Spec
local macro_rules | `(tactic| k_mem) => `(tactic| ((iterate 12 (try (first | (with_reducible assumption) | (with_reducible exact List.mem_cons_self ..) | (with_reducible refine List.mem_append_right _ ?_) | (with_reducible refine List.mem_cons_of_mem _ ?_)))); done))
local macro_rules | `(tactic| walk_at "CompSrc") => `(tactic| ((refine LCg.CompSrc.ledger (by rfl) (by k_asm) (by k_asm) (by k_mem) ?hz ?_; (case hz => (rw [sizeLine_eq, List.size_toArray]; omega))); intro g9))
theorem far_c (w : World) (news : LLed) (x : Addr) (wd : Int → PySem.Str) (tw : Int → Tok) (vs : List Value) (n : Nat) (hw : LV vs 6 fun k => .str (wd k) (tw k)) (hl : vs.length = 6) (hok : ∀ k : Int, 0 ≤ k → k < 6 → OkW (wd k)) (hx : (x, W.listOf vs.toArray n) ∈ news) :
    Ctr w 312 [.ref x] [] 10 news fun N Q => ∀ (D : Addr) (ra : Nat → Addr) (rv : Nat → List Value) (rn : Nat → Nat) (M : Nat → List Int) h' tk', (∀ k, k < 6 → IntsAre (rv k) (M k)) → (∀ k, k < 6 → (M k).length = 6) → (∀ k l, k < 6 → l < 6 → (M k).getD l 0 = if k = l then 0 else dstW wd (min k l) (max k l)) →
      N h' ((D, W.listOf [Value.ref (ra 0), .ref (ra 1), .ref (ra 2), .ref (ra 3), .ref (ra 4), .ref (ra 5)].toArray 6) :: (rowsO ra (fun k => W.listOf (rv k).toArray (rn k)) ++ news)) → (∀ k l, k < 6 → l < 6 → k ≠ l → ra k ≠ ra l) → (∀ k, k < 6 → ∀ p ∈ news, p.1 ≠ ra k) → (∀ k, k < 6 → D ≠ ra k) → (∀ p ∈ news, p.1 ≠ D) → Q (.ref D) h' tk' := by
  unfold Ctr
  have hdummy : PySem.Challenge.rw_wo0075_01 = PySem.Challenge.rw_wo0075_01 ∧ hd.heap_39 w.params = hd.heap_39 w.params := by k_fill; exact ⟨rfl, rfl⟩
  clear hdummy
  intro loose mean mg mb dp un gd cn cs a ccd cl outer A₀ base h₀ L m s Q E hB hF hX hN hT hk hdp hun hret
  rcases cs with ⟨ki, na, g1, g2, mo⟩
  dsimp only at hk
  subst hk
  walk_at "fd"
  (repeat' (walk_at "S"; walk_at "Z"))
  let JJ1 : JTc := fun news₀ i ys news' => Ex1 fun rs => An5 (news' = rowsLed rs ++ news₀) (ys = rs.reverse.map (fun r => Value.ref r.1)) (∀ r ∈ rs, IntsAre r.2 [0, 0, 0, 0, 0, 0]) (rs.length = i) (RowsOff news₀ rs)
  refine compU_inv JJ1 ⟨[], rfl, rfl, fun _ h => (nomatch h), rfl, trivial⟩ (fun i ys news' h => ?s1) ?_ ?_
  case s1 =>
    obtain ⟨rs, rfl, _⟩ := h
    exact .inr ⟨_, List.mem_append_right _ (List.mem_cons_of_mem _ hx), rfl, _, rfl⟩
  · intro i ys news' v I oI C oC D m₂ h tk E' hi zj0 hv hC hxv F9 N9 off ne
    walk_at "fg"
    obtain ⟨rs, rfl, rfl, hz, hrl, hoff⟩ := zj0
    revert hv; intro hv; revert hC; intro hC; revert hxv; intro hxv; revert F9; intro F9; revert N9; intro N9; revert off; intro off; revert ne; intro ne
    walk_at "ug"
    (repeat' (walk_at "S"; walk_at "Z"))
    let JJ2 : JTc := fun news₀ i ys news' => An2 (news' = news₀) (IntsAre ys (List.replicate i 0))
    refine compU_inv JJ2 ⟨rfl, .nil⟩ (fun i ys news' h => ?s2) ?_ ?_
    case s2 =>
      obtain ⟨rfl, _⟩ := h
      exact .inr ⟨_, by k_mem, rfl, _, rfl⟩
    · intro i2 ys2 news2 v2 I2 oI2 C2 oC2 D2 m₃ h2 tk2 E2 hi2 zj0 hv2 hC2 hxv2 F8 N8 off2 ne2
      walk_at "fg"
      obtain ⟨rfl, hz2⟩ := zj0
      revert hv2; intro hv2; revert hC2; intro hC2; revert hxv2; intro hxv2; revert F8; intro F8; revert N8; intro N8; revert off2; intro off2; revert ne2; intro ne2
      walk_at "ug"
      (repeat' (walk_at "S"; walk_at "Z"))
      (try dsimp only)
      refine ⟨_, _, _, rfl, F8, N8, off2, ?_⟩
      unfold Kept
      refine ⟨rfl, ?_⟩
      rw [List.replicate_succ']
      exact IntsAre.append hz2 (.cons _ _ .nil)
    · intro ys2 news2 zj0
      walk_at "fg"
      obtain ⟨rfl, hz2⟩ := zj0
      walk_at "ug"
      (repeat' (walk_at "S"; walk_at "Z"))
      rename (_ ∧ _ ∧ _ ∧ LCg.Off1 _ _) => ho9
      rename Fr _ _ _ _ => hF5
      rename News _ _ _ _ => hN5
      rw [List.size_toArray, hl] at hz2
      (try dsimp only)
      refine ⟨_, _, (_, LCg.lst ys2) :: (rowsLed rs ++ _), rfl, hF5, News.sub hN5 ?_, ⟨⟨ho9.1.symm, ho9.2.1.symm, ho9.2.2.1.symm⟩, off⟩, ?_⟩
      · intro p hp
        (first | (revert p; refine all_cons ?_ (fun p hp => ?_)) | rcases List.mem_cons.mp hp with rfl | hp)
        · k_mem
        (first | (revert p; refine all_cons ?_ (fun p hp => ?_)) | rcases List.mem_cons.mp hp with rfl | hp)
        · k_mem
        (first | (revert p; refine all_cons ?_ (fun p hp => ?_)) | rcases List.mem_cons.mp hp with rfl | hp)
        · k_mem
        (first | (revert p; refine all_cons ?_ (fun p hp => ?_)) | rcases List.mem_cons.mp hp with rfl | hp)
        · k_mem
        · repeat (first | exact hp | refine List.mem_cons_of_mem _ ?_)
      · unfold Kept
        have ho8 := off1_all ho9.2.2.2
        refine ⟨(_, ys2) :: rs, rfl, by simp, fun r hr => ?_, by simp [hrl], fun q hq => ?_, fun p hp => ho8 p (List.mem_append_right _ hp), hoff⟩
        · rcases List.mem_cons.mp hr with rfl | hr
          · exact hz2
          · exact hz r hr
        · exact ho8 (q.1, LCg.lst q.2) (List.mem_append_left _ (List.mem_map.mpr ⟨q, hq, rfl⟩))
  · intro ys news' zj0
    walk_at "fg"
    obtain ⟨rs, rfl, rfl, hz, hrl, hoff⟩ := zj0
    rw [List.size_toArray, hl] at hrl
    walk_at "ug"
    (repeat' (walk_at "S"; walk_at "Z"))
    rename (LCg.Off1 _ _) => ho9
    rename Fr _ _ _ _ => hF5
    rename News _ _ _ _ => hN5
    rename_i D0 hh0 tk0
    obtain ⟨T, ra, rv0, rn0, hTe, hre, hrsub, hrz, hrne, hroff⟩ := rows_six' hrl hoff hz
    rw [hre, ← hTe] at hN5
    rw [← hTe] at ho9 hoff
    have ho8 := off1_all ho9
    obtain ⟨hcT, hnT⟩ := head_mem hTe
    have hxT := hnT _ hx
    have hDra : ∀ k, k < 6 → D0 ≠ ra k := fun k hk => (ho8 _ (List.mem_append_left _ (hrsub _ (List.append_nil (rowsO ra _) ▸ rowsO_mem (a := ra) (ob := fun k => W.listOf (rv0 k).toArray (rn0 k)) hk (T := []))))).symm
    rename (∀ p ∈ news, p.1 < _) => hlt0
    have hN4 := News.sub (b := (_, LCg.lst [.ref (ra 0), .ref (ra 1), .ref (ra 2), .ref (ra 3), .ref (ra 4), .ref (ra 5)]) :: (rowsO ra (fun k => W.listOf (rv0 k).toArray (rn0 k)) ++ T)) hN5 (by
      intro p hp
      (first | (revert p; refine all_cons ?_ (fun p hp => ?_)) | rcases List.mem_cons.mp hp with rfl | hp)
      · exact List.mem_cons_self ..
      rcases List.mem_append.mp hp with hp | hp
      · exact List.mem_cons_of_mem _ (List.mem_append_left _ (hrsub p hp))
      · exact List.mem_cons_of_mem _ (List.mem_append_right _ hp))
    have hLV : LV [Value.ref (ra 0), .ref (ra 1), .ref (ra 2), .ref (ra 3), .ref (ra 4), .ref (ra 5)] 6 (fun k => .ref (ra k.toNat)) := by
      intro k h0 h1
      obtain ⟨i, rfl⟩ : ∃ i : Nat, k = i := ⟨k.toNat, by omega⟩
      rcases six (i := i) (by omega) with rfl | rfl | rfl | rfl | rfl | rfl <;> rfl
    clear hN5 hre
    (repeat' (walk_at "S"; (fail_if_success (with_reducible show wpAny _ _ (setItem _ _ _) _ _ _)); walk_at "Z"))
    refine For_invVF (by k_asm) rfl rfl ?_
    (repeat' (walk_at "S"; (fail_if_success (with_reducible show wpAny _ _ (setItem _ _ _) _ _ _)); first | (((with_reducible show wpAny _ _ (call (Value.builtin "len") [Value.ref _]) _ _ _); k_dflt (refine' my_len ?Ny133 ?my133 ?ly133 ?cy133 ?_; (case Ny133 => k_asm); (case my133 => k_mem); (case ly133 => assumption); (case cy133 => decide); (try dsimp only))); all_goals (try walk_at "fq")) | walk_at "Z"))
    rename IsRange _ _ _ _ _ _ _ _ => hR
    rename News _ _ _ _ => hN7
    refine range_inv (n := 6) (by rfl) hR (small_one (by omega) (by omega) (by omega) (by omega)) (by rw [rangeSize_nat]; omega) (by k_asm) hN7
      (fun m₀ news₀ I i m news' => Ex3 fun rv rn M => An6 (St m₀ [PySem.Str.ofString "i", PySem.Str.ofString "j"] m) (news' = (_, LCg.lst [.ref (ra 0), .ref (ra 1), .ref (ra 2), .ref (ra 3), .ref (ra 4), .ref (ra 5)]) :: (rowsO ra (fun k => W.listOf (rv k).toArray (rn k)) ++ T)) (∀ k, k < 6 → IntsAre (rv k) (M k)) (∀ k, k < 6 → (M k).length = 6) (∀ k l, k < 6 → l < 6 → (M k).getD l 0 = matV (dstW wd) i 0 k l) (∀ p ∈ news', p.1 ≠ I))
      (fun I hI => ⟨rv0, rn0, fun _ => [0, 0, 0, 0, 0, 0], St.refl, rfl, hrz, fun _ _ => rfl, ?z0, fun p hp => Nat.ne_of_lt (hI p hp)⟩) (fun I i m news h => ?d5) ?_ ?_
    case d5 =>
      obtain ⟨_, _, _, _, _, _, _, _, h9⟩ := h
      exact h9
    case z0 =>
      intro k l hk hl9
      rw [mat_zero]
      rcases six hl9 with h | h | h | h | h | h <;> rw [h] <;> rfl
    · intro I i ri m news' h1 tk1 t1 oI hi hri zj0 F9 N9
      walk_at "fg"
      obtain ⟨rv, rn, M, hst, rfl, hM, hMl, hMv, q4⟩ := zj0
      revert F9; intro F9; revert N9; intro N9
      obtain ⟨u1, rfl⟩ := hst.open0
      clear hst
      have eri : ri = (i : Int) := by omega
      subst eri
      have hwi := hok (i : Int) (by omega) (by omega)
      refine letF (G := zG) F9 ?_; clear F9; intro mT F9
      walk_at "ug"
      (repeat' (walk_at "S"; (fail_if_success (with_reducible show wpAny _ _ (setItem _ _ _) _ _ _)); walk_at "Z"))
      refine For_invVF (by k_asm) rfl rfl ?_
      (repeat' (walk_at "S"; (fail_if_success (with_reducible show wpAny _ _ (setItem _ _ _) _ _ _)); first | (((with_reducible show wpAny _ _ (call (Value.builtin "len") [Value.ref _]) _ _ _); k_dflt (refine' my_len ?Ny177 ?my177 ?ly177 ?cy177 ?_; (case Ny177 => k_asm); (case my177 => k_mem); (case ly177 => assumption); (case cy177 => decide); (try dsimp only))); all_goals (try walk_at "fq")) | walk_at "Z"))
      rename IsRange _ _ _ _ _ _ _ _ => hR2
      rename News _ _ _ _ => hN6
      let JJ3 : JT6 := fun m₀ news₀ I2 j m news' => Ex3 fun (rv : Nat → List Value) (rn : Nat → Nat) (M : Nat → List Int) => An6 (St m₀ [PySem.Str.ofString "j"] m) (news' = (I, oI) :: (D0, LCg.lst [.ref (ra 0), .ref (ra 1), .ref (ra 2), .ref (ra 3), .ref (ra 4), .ref (ra 5)]) :: (rowsO ra (fun k => W.listOf (rv k).toArray (rn k)) ++ T)) (∀ k, k < 6 → IntsAre (rv k) (M k)) (∀ k, k < 6 → (M k).length = 6) (∀ k l, k < 6 → l < 6 → (M k).getD l 0 = matV (dstW wd) i (i + 1 + j) k l) (∀ p ∈ news', p.1 ≠ I2)
      refine range_inv (n := 5 - i) (by rfl) hR2 (small_one (by omega) (by omega) (by omega) (by omega)) (by rw [rangeSize_nat]; omega) (by k_asm) hN6
        JJ3
        (fun I2 hI => ⟨rv, rn, M, St.refl, rfl, hM, hMl, ?z1, fun p hp => Nat.ne_of_lt (hI p hp)⟩) (fun I i m news h => ?e5) ?_ ?_
      case e5 =>
        obtain ⟨_, _, _, _, _, _, _, _, h9⟩ := h
        exact h9
      case z1 =>
        intro k l hk hl9
        rw [hMv k l hk hl9, mat_start]
      · intro I2 j rj m news' h2 tk2 t2 oI2 hj hrj zj0 F8 N8
        walk_at "fg"
        obtain ⟨rv2, rn2, M2, hst2, rfl, hM2, hMl2, hMv2, q5⟩ := zj0
        revert F8; intro F8; revert N8; intro N8
        obtain ⟨u2, rfl⟩ := hst2.open0
        clear hst2 hM hMl hMv
        have erj : rj = ((i + 1 + j : Nat) : Int) := by omega
        subst erj
        have hj6 : i + 1 + j < 6 := by omega
        have hwj := hok ((i + 1 + j : Nat) : Int) (by omega) (by omega)
        have hmi : (ra i, W.listOf (rv2 i).toArray (rn2 i)) ∈ rowsO ra (fun k => W.listOf (rv2 k).toArray (rn2 k)) ++ T := rowsO_mem (ob := fun k => W.listOf (rv2 k).toArray (rn2 k)) hi
        have hq1 := fun k (hk : k < 6) => q5 _ (List.mem_cons_of_mem _ (List.mem_cons_of_mem _ (rowsO_mem (a := ra) (ob := fun k => W.listOf (rv2 k).toArray (rn2 k)) hk (T := T))))
        have hq2 := fun k (hk : k < 6) => q4 _ (List.mem_cons_of_mem _ (rowsO_mem (a := ra) (ob := fun k => W.listOf (rv k).toArray (rn k)) hk (T := T)))
        have hI2r : ∀ k, k < 6 → I2 ≠ ra k := fun k hk => (hq1 k hk).symm
        have hIr : ∀ k, k < 6 → I ≠ ra k := fun k hk => (hq2 k hk).symm
        refine letF (G := zG) F8 ?_; clear F8; intro mT F8
        walk_at "ug"
        (repeat' (walk_at "S"; (fail_if_success (with_reducible show wpAny _ _ (setItem _ _ _) _ _ _)); first | ((first | ((with_reducible show wpAny _ _ (subscriptTail _ _ (Value.ref _) (Value.int _ _)) _ _ _); k_dflt (refine' my_itemL ?Ny200 ?my200 ?xy200 ?h0y200 ?hiy200 ?hny200 ?_; (case Ny200 => k_asm); (case my200 => k_mem); (case xy200 => assumption); (case h0y200 => omega); (case hiy200 => omega); (case hny200 => decide); (try dsimp only))) | ((with_reducible show wpAny _ _ (call (Value.ref 138) _ _) _ _ _); k_dflt (refine' Ctr.use (lev_c _ _ _ _ _ _ _ ?b1y202 ?b2y202 ?b3y202 ?b4y202) ?k1y202 ?k2y202 ?k3y202 ?k4y202 ?k5y202 ?kKy202 ?kdy202 ?kuy202 ?_; (case k1y202 => k_asm); (case k2y202 => k_asm); (case k3y202 => k_asm); (case k4y202 => k_asm); (case k5y202 => k_asm); (case kKy202 => first | exact rfl | assumption); (case kdy202 => ((try dsimp +zetaDelta only); first | exact dm1 (by with_reducible assumption) rfl | ktr_room)); (case kuy202 => ((try dsimp +zetaDelta only); first | exact um1 (by with_reducible assumption) rfl | ktr_units)); (case b1y202 => exact okw_ble (by assumption)); (case b2y202 => exact okw_ble (by assumption)); (case b3y202 => exact okw_30 (by assumption)); (case b4y202 => exact okw_30 (by assumption)); (rintro _ _ _ ⟨_, _⟩; (try dsimp only); (try k_fold))))); all_goals (try walk_at "fq")) | walk_at "Z"))
        all_goals (try k_data)
        rename Fr _ _ _ _ => hF5
        rename News _ _ _ _ => hN5
        refine ksa_set (D := ra i) (vs := rv2 i) (n := rn2 i) (ns := M2 i) hF5 hN5 (.tail (hI2r i hi) (.tail (hIr i hi) (.tail (hDra i hi) (rowsO_upd (ob := fun k => W.listOf (rv2 k).toArray (rn2 k)) hi hrne hroff)))) (hM2 i hi) (by omega) (by rw [hMl2 i hi]; omega) (by omega) ?_
        intro h' F' N' hi' hl' hs'
        clear hF5 hN5 hmi
        obtain ⟨rv3, M3, hfe3, hM3, hMl3, hMv3⟩ := rows_put (rn := rn2) hM2 hMl2 hi hj6 (levG subL 9 (wd (i : Int)).cps.toList (wd ((i + 1 + j : Nat) : Int)).cps.toList) _
        have N3 := N'
        rw [show (((i + 1 + j : Nat) : Int)).toNat = i + 1 + j from rfl, hfe3] at N3
        clear N' hfe3 hi' hl' hs' N8
        have hmi : (ra i, W.listOf (rv3 i).toArray (rn2 i)) ∈ rowsO ra (fun k => W.listOf (rv3 k).toArray (rn2 k)) ++ T := rowsO_mem (ob := fun k => W.listOf (rv3 k).toArray (rn2 k)) hi
        have hMi := hM3 i hi
        have hMli := hMl3 i hi
        (repeat' (walk_at "S"; (fail_if_success (with_reducible show wpAny _ _ (setItem _ _ _) _ _ _)); first | (((with_reducible show wpAny _ _ (subscriptTail _ _ (Value.ref _) (Value.int _ _)) _ _ _); k_dflt (refine' my_itemL ?Ny222 ?my222 ?xy222 ?h0y222 ?hiy222 ?hny222 ?_; (case Ny222 => k_asm); (case my222 => k_mem); (case xy222 => assumption); (case h0y222 => omega); (case hiy222 => omega); (case hny222 => decide); (try dsimp only))); all_goals (try walk_at "fq")) | walk_at "Z"))
        all_goals (try k_data)
        rename Fr _ _ _ _ => hF5
        rename News _ _ _ _ => hN5
        refine ksa_set (D := ra (i + 1 + j)) (vs := rv3 (i + 1 + j)) (n := rn2 (i + 1 + j)) (ns := M3 (i + 1 + j)) hF5 hN5 (.tail (hI2r _ hj6) (.tail (hIr _ hj6) (.tail (hDra _ hj6) (rowsO_upd (ob := fun k => W.listOf (rv3 k).toArray (rn2 k)) hj6 hrne hroff)))) (hM3 _ hj6) (by omega) (by rw [hMl3 _ hj6]; omega) (by omega) ?_
        intro h' F' N' hi' hl' hs'
        clear hF5 hN5 hmi hMi hMli
        obtain ⟨rv4, M4, hfe4, hM4, hMl4, hMv4⟩ := rows_put (rn := rn2) hM3 hMl3 hj6 hi ((M3 i).getD (i + 1 + j) 0) _
        have N4 := N'
        rw [show ((i : Int)).toNat = i from rfl, show (((i + 1 + j : Nat) : Int)).toNat = i + 1 + j from rfl, hfe4] at N4
        clear N' hfe4 hi' hl' hs'
        have hmi : (ra i, W.listOf (rv4 i).toArray (rn2 i)) ∈ rowsO ra (fun k => W.listOf (rv4 k).toArray (rn2 k)) ++ T := rowsO_mem (ob := fun k => W.listOf (rv4 k).toArray (rn2 k)) hi
        have hMi := hM4 i hi
        have hMli := hMl4 i hi
        have hval : (M4 i).getD (i + 1 + j) 0 = levG subL 9 (wd (i : Int)).cps.toList (wd ((i + 1 + j : Nat) : Int)).cps.toList := by
          rw [hMv4 i _ hi hj6, if_neg (by omega), hMv3 i _ hi hj6, if_pos ⟨rfl, rfl⟩]
        have hfin : ∀ k l, k < 6 → l < 6 → (M4 k).getD l 0 = matV (dstW wd) i (i + 1 + (j + 1)) k l := by
          intro k l hk hl9
          have hv3 : (M3 i).getD (i + 1 + j) 0 = dstW wd i (i + 1 + j) := by rw [hMv3 i _ hi hj6, if_pos ⟨rfl, rfl⟩]; rfl
          rw [hMv4 k l hk hl9, hv3, hMv3 k l hk hl9, hMv2 k l hk hl9]
          exact mat_step (d := dstW wd) (by omega)
        have hq6 : ∀ p ∈ ((I, oI) :: (D0, LCg.lst [.ref (ra 0), .ref (ra 1), .ref (ra 2), .ref (ra 3), .ref (ra 4), .ref (ra 5)]) :: (rowsO ra (fun k => W.listOf (rv4 k).toArray (rn2 k)) ++ T) : LLed), p.1 ≠ I2 := by
          intro p hp
          (first | (revert p; refine all_cons ?_ (fun p hp => ?_)) | rcases List.mem_cons.mp hp with rfl | hp)
          · exact fun e => q5 _ (List.mem_cons_self ..) e
          (first | (revert p; refine all_cons ?_ (fun p hp => ?_)) | rcases List.mem_cons.mp hp with rfl | hp)
          · exact fun e => q5 _ (List.mem_cons_of_mem _ (List.mem_cons_self ..)) e
          · exact rowsO_off (fun k hk => (hI2r k hk).symm) (fun p hp => q5 p (List.mem_cons_of_mem _ (List.mem_cons_of_mem _ (List.mem_append_right _ hp)))) p hp
        (repeat' (walk_at "S"; (fail_if_success (with_reducible show wpAny _ _ (setItem _ _ _) _ _ _)); first | ((first | ((with_reducible show wpAny _ _ (subscriptTail _ _ (Value.ref _) (Value.int _ _)) _ _ _); k_dflt (refine' my_itemL ?Ny244 ?my244 ?xy244 ?h0y244 ?hiy244 ?hny244 ?_; (case Ny244 => k_asm); (case my244 => k_mem); (case xy244 => assumption); (case h0y244 => omega); (case hiy244 => omega); (case hny244 => decide); (try dsimp only))) | ((with_reducible show wpAny _ _ (call (Value.ref 307) _ _) _ _ _); k_dflt (refine' Ctr.use (price_lev _ _ _ _ _ _ ?b1y245 ?b2y245) ?k1y245 ?k2y245 ?k3y245 ?k4y245 ?k5y245 ?kKy245 ?kdy245 ?kuy245 ?_; (case k1y245 => k_asm); (case k2y245 => k_asm); (case k3y245 => k_asm); (case k4y245 => k_asm); (case k5y245 => k_asm); (case kKy245 => first | exact rfl | assumption); (case kdy245 => ((try dsimp +zetaDelta only); first | exact dm1 (by with_reducible assumption) rfl | ktr_room)); (case kuy245 => ((try dsimp +zetaDelta only); first | exact um1 (by with_reducible assumption) rfl | ktr_units)); (case b1y245 => assumption); (case b2y245 => assumption); (rintro _ _ _ ⟨_, _⟩; (try dsimp only); (try k_fold))))); all_goals (try walk_at "fq")) | walk_at "Z"))
        all_goals (try k_data)
        · exfalso
          rename ((M4 i).getD _ 0 ≠ _) => hbad
          exact hbad hval
        · (try dsimp only)
          rename Fr _ _ _ _ => hF5
          rename News _ _ _ _ => hN5
          refine ⟨_, _, _, _, rfl, hF5, hN5, ?_⟩
          unfold Kept
          refine ⟨rv4, rn2, M4, ?_, rfl, hM4, hMl4, hfin, hq6⟩
          walk_at "st_base"
        · (try dsimp only)
          rename Fr _ _ _ _ => hF5
          rename News _ _ _ _ => hN5
          refine ⟨_, _, _, _, rfl, hF5, hN5, ?_⟩
          unfold Kept
          refine ⟨rv4, rn2, M4, ?_, rfl, hM4, hMl4, hfin, hq6⟩
          walk_at "st_base"
        · (try dsimp only)
          rename Fr _ _ _ _ => hF5
          rename News _ _ _ _ => hN5
          refine ⟨_, _, _, _, rfl, hF5, hN5, ?_⟩
          unfold Kept
          refine ⟨rv4, rn2, M4, ?_, rfl, hM4, hMl4, hfin, hq6⟩
          walk_at "st_base"
      · intro I2 m news' h2 tk2 zj0 F8 N8
        walk_at "fg"
        obtain ⟨rv2, rn2, M2, hst2, rfl, hM2, hMl2, hMv2, q5⟩ := zj0
        revert F8; intro F8; revert N8; intro N8
        obtain ⟨u2, rfl⟩ := hst2.open0
        clear hst2
        refine letF (G := zG) F8 ?_; clear F8; intro mT F8
        walk_at "ug"
        (try dsimp only)
        (repeat' (walk_at "S"; (fail_if_success (with_reducible show wpAny _ _ (setItem _ _ _) _ _ _)); walk_at "Z"))
        all_goals (try k_data)
        (try dsimp only)
        rename Fr _ _ _ _ => hF5
        rename News _ _ _ _ => hN5
        refine ⟨_, _, _, _, rfl, hF5, hN5, ?_⟩
        unfold Kept
        have hq2 := fun k (hk : k < 6) => q4 _ (List.mem_cons_of_mem _ (rowsO_mem (a := ra) (ob := fun k => W.listOf (rv k).toArray (rn k)) hk (T := T)))
        have hq3 := q4 _ (List.mem_cons_self ..)
        refine ⟨rv2, rn2, M2, ?_, rfl, hM2, hMl2, fun k l hk hl9 => by rw [hMv2 k l hk hl9, mat_next hi hk hl9], ?_⟩
        · walk_at "st_base"
        · intro p hp
          (first | (revert p; refine all_cons ?_ (fun p hp => ?_)) | rcases List.mem_cons.mp hp with rfl | hp)
          · exact hq3
          · exact rowsO_off hq2 (fun p hp => q4 p (List.mem_cons_of_mem _ (List.mem_append_right _ hp))) p hp
    · intro I m news' h1 tk1 zj0 F9 N9
      walk_at "fg"
      obtain ⟨rv, rn, M, hst, rfl, hM, hMl, hMv, q4⟩ := zj0
      revert F9; intro F9; revert N9; intro N9
      obtain ⟨u1, rfl⟩ := hst.open0
      clear hst
      refine letF (G := zG) F9 ?_; clear F9; intro mT F9
      walk_at "ug"
      (try dsimp only)
      (repeat' (walk_at "S"; (fail_if_success (with_reducible show wpAny _ _ (setItem _ _ _) _ _ _)); walk_at "Z"))
      all_goals (try k_data)
      rename News h₀ L _ _ => hN5
      exact hret D0 ra rv rn M _ _ hM hMl (fun k l hk hl9 => by rw [hMv k l hk hl9, mat_end hk hl9]) ⟨by k_asm, News.sub hN5 (fun p hp => by
        (first | (revert p; refine all_cons ?_ (fun p hp => ?_)) | rcases List.mem_cons.mp hp with rfl | hp)
        · exact List.mem_cons_self ..
        rcases List.mem_append.mp hp with hp | hp
        · exact List.mem_cons_of_mem _ (List.mem_append_left _ hp)
        · exact List.mem_cons_of_mem _ (List.mem_append_right _ (hnT _ hp)))⟩ hrne (fun k hk p hp => hroff k hk p (hnT _ hp)) hDra (fun p hp => ho8 p (List.mem_append_right _ (hnT _ hp)))
end
section
open PySem PySem.W PyProof.Rows PySem.Calls PySem.Spec
local macro_rules | `(tactic| walk_at "st_base") => `(tactic| (intro y9 hy9; (repeat (first | exact rfl | (refine (if_neg (fun e9 => by (subst e9; exact absurd hy9 (by decide)))).trans ?_) | (unfold Mine.ovr; exact if_neg (by rw [hy9]; decide))))))
def CtrB (w : World) (f : Addr) (vs : List Value) (kw : List (PySem.Str × Value)) (dep : Nat) (news : LLed) (x : Addr) (lv : List Value)
    (R : (Heap → LLed → Prop) → (Value → Heap → Nat → Prop) → Prop) : Prop :=
  ∀ (loose : List PySem.Str) (mean : ExcName → Option Value) (mg mb : PySem.Str → Option Value) (dp un : Nat) (gd : Option (List Code)) (cn : PySem.Str) (cs : Scope) (a : Addr) (ccd : Value) (cl : List (PySem.Str × Addr)) (outer : List Env)
    (A₀ : Around) (base h₀ : Heap) (L : Addr) (m : PySem.Str → Option Value) (s : Shared) (Q E : Value → Shared → Prop),
    Below A₀ base outer h₀ → Fr h₀ L s.heap m → (hd.heap_39 w.params).In h₀ → News h₀ L s.heap news → Top hd.view_39 loose mean mg mb h₀ → cs.kind = .function → base.IsList x lv.toArray →
    dp + dep < recursionLimit → un + 8 * dep < cLine →
    R (fun h' news' => Fr h₀ L h' m ∧ News h₀ L h' news') (fun v h' tk' => Q v { s with heap := h', toks := tk' }) →
    wpAny (model P0 w) (ktrTop dp un gd cn cs L a ccd cl outer) (call (.ref f) vs kw) Q E s
theorem cells_c (w : World) (news : LLed) (x : Addr) (vs : List Value) (ns : List Int) (hi : IntsAre vs ns) (hl : ns.length ≤ 63) :
    CtrB w 293 [.ref x] [] 1 news x vs fun N Q => ∀ D ys cs k h' tk', IntsAre ys cs → cs.length = 7 → N h' ((D, W.listOf ys.toArray k) :: news) → (∀ p ∈ news, p.1 < D) → Q (.ref D) h' tk' := by
  unfold CtrB
  have hdummy : PySem.Challenge.rw_wo0075_01 = PySem.Challenge.rw_wo0075_01 ∧ hd.heap_39 w.params = hd.heap_39 w.params := by k_fill; exact ⟨rfl, rfl⟩
  clear hdummy
  intro loose mean mg mb dp un gd cn cs a ccd cl outer A₀ base h₀ L m s Q E hB hF hX hN hT hk hL hdp hun hret
  rcases cs with ⟨ki, na, g1, g2, mo⟩
  dsimp only at hk
  subst hk
  have hvl := hi.length
  walk_at "fd"
  (repeat' (first | tb_start | (walk_at "S0"; first | (k_end; wrow_close) | walk_at "Z")))
  refine For_invVF (by k_asm) rfl rfl ?_
  (repeat' (first | tb_start | (walk_at "S0"; first | (k_end; wrow_close) | walk_at "Z")))
  rename IsRange _ _ _ _ _ _ _ _ => hR
  rename News _ _ _ (_ :: _) => hN0
  rename (∀ p ∈ news, p.1 < _) => hlt0
  refine range_inv (n := ns.length) (by rfl) hR ?ha ?hb (by k_asm) hN0
    (fun m₀ news₀ I i m news' => Ex4 fun ys cs k u => An5 (m = ovr [PySem.Str.ofString "k"] u m₀) (news' = (_, W.listOf ys.toArray k) :: news) (IntsAre ys cs) (cs.length = 7) (∀ p ∈ news', p.1 ≠ I))
    (fun I hI8 => ⟨_, [6, 3, 31, 6, 31, 140, 0], _, _, (ovr_self _ _).symm, rfl, ?c1, rfl, fun p hp => Nat.ne_of_lt (hI8 p hp)⟩) (fun I' j m news h => ?c5) ?_ ?_
  case ha => exact small_one (by omega) (by omega) (by omega) (by omega)
  case hb => exact rangeSize_nat _ _
  case c1 => repeat (first | exact IntsAre.nil | refine IntsAre.cons _ _ ?_)
  case c5 =>
    obtain ⟨_, _, _, _, _, _, _, _, h9⟩ := h
    exact h9
  · intro I i ri m news' h tk t oI hi9 hri zj0 F9 N9
    walk_at "fg"
    obtain ⟨ys, cs, k, u, rfl, rfl, hys, hcl, q4⟩ := zj0
    revert F9; intro F9; revert N9; intro N9
    have hIa := q4 _ (List.mem_cons_self ..)
    have hIb := hIa.symm
    have hne0 : ∀ p ∈ news, p.1 ≠ _ := fun p hp => Nat.ne_of_lt (hlt0 p hp)
    have hri0 : 0 ≤ ri := by omega
    have hfm : 0 ≤ ri.fmod 7 ∧ ri.fmod 7 < 7 := ⟨Int.fmod_nonneg_of_pos _ (by decide), Int.fmod_lt_of_pos _ (by decide)⟩
    have hri1 : ri < (ns.length : Int) := by omega
    refine letF (G := zG) F9 ?_; clear F9; intro mT F9
    walk_at "ug"
    (repeat' (first | tb_start | (walk_at "S0"; first | (k_end; wrow_close) | walk_at "Z")))
    all_goals (try k_data)
    (try dsimp only)
    rename Fr _ _ _ _ => hF5
    rename News _ _ _ _ => hN5
    rename IntsAre (ys.set _ _) _ => hi5
    refine ⟨_, _, _, _, rfl, hF5, hN5, ?_⟩
    unfold Kept
    refine ⟨_, _, _, fun y => if y = PySem.Str.ofString "k" then some (.int ri t) else u y, ?_, rfl, hi5, by rw [List.length_set]; exact hcl, fun p hp => ?_⟩
    · exact (ovr_step (v := some (.int ri t)) (by decide))
    · (first | (revert p; refine all_cons ?_ (fun p hp => ?_)) | rcases List.mem_cons.mp hp with rfl | hp)
      · exact hIa
      · exact q4 p (List.mem_cons_of_mem _ hp)
  · intro I m news' h tk zj0 F9 N9
    walk_at "fg"
    obtain ⟨ys, cs, k, u, rfl, rfl, hys, hcl, q4⟩ := zj0
    revert F9; intro F9; revert N9; intro N9
    refine letF (G := zG) F9 ?_; clear F9; intro mT F9
    walk_at "ug"
    (repeat' (first | tb_start | (walk_at "S0"; first | (k_end; wrow_close) | walk_at "Z")))
    all_goals (try k_data)
    exact hret _ ys cs k _ _ hys hcl ⟨by k_asm, by k_asm⟩ hlt0
end
section
open PySem PySem.W PyProof.Rows PySem.Calls PySem.Spec
local macro_rules | `(tactic| k_mem) => `(tactic| ((iterate 12 (try (first | (with_reducible assumption) | (with_reducible exact List.mem_cons_self ..) | (with_reducible refine List.mem_append_right _ ?_) | (with_reducible refine List.mem_cons_of_mem _ ?_)))); done))
local macro_rules | `(tactic| walk_at "CompSrc") => `(tactic| ((refine LCg.CompSrc.ledger (by rfl) (by k_asm) (by k_asm) (by k_mem) ?hz ?_; (case hz => (rw [sizeLine_eq, List.size_toArray]; omega))); intro g9))
local macro_rules | `(tactic| walk_at "CompSrc") => `(tactic| ((refine LCg.CompSrc.range (n := 3) (by rfl) (by k_asm) (by k_asm) (by assumption) (by decide) (by decide) ?hz ?_; (case hz => (rw [sizeLine_eq]; omega))); intro g9))
local macro_rules | `(tactic| walk_at "my_tail") => `(tactic| (intro p9 hp9; repeat (first | exact hp9 | refine List.mem_cons_of_mem _ ?_)))
local macro_rules | `(tactic| k_all) => `(tactic| first | assumption | exact List.forall_mem_nil _ | (refine' off_cons ?oh ?ot; (case oh => k_ne); (case ot => k_all)))
local macro_rules | `(tactic| walk_at "CompSrc") => `(tactic| (k_dflt (refine LCg.CompSrc.range (n := 3) (by rfl) (by k_asm) (by k_asm) (by assumption) (by decide) (by decide) ?hz ?_; (case hz => (rw [sizeLine_eq]; omega)); intro g9)))
theorem CtrB.use {w : World} {f : Addr} {vs : List Value} {kw : List (PySem.Str × Value)} {dep : Nat} {news : LLed} {x : Addr} {lv : List Value} {R : (Heap → LLed → Prop) → (Value → Heap → Nat → Prop) → Prop} (C : CtrB w f vs kw dep news x lv R)
    {loose : List PySem.Str} {mean : ExcName → Option Value} {mg mb : PySem.Str → Option Value} {dp un : Nat} {gd : Option (List Code)} {cn : PySem.Str} {cs : Scope} {a : Addr} {ccd : Value} {cl : List (PySem.Str × Addr)} {outer : List Env}
    {A₀ : Around} {base h₀ : Heap} {L : Addr} {m : PySem.Str → Option Value} {s : Shared} {Q E : Value → Shared → Prop}
    (B : Below A₀ base outer h₀) (F : Fr h₀ L s.heap m) (X : (hd.heap_39 w.params).In h₀) (N : News h₀ L s.heap news) (T : Top hd.view_39 loose mean mg mb h₀) (hk : cs.kind = .function) (hl : base.IsList x lv.toArray)
    (hd : dp + dep < recursionLimit) (hu : un + 8 * dep < cLine)
    (h : R (fun h' news' => Fr h₀ L h' m ∧ News h₀ L h' news') (fun v h' tk' => Q v { s with heap := h', toks := tk' })) :
    wpAny (model P0 w) (ktrTop dp un gd cn cs L a ccd cl outer) (call (.ref f) vs kw) Q E s := C _ _ _ _ _ _ _ _ _ _ _ _ _ _ _ _ _ _ _ _ _ B F X N T hk hl hd hu h
theorem law_sub {a b c d e f g x : Addr × Obj} {r : LLed} (h : x ∈ ([a, b, c, d, e, f, g] : LLed)) : x ∈ (a :: b :: c :: d :: e :: f :: g :: r : LLed) := by
  simp only [List.mem_cons, List.not_mem_nil, or_false] at h ⊢
  rcases h with h | h | h | h | h | h | h <;> simp [h]
theorem law_n10 {a b c d e f : Addr × Obj} {r : LLed} : ∀ p ∈ (d :: e :: r : LLed), p ∈ (a :: b :: c :: d :: e :: f :: r : LLed) :=
  fun _ hp => .tail _ (.tail _ (.tail _ (sub_cons (.head _) (sub_cons (.tail _ (.head _)) (fun _ h => .tail _ (.tail _ (.tail _ h)))) _ hp)))
theorem law_okw {xs : List PySem.Str} {cs : List Int} (hxs : xs = List.map (fun c => wordOf (c.fmod 192)) (List.take 6 cs)) (hl : xs.length = 6) : ∀ k : Int, 0 ≤ k → k < 6 → OkW (xs.getD k.toNat (PySem.Str.ofString "")) := by
  have key : ∀ y ∈ xs, OkW y := by
    rw [hxs]
    intro y hy
    obtain ⟨c, _, rfl⟩ := List.mem_map.mp hy
    exact word_ok (Int.fmod_nonneg_of_pos _ (by decide)) (Int.fmod_lt_of_pos _ (by decide))
  intro k h0 h1
  have hk : k.toNat < xs.length := by omega
  rw [List.getD_eq_getElem?_getD, List.getElem?_eq_getElem hk, Option.getD_some]
  exact key _ (List.getElem_mem hk)
abbrev J1 (T2 : LLed) (H : LLed → List Value → Nat → Prop) : JTc := fun news₀ i ys news' => Ex5 fun c4 c5 c6 c7 T3 => An8 (news₀ = c4 :: c5 :: c6 :: c7 :: T2) (news' = c4 :: c5 :: c6 :: c7 :: T3) (∀ p ∈ T2, p ∈ T3) (∀ p ∈ T3, p.1 ≠ c4.1) (∀ p ∈ T3, p.1 ≠ c5.1) (∀ p ∈ T3, p.1 ≠ c6.1) (∀ p ∈ T3, p.1 ≠ c7.1) (H T3 ys i)
theorem J1.inv {T2 news' : LLed} {H : LLed → List Value → Nat → Prop} {i : Nat} {ys : List Value} {c4 c5 c6 c7 : Addr × Obj} (h : J1 T2 H (c4 :: c5 :: c6 :: c7 :: T2) i ys news') :
    Ex1 fun T3 => An7 (news' = c4 :: c5 :: c6 :: c7 :: T3) (∀ p ∈ T2, p ∈ T3) (∀ p ∈ T3, p.1 ≠ c4.1) (∀ p ∈ T3, p.1 ≠ c5.1) (∀ p ∈ T3, p.1 ≠ c6.1) (∀ p ∈ T3, p.1 ≠ c7.1) (H T3 ys i) := by
  obtain ⟨_, _, _, _, T3, e, h1, h2, h3, h4, h5, h6, h7⟩ := h
  cases e
  exact ⟨T3, h1, h2, h3, h4, h5, h6, h7⟩
theorem kk2 {k : Int} {i : Nat} (h : k = 0 + (i : Int)) : k.toNat = i := by omega
theorem int3 {ys : List Value} (f : Nat → Int) {i : Nat} {r : Int} {t : Tok} (h : IntsAre ys (List.take i [f 0, f 1, f 2])) (hi : i < 3) (e : r = f i) : IntsAre (ys ++ [.int r t]) (List.take (i + 1) [f 0, f 1, f 2]) := by
  rcases or3n hi with rfl | rfl | rfl <;> exact e ▸ h.append (.cons _ _ .nil)
theorem hl3 (g : Int → PySem.Str × PySem.Str) {T T' : LLed} {ys : List Value} {i : Nat} {k : Int} {a : Addr} {t u : Tok} (hk : k = 0 + (i : Int)) (hi : i < 3) (hm : (a, tup2 (.str (g k).1 t) (.str (g k).2 u)) ∈ T') (hs : ∀ p ∈ T, p ∈ T') (h : HL T ys (List.take i [g 0, g 1, g 2])) : HL T' (ys ++ [.ref a]) (List.take (i + 1) [g 0, g 1, g 2]) := by
  rcases or3n hi with rfl | rfl | rfl <;> (subst hk; exact HL.snoc (p := g _) hm (HL.mono hs h))
theorem take_snoc {ys : List Value} {i : Nat} {v : Value} (h : ys[i]? = some v) : List.take i ys ++ [v] = List.take (i + 1) ys := by
  rw [List.take_add_one, h]
  rfl
theorem ord_bd {i : Nat} (h : i < 6) : ∀ k : Int, 0 ≤ k → k < 3 → 0 ≤ (orders6.getD i []).getD k.toNat 0 ∧ (orders6.getD i []).getD k.toNat 0 < 3 := (law_ord (o := (i : Int)) (by omega) (by omega)).2.2
theorem ord_len : ∀ {i : Nat}, i < 6 → (orders6.getD i []).length = 3 := by decide
theorem law_post (xs : List Int) : PySem.Challenge.rw_wo0075_01.row.claim.post [ofPy (PyData.list (List.map PyData.int xs))] (WData.bool true) [ofPy (PyData.list (List.map PyData.int xs))] = true := by kc_post
theorem law_raises (xs : List Int) : ∀ cls : ExcName, PySem.Challenge.rw_wo0075_01.row.claim.raises [ofPy (PyData.list (List.map PyData.int xs))] cls = false := by
  refine raisesW_false ?_
  wrow_none_raised
theorem lawt : PySem.Challenge.rw_wo0075_01.Holds := by
  refine hd rfl ?_
  k_fill
  intro w s₀ s₁ mg mb G Y fa o pm cd doc dV kV ho hd hcd hD hmg hg args vals as hpre hlay hrd hwl hlo
  have KX := kIn_of Y
  have X := (Ground.X G).1
  refine Ground.open G ?_
  intro T B D TE TW
  try (refine guard_noD D (by decide +kernel) ?_; clear D)
  obtain ⟨_, _, M⟩ := bmod_of_top T
  have TA := at_of_top T
  try (obtain ⟨_, _, he, B0⟩ := based_of_top T rfl hmg ho hd; have he' : cd = _ := he; subst he'; clear he)
  clear hmg
  wrow_args hpre hlay hrd hwl hlo
  all_goals (
    first | refine callC_kw (enter_call ?_) | refine enter_call ?_ | refine callC_kw (enter_callW ?_) | refine enter_callW ?_ | w_how
    w_top on
    try refine codeAny_mono ?_ (fun _ _ g => GoodW.toG g)
    have K0 := below_caller (Top.heap T)
    w_call any ho hd hcd hD T F
    clear hd TA
    k_drop
    skip)
  all_goals (try k_fold)
  walk_at "fe"
  rename IntsAre _ _ => hI0
  rename ¬ ((63 : Nat) : Int) < _ => hlen
  rename Heap.IsList _ _ _ => hL0
  have hlen63 := hlen
  (repeat' (walk_at "S"; (fail_if_success (with_reducible show wpAny _ _ (call (Value.ref 293) _ _) _ _ _)); walk_at "Z"))
  all_goals (try k_data)
  refine' CtrB.use (cells_c _ _ _ _ _ hI0 ?c1) ?k1 ?k2 ?k3 ?k4 ?k5 ?kK ?cl ?kd ?ku ?_
  walk_at "my_use"
  case c1 => omega
  case cl => exact hL0
  intro D0 ys0 cs k0 h0 tk0 hI1 hc7 hN0 hlt0
  obtain ⟨F0, N0⟩ := hN0
  (try dsimp only)
  (try k_fold)
  clear hI0 hlen hlen63
  have hq0 : 0 ≤ ((cs.getD (Int.toNat 6) 0).fdiv 6).fmod 3 := Int.fmod_nonneg_of_pos _ (by decide)
  have hq1 : ((cs.getD (Int.toNat 6) 0).fdiv 6).fmod 3 < 3 := Int.fmod_lt_of_pos _ (by decide)
  have ho0 : 0 ≤ (cs.getD (Int.toNat 6) 0).fmod 6 := Int.fmod_nonneg_of_pos _ (by decide)
  have ho1 : (cs.getD (Int.toNat 6) 0).fmod 6 < 6 := Int.fmod_lt_of_pos _ (by decide)
  k_lt hlt0
  obtain ⟨mk, hmk⟩ : ∃ mk, mk = Txt.item (PySem.Str.ofString "|!;") (((cs.getD (Int.toNat 6) 0).fdiv 6).fmod 3) := ⟨_, rfl⟩
  (repeat' (walk_at "S"; (fail_if_success (with_reducible show wpAny _ _ (subscriptTail (PySem.Expr.Name (PySem.Str.ofString "orders") _) _ _ _) _ _ _)); first | (((with_reducible show wpAny _ _ (subscriptTail _ _ (Value.ref _) (Value.int _ _)) _ _ _); k_dflt (refine' my_itemL ?Ny38 ?my38 ?xy38 ?h0y38 ?hiy38 ?hny38 ?_; (case Ny38 => k_asm); (case my38 => k_mem); (case xy38 => assumption); (case h0y38 => omega); (case hiy38 => omega); (case hny38 => decide); (try dsimp only))); all_goals (try walk_at "fq")) | walk_at "Z"))
  all_goals (try k_data)
  rename News _ _ _ _ => hN2
  have hLO := law_lo hN2
  obtain ⟨ao, vo, hao1, hao2, hvo⟩ := hLO ((cs.getD (Int.toNat 6) 0).fmod 6).toNat (by omega)
  refine my_item (vs := [_, _, _, _, _, _]) hN2 (List.mem_cons_self ..) ho0 (by omega) hao1 ?_
  (try dsimp only)
  (repeat' (walk_at "S"; (fail_if_success (with_reducible show wpAny _ _ (call (Value.ref 300) _ _) _ _ _)); first | (((with_reducible show wpAny _ _ (subscriptTail _ _ (Value.ref _) (Value.int _ _)) _ _ _); k_dflt (refine' my_itemL ?Ny68 ?my68 ?xy68 ?h0y68 ?hiy68 ?hny68 ?_; (case Ny68 => k_asm); (case my68 => k_mem); (case xy68 => assumption); (case h0y68 => omega); (case hiy68 => omega); (case hny68 => decide); (try dsimp only))); all_goals (try walk_at "fq")) | walk_at "Z"))
  all_goals (try k_data)
  rename News _ _ _ _ => hN3
  rename Fr _ _ _ _ => hF3
  walk_at "fg"
  obtain ⟨T, hN4, hT1, hT2, hc34, hc45, hc56, hc67⟩ := law_start hN3 (by dsimp only; omega) (by dsimp only; omega) (by dsimp only; omega) (by dsimp only; omega) (by dsimp only; omega) (by dsimp only; omega) (by dsimp only; omega) (by dsimp only; omega) (by dsimp only; omega) (by dsimp only; omega) (by dsimp only; omega) (by dsimp only; omega) (by dsimp only; omega) (by dsimp only; omega)
  obtain ⟨hT3, hT4, hT5, hT6, hT7⟩ := law_off hT2 hc34 hc45 hc56 hc67
  have hD0 := hT1 (D0, W.listOf ys0.toArray k0) (by simp)
  have hLO2 := hLO.mono (fun p hp => hT1 p (law_sub hp))
  (try clear hN2)
  have hao3 := hT1 _ (law_sub hao2)
  clear hN3 hLO hT2 hao2
  simp only [List.forall_mem_cons] at hT1
  obtain ⟨hl, _, _, _, _, _, _, _, hm2, hm1, _⟩ := hT1
  walk_at "ug"
  refine' Ctr.use (words_c _ _ D0 ys0 cs k0 hI1 hc7 ?q1) ?k1 ?k2 ?k3 ?k4 ?k5 ?kK ?kd ?ku ?_
  walk_at "my_use"
  case q1 => k_mem
  intro D1 ws k1 h1 tk1 hW hN5 hlt1
  obtain ⟨F1, N1⟩ := hN5
  (try dsimp only)
  (try k_fold)
  clear hN4 hF3
  have hD1 : ∀ p ∈ (_ : LLed), p.1 ≠ D1 := fun p hp => Nat.ne_of_lt (hlt1 p hp)
  k_lt hlt1
  (repeat' (walk_at "S"; (fail_if_success (with_reducible show wpAny _ _ (call (Value.ref 312) _ _) _ _ _)); walk_at "Z"))
  all_goals (try k_data)
  obtain ⟨xs, hxs⟩ : ∃ xs, xs = List.map (fun c => wordOf (c.fmod 192)) (List.take 6 cs) := ⟨_, rfl⟩
  rw [← hxs] at hW
  have hxl : xs.length = 6 := by rw [hxs, List.length_map, List.length_take, hc7]; rfl
  have hxo : ∀ k : Int, 0 ≤ k → k < 6 → OkW (xs.getD k.toNat (PySem.Str.ofString "")) := law_okw hxs hxl
  obtain ⟨tw, hLW⟩ := vs_lv hW
  rw [hxl] at hLW
  have hwl : ws.length = 6 := hW.length.trans hxl
  refine' Ctr.use (far_c w _ D1 (fun k => xs.getD k.toNat (PySem.Str.ofString "")) tw ws k1 hLW hwl hxo ?q1) ?k1 ?k2 ?k3 ?k4 ?k5 ?kK ?kd ?ku ?_
  walk_at "my_use"
  case q1 => k_mem
  intro D2 ra rv rn M h2 tk2 hM hMl hMv hN6 hra hra2 hD2a hD2
  obtain ⟨F2, N2⟩ := hN6
  (try dsimp only)
  (try k_fold)
  walk_at "fg"
  obtain ⟨T2, hN7, hd2, hrr, hd1, hc3, hTT2, hU4, hU5, hU6, hU7⟩ := law_far N2 hra2 hD2 (fun p hp => by
    (first | (revert p; refine all_cons ?_ (fun p hp => ?_)) | rcases List.mem_cons.mp hp with rfl | hp)
    · have q := hD1 _ (List.mem_cons_self ..)
      exact q
    · exact hD1 p (List.mem_cons_of_mem _ hp)) hc34 hc45 hc56 hc67 hT4 hT5 hT6 hT7
  clear N2 hra hra2 hD2a hD2 hD1 hT3 hT4 hT5 hT6 hT7
  walk_at "ug"
  (repeat' (walk_at "S"; first | ((first | ((with_reducible show wpAny _ _ (eval (PySem.Expr.ListComp _ _ _ _) _) _ _ _); (k_dflt (refine LCg.ListComp_U (F₀ := by k_asm) (by with_unfolding_all rfl) (by decide) (by rfl) (by decide) (by rfl) ?_; lcg_toSrc))) | ((with_reducible show wpAny _ _ (exec (PySem.Stmt.Assign _ (PySem.Expr.ListComp _ _ _ _) _) _) _ _ _); refine wpAny_Assign_Name ?_) | ((with_reducible show wpAny _ _ (call (Value.builtin "len") [Value.ref _]) _ _ _); k_dflt (refine' my_len ?Ny127 ?my127 ?ly127 ?cy127 ?_; (case Ny127 => k_asm); (case my127 => k_mem); (case ly127 => assumption); (case cy127 => decide); (try dsimp only)))); all_goals (try walk_at "fq")) | walk_at "Z"))
  all_goals (try k_data)
  have hLW6 : LV ws 6 (fun k => .str (xs.getD k.toNat (PySem.Str.ofString "")) (tw k)) := hLW
  have hmm := mk_ok hq0 hq1
  have hml := okM_len hmm
  have hm12 := hTT2 _ hm1
  let JJ1 : JTc := J1 T2 (fun T3 ys i => HL T3 ys (List.take i (ps0 (Txt.item (PySem.Str.ofString "|!;") (((cs.getD (Int.toNat 6) 0).fdiv 6).fmod 3)) xs)))
  refine compU_inv JJ1
    ⟨_, _, _, _, T2, rfl, rfl, fun p hp => hp, hU4, hU5, hU6, hU7, trivial⟩ (fun i ys news' h => trivial) ?_ ?_
  · intro i ys3 news3 v I3 oI3 C3 oC3 D3 m₃ h3 tk3 E3 hi3 zj0 zj1 hC3 hx3 F8 N8 off3 ne3
    walk_at "fg"
    obtain ⟨T3, rfl, hTT3, hV4, hV5, hV6, hV7, hH3⟩ := J1.inv zj0
    obtain ⟨tv, rfl⟩ := zj1
    revert hC3; intro hC3; revert hx3; intro hx3; revert F8; intro F8; revert N8; intro N8; revert off3; intro off3; revert ne3; intro ne3
    walk_at "ug"
    obtain ⟨k, hk⟩ : ∃ k : Int, k = 0 + (i : Int) := ⟨_, rfl⟩
    rw [← hk] at hx3
    have k0 : 0 ≤ k := kk0 hk
    have k1 : k < 3 := kk1 hk hi3
    have k2 : k < 2 ^ 63 := Int.lt_trans k1 (by decide)
    have hm13 := hTT3 _ hm12
    have hc33 := hTT3 _ hc3
    have hd13 := hTT3 _ hd1
    have hwk := hxo (3 + k) (by omega) (by omega)
    have hwk3 := hwk.2.1
    (repeat' (walk_at "S"; first | ((first | ((with_reducible show wpAny _ _ (call (Value.ref 319) _ _) _ _ _); k_dflt (refine' Ctr.use (reply_c _ _ _ _ _ _ _ _ ?q1y154 ?q2y154 ?q3y154 ?q4y154) ?k1y154 ?k2y154 ?k3y154 ?k4y154 ?k5y154 ?kKy154 ?kdy154 ?kuy154 ?_; (case k1y154 => k_asm); (case k2y154 => k_asm); (case k3y154 => k_asm); (case k4y154 => k_asm); (case k5y154 => k_asm); (case kKy154 => first | exact rfl | assumption); (case kdy154 => ((try dsimp +zetaDelta only); first | exact dm1 (by with_reducible assumption) rfl | ktr_room)); (case kuy154 => ((try dsimp +zetaDelta only); first | exact um1 (by with_reducible assumption) rfl | ktr_units)); (case q1y154 => assumption); (case q2y154 => assumption); (case q3y154 => omega); (case q4y154 => omega); (rintro _ _ _ ⟨_, _⟩; (try dsimp only); (try k_fold)))) | ((with_reducible show wpAny _ _ (subscriptTail _ _ (Value.ref _) (Value.int _ _)) _ _ _); k_dflt (refine' my_itemL ?Ny158 ?my158 ?xy158 ?h0y158 ?hiy158 ?hny158 ?_; (case Ny158 => k_asm); (case my158 => k_mem); (case xy158 => assumption); (case h0y158 => omega); (case hiy158 => omega); (case hny158 => decide); (try dsimp only)))); all_goals (try walk_at "fq")) | walk_at "Z"))
    all_goals (try k_data)
    (try dsimp only)
    rename Fr _ _ _ _ => hF5
    rename News _ _ _ _ => hN5
    rename (_ ∧ _ ∧ _ ∧ _ ∧ _ ∧ _ ∧ _ ∧ AllLt _ T3) => hlt9
    obtain ⟨hN8, hO8, n4, n5, n6, n7⟩ := log_turn hN5 off3 hlt9
    refine ⟨_, _, _, rfl, hF5, hN8, hO8, ?_⟩
    unfold Kept
    refine ⟨_, _, _, _, _, rfl, rfl, fun p hp => List.mem_cons_of_mem _ (hTT3 p hp), off_cons n4 hV4, off_cons n5 hV5, off_cons n6 hV6, off_cons n7 hV7, ?_⟩
    exact hl3 (fun k => (nmK k, replyS (Txt.item (PySem.Str.ofString "|!;") (((cs.getD (Int.toNat 6) 0).fdiv 6).fmod 3)) (xs.getD (Int.toNat (3 + k)) (PySem.Str.ofString "")) 0)) hk hi3 (List.mem_cons_self ..) (fun p hp => List.mem_cons_of_mem _ hp) hH3
  · intro ys3 news3 zj0
    walk_at "fg"
    obtain ⟨T3, rfl, hTT3, hV4, hV5, hV6, hV7, hH3⟩ := J1.inv zj0
    walk_at "ug"
    have hH3 : HL T3 ys3 (ps0 (Txt.item (PySem.Str.ofString "|!;") (((cs.getD (Int.toNat 6) 0).fdiv 6).fmod 3)) xs) := hH3
    have hyl3 : ys3.length = 3 := hH3.length
    (repeat' (walk_at "S"; first | ((first | ((with_reducible show wpAny _ _ (eval (PySem.Expr.ListComp _ _ _ _) _) _ _ _); (k_dflt (refine LCg.ListComp_U (F₀ := by k_asm) (by with_unfolding_all rfl) (by decide) (by rfl) (by decide) (by rfl) ?_; lcg_toSrc))) | ((with_reducible show wpAny _ _ (exec (PySem.Stmt.Assign _ (PySem.Expr.ListComp _ _ _ _) _) _) _ _ _); refine wpAny_Assign_Name ?_)); all_goals (try walk_at "fq")) | walk_at "Z"))
    all_goals (try k_data)
    let JJ2 : JTc := fun news₀ i ys news' => An2 (news' = news₀) (ys = List.take i ys3)
    refine compU_inv JJ2 ⟨rfl, rfl⟩ (fun i ys news' h => ?s4) ?_ ?_
    case s4 =>
      obtain ⟨rfl, _⟩ := h
      exact .inr ⟨_, List.mem_cons_self .., rfl, _, rfl⟩
    · intro i ys4 news4 v I4 oI4 C4 oC4 D4 m₄ h4 tk4 E4 hi4 zj0 hv4 hC4 hx4 F8 N8 off4 ne4
      walk_at "fg"
      obtain ⟨rfl, rfl⟩ := zj0
      revert hv4; intro hv4; revert hC4; intro hC4; revert hx4; intro hx4; revert F8; intro F8; revert N8; intro N8; revert off4; intro off4; revert ne4; intro ne4
      walk_at "ug"
      (repeat' (walk_at "S"; walk_at "Z"))
      all_goals (try k_data)
      refine ⟨_, _, _, rfl, F8, N8, off4, ?_⟩
      unfold Kept
      exact ⟨rfl, take_snoc (by simpa using hv4)⟩
    · intro ys4 news4 zj0
      walk_at "fg"
      obtain ⟨rfl, hy4⟩ := zj0
      obtain rfl : ys3 = ys4 := by rw [hy4, List.size_toArray, List.take_length]
      clear hy4
      obtain ⟨hps0, hpz0⟩ := ps0_ok hmm hxo
      have hpl0 := hps0.pl
      walk_at "ug"
      (repeat' (walk_at "S"; (fail_if_success (with_reducible show wpAny _ _ (call (Value.ref 282) _ _) _ _ _)); walk_at "Z"))
      all_goals (try k_data)
      rename News _ _ _ _ => hN6
      rename Fr _ _ _ _ => hF6
      refine wpAny_call ?_
      refine' make_K ?zF ?zN ?zX ?zm ?zi ?zf ?_
      case zF => exact hF6
      case zN => exact hN6
      case zX => k_in
      case zm => k_is
      case zi => k_is
      case zf => k_is
      intro px pd hp1 Fp Np lp1 lp2
      have lp1' := lp1
      k_lt lp1'
      have lp2' := lp2
      k_lt2 lp2'
      refine' init_k w _ px pd _ ys3 (ps0 (Txt.item (PySem.Str.ofString "|!;") (((cs.getD (Int.toNat 6) 0).fdiv 6).fmod 3)) xs) ?q1 ?q2 ?q3 ?q4 ?q5 ?q6 ?q7 _ _ _ _ _ _ _ _ _ _ _ _ _ _ _ _ _ _ _ _ ?k1 ?k2 ?k3 ?k4 ?k5 ?kK ?kd ?ku ?_
      case k4 => exact Np
      case k2 => exact Fp
      case k1 => k_asm
      case k3 => k_asm
      case k5 => k_asm
      case kK => exact rfl
      case kd => exact Nat.le_of_ble_eq_true rfl
      case ku => exact Nat.le_of_ble_eq_true rfl
      case q1 => exact HL.mono (fun p hp => List.mem_cons_of_mem _ (List.mem_cons_of_mem _ (List.mem_cons_of_mem _ (List.mem_cons_of_mem _ (List.mem_cons_of_mem _ (List.mem_cons_of_mem _ hp)))))) hH3
      case q2 => exact List.mem_cons_self ..
      case q3 => exact Ne.symm (Nat.ne_of_lt lp2)
      case q4 => exact fun p hp => Nat.ne_of_lt (lp1 p hp)
      case q5 => omega
      case q6 => exact hpl0
      case q7 => exact hpz0
      intro kt9 h9 tk9 hN9
      obtain ⟨F9, N9⟩ := hN9
      clear Np Fp lp1 hN6 hF6
      refine ⟨rfl, ?_⟩
      (try dsimp only)
      (repeat' (walk_at "S"; (fail_if_success (with_reducible show wpAny _ _ (exec (Stmt.Assign _ (Expr.ListComp _ _ _ _) _) _) _ _ _)); (fail_if_success (with_reducible show wpAny _ _ (eval (Expr.ListComp _ _ _ _) _) _ _ _)); first | ((first | ((with_reducible show wpAny _ _ (eval (PySem.Expr.ListComp _ _ _ _) _) _ _ _); (k_dflt (refine LCg.ListComp_U (F₀ := by k_asm) (by with_unfolding_all rfl) (by decide) (by rfl) (by decide) (by rfl) ?_; lcg_toSrc))) | ((with_reducible show wpAny _ _ (exec (PySem.Stmt.Assign _ (PySem.Expr.ListComp _ _ _ _) _) _) _ _ _); refine wpAny_Assign_Name ?_)); all_goals (try walk_at "fq")) | walk_at "Z"))
      all_goals (try k_data)
      rename News _ _ _ _ => hN7
      rename (_ ∧ _ ∧ _ ∧ _ ∧ _ ∧ _ ∧ _ ∧ _ ∧ AllLt _ T3) => hpl9
      rename (_ ∧ _ ∧ _ ∧ _ ∧ _ ∧ LCg.Off1 _ T3) => hoa9
      rename (_ ∧ _ ∧ _ ∧ _ ∧ LCg.Off1 _ T3) => hob9
      obtain ⟨ah, al, apl, T5, rfl, rfl, rfl, hN8, mpx, mpd, mc4, mc5, mc6, mc7, hTT5, hXa, hXb, hXc, ne1, ne2, ne3, ne4, ne5⟩ := law_rs hN7 hoa9 hob9 hpl9 (by omega) (by omega) (by omega)
      clear hN7 hpl9 hoa9 hob9
      (repeat' (walk_at "S"; first | ((first | ((with_reducible show wpAny _ _ (eval (PySem.Expr.ListComp _ _ _ _) _) _ _ _); (k_dflt (refine LCg.ListComp_U (F₀ := by k_asm) (by with_unfolding_all rfl) (by decide) (by rfl) (by decide) (by rfl) ?_; lcg_toSrc))) | ((with_reducible show wpAny _ _ (exec (PySem.Stmt.Assign _ (PySem.Expr.ListComp _ _ _ _) _) _) _ _ _); refine wpAny_Assign_Name ?_)); all_goals (try walk_at "fq")) | walk_at "Z"))
      all_goals (try k_data)
      obtain ⟨hord, horl, hown⟩ := law_ord ho0 ho1
      obtain ⟨mkk, hmkk⟩ : ∃ y, y = (Txt.item (PySem.Str.ofString "|!;") (((cs.getD (Int.toNat 6) 0).fdiv 6).fmod 3)) := ⟨_, rfl⟩
      obtain ⟨ordd, hordd⟩ : ∃ y, y = orders6.getD ((cs.getD (Int.toNat 6) 0).fmod 6).toNat [] := ⟨_, rfl⟩
      rw [← hordd] at hord horl hown hvo
      rw [← hmkk] at hmm hml hH3
      have hTall : ∀ p ∈ T, p ∈ T5 := fun p hp => hTT5 p (hTT3 p (hTT2 p hp))
      have hT25 : ∀ p ∈ T2, p ∈ T5 := fun p hp => hTT5 p (hTT3 p hp)
      have hm15 := hTall _ hm1
      have hm25 := hTall _ hm2
      have hc35 := hT25 _ hc3
      have hd15 := hT25 _ hd1
      have hd25 := hT25 _ hd2
      have hao5 := hTall _ hao3
      have hHT := HL.mono hTT5 hH3
      let JJ3 : JTc := fun news₀ i ys news' => Ex7 fun vs lv pv n1 n2 n3 T6 => An7 (news' = (ah, W.listOf vs.toArray n1) :: (al, W.listOf lv.toArray n2) :: (apl, W.listOf pv.toArray n3) :: T6) (∀ p ∈ T5, p ∈ T6) (RI T6 vs lv pv mkk (dRn mkk (fun i => M i.toNat) ordd (fun k => xs.getD (Int.toNat (3 + k)) (PySem.Str.ofString "")) (d0 mkk xs) i) (54 * (i : Int)) (3 + 9 * i)) (∀ p ∈ T6, p.1 ≠ ah) (∀ p ∈ T6, p.1 ≠ al) (∀ p ∈ T6, p.1 ≠ apl) (IntsAre ys (List.take i [(dRn mkk (fun i => M i.toNat) ordd (fun k => xs.getD (Int.toNat (3 + k)) (PySem.Str.ofString "")) (d0 mkk xs) 1).r, (dRn mkk (fun i => M i.toNat) ordd (fun k => xs.getD (Int.toNat (3 + k)) (PySem.Str.ofString "")) (d0 mkk xs) 2).r, (dRn mkk (fun i => M i.toNat) ordd (fun k => xs.getD (Int.toNat (3 + k)) (PySem.Str.ofString "")) (d0 mkk xs) 3).r]))
      refine compU_inv JJ3
        ⟨ys3, ys3, [_, _, _], _, _, _, T5, rfl, fun p hp => hp, ri_start hmm hxo hHT ints3, hXa, hXb, hXc, .nil⟩ (fun i ys news' h => trivial) ?_ ?_
      · intro i ys6 news6 v I6 oI6 C6 oC6 D6 m6 h6 tk6 E6 hi6 zj0 zj1 hC6 hx6 F8 N8 off6 ne6
        walk_at "fg"
        obtain ⟨vs6, lv6, pv6, n1, n2, n3, T6, rfl, hTT6, hI6, hY1, hY2, hY3, hys6⟩ := zj0
        obtain ⟨tv, rfl⟩ := zj1
        revert hC6; intro hC6; revert hx6; intro hx6; revert F8; intro F8; revert N8; intro N8; revert off6; intro off6; revert ne6; intro ne6
        have hm16 := hTT6 _ hm15
        have hm26 := hTT6 _ hm25
        have hc36 := hTT6 _ hc35
        have hc46 := hTT6 _ mc4
        have hc56 := hTT6 _ mc5
        have hc66 := hTT6 _ mc6
        have hc76 := hTT6 _ mc7
        have hd16 := hTT6 _ hd15
        have hd26 := hTT6 _ hd25
        have hao6 := hTT6 _ hao5
        walk_at "ug"
        (repeat' (walk_at "S"; (fail_if_success (with_reducible show wpAny _ _ (call (Value.ref 326) _ _) _ _ _)); first | (((with_reducible show wpAny _ _ (subscriptTail _ (PySem.Expr.Slice _ _ none _) (Value.ref _) (Value.ref _)) _ _ _); k_dflt (refine' kmk_slice ?Fy333 ?Ny333 ?ly333 ?py333 ?qy333 ?_ ?sy333 ?ty333 ?zy333; (case Fy333 => k_asm); (case Ny333 => k_asm); (case ly333 => exact my_isl (by k_asm) (by k_mem)); (case py333 => constructor); (case qy333 => constructor); (case sy333 => with_unfolding_all rfl); (case ty333 => intro _; rfl); (case zy333 => (rw [sizeLine_eq, List.size_toArray]; omega)); intro _ _ _ _ _)); all_goals (try walk_at "fq")) | walk_at "Z"))
        all_goals (try k_data)
        rename ∀ p ∈ (_ : LLed), p.1 < _ => l9
        rw [← hmkk]
        refine' Ctr.use (round_turn w px pd ah al apl D2 ao _ I6 C6 D6 oI6 oC6 _ kt9 mkk _ ra rv rn M vo ordd ws xs tw T6 ?r1 ?r2 hd26 ?r3 hM hMl hMv hao6 hvo horl hown hwl hLW6 hxo hmm vs6 lv6 pv6 n1 n2 n3 _ i hi6 hI6 ne1 ne2 ne3 ne4 ne5 hY1 hY2 hY3 off6 l9) ?k1 ?k2 ?k3 ?k4 ?k5 ?kK ?kd ?ku ?_
        walk_at "my_use"
        case r1 => exact hTT6 _ mpx
        case r2 => exact hTT6 _ mpd
        case r3 => exact fun k hk => hTT6 _ (hT25 _ (hrr k hk))
        intro vs7 lv7 pv7 m1 m2 m3 T7 t9 h9 tk9 hTT7 hI7 hZ1 hZ2 hZ3 off7 hN9
        obtain ⟨F9, N9⟩ := hN9
        (try dsimp only)
        (try k_fold)
        (repeat' (walk_at "S"; walk_at "Z"))
        all_goals (try k_data)
        refine ⟨_, _, _, rfl, F9, N9, off7, ?_⟩
        unfold Kept
        refine ⟨vs7, lv7, pv7, m1, m2, m3, T7, rfl, fun p hp => hTT7 p (hTT6 p hp), ?i1, hZ1, hZ2, hZ3, ?_⟩
        case i1 => exact hI7
        exact int3 (fun i => (dRn mkk (fun i => M i.toNat) ordd (fun k => xs.getD (Int.toNat (3 + k)) (PySem.Str.ofString "")) (d0 mkk xs) (i + 1)).r) hys6 hi6 rfl
      · intro ys6 news6 zj0
        walk_at "fg"
        obtain ⟨vs6, lv6, pv6, n1, n2, n3, T6, rfl, hTT6, hI6, hY1, hY2, hY3, hys6⟩ := zj0
        have hm16 := hTT6 _ hm15
        have hm26 := hTT6 _ hm25
        have hc36 := hTT6 _ hc35
        have hc46 := hTT6 _ mc4
        have hc56 := hTT6 _ mc5
        have hc66 := hTT6 _ mc6
        have hc76 := hTT6 _ mc7
        have hd16 := hTT6 _ hd15
        have hd26 := hTT6 _ hd25
        have hao6 := hTT6 _ hao5
        walk_at "ug"
        (repeat' (walk_at "S"; first | ((first | ((with_reducible show wpAny _ _ (eval (PySem.Expr.ListComp _ _ _ _) _) _ _ _); (k_dflt (refine LCg.ListComp_U (F₀ := by k_asm) (by with_unfolding_all rfl) (by decide) (by rfl) (by decide) (by rfl) ?_; lcg_toSrc))) | ((with_reducible show wpAny _ _ (exec (PySem.Stmt.Assign _ (PySem.Expr.ListComp _ _ _ _) _) _) _ _ _); refine wpAny_Assign_Name ?_)); all_goals (try walk_at "fq")) | walk_at "Z"))
        all_goals (try k_data)
        have hl6 := hTT6 _ (hTall _ hl)
        have hLO6 := hLO2.mono (fun p hp => hTT6 _ (hTall p hp))
        refine' assign_listcomp_cell (fun i ys => IntsAre ys (List.take i (List.map (costD (fun i => M i.toNat)) orders6))) ?u0 ?u1 ?u2 ?u3 ?u4 ?u5 ?u6 ?u7 ?u8 ?u9 ?ua ?ub ?_
        case u0 => k_asm
        case u1 => rfl
        case u2 => with_unfolding_all rfl
        case u3 => with_unfolding_all rfl
        case u4 => exact fun _ => rfl
        case u5 => exact fun _ => rfl
        case u6 => rfl
        case u7 => decide
        case u8 => rfl
        case u9 => rfl
        case ua => rfl
        case ub => exact .nil
        (repeat' (walk_at "S"; first | (((with_reducible show wpAny _ _ (subscriptTail _ _ (Value.ref _) (Value.int _ _)) _ _ _); k_dflt (refine' my_itemL ?Ny428 ?my428 ?xy428 ?h0y428 ?hiy428 ?hny428 ?_; (case Ny428 => k_asm); (case my428 => k_mem); (case xy428 => assumption); (case h0y428 => omega); (case hiy428 => omega); (case hny428 => decide); (try dsimp only))); all_goals (try walk_at "fq")) | walk_at "Z"))
        all_goals (try k_data)
        rename Fr _ _ _ _ => hF7
        rename News _ _ _ _ => hN7
        refine' CellSrc.intro ?zH hF7 hN7 ?mO ?zO ?_ ?_
        case mO => exact List.mem_cons_of_mem _ (List.mem_cons_of_mem _ (List.mem_cons_of_mem _ (List.mem_cons_of_mem _ hl6)))
        case zH => rfl
        case zO => (show 6 ≤ _; rw [sizeLine_eq]; omega)
        · intro i v ys7 X7 oX7 I7 oI7 C7 oC7 D7 h7 tk7 E7 hv7 hJ7 hX7 F8 N8
          have hi7 : i < 6 := (Array.getElem?_eq_some_iff.mp hv7).1
          obtain ⟨ai, vi, e1, e2, e3⟩ := hLO6 i hi7
          obtain rfl : v = .ref ai := Option.some.inj (hv7.symm.trans (by simpa using e1))
          obtain ⟨oi, hoi⟩ : ∃ y, y = orders6.getD i [] := ⟨_, rfl⟩
          rw [← hoi] at e3
          have hoil : oi.length = 3 := by rw [hoi]; exact ord_len hi7
          have hfar6 := lv_six (ra := ra)
          (repeat' (walk_at "S"; first | ((first | ((with_reducible show wpAny _ _ (eval (PySem.Expr.ListComp _ _ _ _) _) _ _ _); (k_dflt (refine LCg.ListComp_U (F₀ := by k_asm) (by with_unfolding_all rfl) (by decide) (by rfl) (by decide) (by rfl) ?_; lcg_toSrc))) | ((with_reducible show wpAny _ _ (exec (PySem.Stmt.Assign _ (PySem.Expr.ListComp _ _ _ _) _) _) _ _ _); refine wpAny_Assign_Name ?_) | ((with_reducible show wpAny _ _ (subscriptTail _ _ (Value.ref _) (Value.int _ _)) _ _ _); k_dflt (refine' my_itemL ?Ny458 ?my458 ?xy458 ?h0y458 ?hiy458 ?hny458 ?_; (case Ny458 => k_asm); (case my458 => k_mem); (case xy458 => assumption); (case h0y458 => omega); (case hiy458 => omega); (case hny458 => decide); (try dsimp only)))); all_goals (try walk_at "fq")) | walk_at "Z"))
          all_goals (try k_data)
          let JJ4 : JTc := fun news₀ i ys news' => An2 (news' = news₀) (IntsAre ys (List.take i [(M 0).getD (3 + oi.getD 0 0).toNat 0, (M 1).getD (3 + oi.getD 1 0).toNat 0, (M 2).getD (3 + oi.getD 2 0).toNat 0]))
          refine compU_inv JJ4 ⟨rfl, .nil⟩ (fun i ys news' h => trivial) ?_ ?_
          · intro j ys8 news8 v8 I8 oI8 C8 oC8 D8 m8 h8 tk8 E8 hj8 zj0 zj1 hC8 hx8 F9 N9 off9 ne9
            walk_at "fg"
            obtain ⟨rfl, hys8⟩ := zj0
            obtain ⟨tv, rfl⟩ := zj1
            revert hC8; intro hC8; revert hx8; intro hx8; revert F9; intro F9; revert N9; intro N9; revert off9; intro off9; revert ne9; intro ne9
            obtain ⟨k, hk⟩ : ∃ k : Int, k = 0 + (j : Int) := ⟨_, rfl⟩
            rw [← hk] at hx8
            have k0 : 0 ≤ k := kk0 hk
            have k1 : k < 3 := kk1 hk hj8
            have k2 : k < 2 ^ 63 := Int.lt_trans k1 (by decide)
            have hrow' := hTT6 _ (hT25 _ (hrr k.toNat (by omega)))
            have hrv := hM k.toNat (by omega)
            have hrl := hMl k.toNat (by omega)
            obtain ⟨ob0, ob1⟩ := ord_bd hi7 k k0 k1
            rw [← hoi] at ob0 ob1
            walk_at "ug"
            (repeat' (walk_at "S"; first | (((with_reducible show wpAny _ _ (subscriptTail _ _ (Value.ref _) (Value.int _ _)) _ _ _); k_dflt (refine' my_itemL ?Ny488 ?my488 ?xy488 ?h0y488 ?hiy488 ?hny488 ?_; (case Ny488 => k_asm); (case my488 => k_mem); (case xy488 => assumption); (case h0y488 => omega); (case hiy488 => omega); (case hny488 => decide); (try dsimp only))); all_goals (try walk_at "fq")) | walk_at "Z"))
            all_goals (try k_data)
            (try dsimp only)
            rename Fr _ _ _ _ => hF5
            rename News _ _ _ _ => hN5
            refine ⟨_, _, _, rfl, hF5, hN5, off9, ?_⟩
            unfold Kept
            refine ⟨rfl, ?_⟩
            exact int3 (fun j => (M j).getD (3 + oi.getD j 0).toNat 0) hys8 hj8 (congrArg (fun j => (M j).getD (3 + oi.getD j 0).toNat 0) (kk2 hk))
          · intro ys8 news8 zj0
            walk_at "fg"
            obtain ⟨rfl, hys8⟩ := zj0
            have hys8 : IntsAre ys8 [(M 0).getD (3 + oi.getD 0 0).toNat 0, (M 1).getD (3 + oi.getD 1 0).toNat 0, (M 2).getD (3 + oi.getD 2 0).toNat 0] := hys8
            walk_at "ug"
            (repeat' (walk_at "S"; walk_at "Z"))
            all_goals (try k_data)
            rename Fr _ _ _ _ => hF5
            rename News _ _ _ _ => hN5
            refine ⟨_, _, rfl, hF5, News.sub hN5 (fun p hp => List.mem_cons_of_mem _ hp), ?_⟩
            rw [take_cost hi7, ← hoi]
            refine int_snoc hJ7 ?_
            rw [cost_of (fun k k0 k1 => hoi ▸ ord_bd hi7 k k0 k1)]
            omega
        · intro ys7 D7 h7 tk7 hJ7 F8 N8 l8
          have hJ7 : IntsAre ys7 (List.map (costD (fun i => M i.toNat)) orders6) := hJ7
          have hD06 := hTT6 _ (hTall _ hD0)
          have hpx6 := hTT6 _ mpx
          have hpd6 := hTT6 _ mpd
          have hys6' : IntsAre ys6 [(dRn mkk (fun i => M i.toNat) ordd (fun k => xs.getD (Int.toNat (3 + k)) (PySem.Str.ofString "")) (d0 mkk xs) 1).r, (dRn mkk (fun i => M i.toNat) ordd (fun k => xs.getD (Int.toNat (3 + k)) (PySem.Str.ofString "")) (d0 mkk xs) 2).r, (dRn mkk (fun i => M i.toNat) ordd (fun k => xs.getD (Int.toNat (3 + k)) (PySem.Str.ofString "")) (d0 mkk xs) 3).r] := hys6
          have hI7 : RI T6 vs6 lv6 pv6 mkk (dRn mkk (fun i => M i.toNat) ordd (fun k => xs.getD (Int.toNat (3 + k)) (PySem.Str.ofString "")) (d0 mkk xs) 3) 162 30 := hI6
          have hok := lw_okd hmm hxo hMv hord 3 (Nat.le_refl _)
          have hth := fun (M9 : Int) a b => lw_third (mk := mkk) (xs := xs) (M := M) (M9 := M9) hord a b
          have hrs := fun h => lw_rest (mk := mkk) hord hxo hMv h rfl hok.l
          clear hI6 hys6
          generalize (dRn mkk (fun i => M i.toNat) ordd (fun k => xs.getD (Int.toNat (3 + k)) (PySem.Str.ofString "")) (d0 mkk xs) 3) = d3 at hys6' hI7 hok hth hrs
          generalize (dRn mkk (fun i => M i.toNat) ordd (fun k => xs.getD (Int.toNat (3 + k)) (PySem.Str.ofString "")) (d0 mkk xs) 1).r = r1 at hys6'
          generalize (dRn mkk (fun i => M i.toNat) ordd (fun k => xs.getD (Int.toNat (3 + k)) (PySem.Str.ofString "")) (d0 mkk xs) 2).r = r2 at hys6'
          have hvl6 : vs6.length ≤ 1000 := by rw [hI7.hv.length]; have := hI7.hc; omega
          have hpl6 : AllPl d3.ps := hok.ok.pl
          (try dsimp only)
          (repeat' (walk_at "S"; (fail_if_success (with_reducible show wpAny _ _ (compareOp _ (Value.ref _) (Value.ref _)) _ _ _)); first | (((with_reducible show wpAny _ _ (call (Value.ref 246) _ _) _ _ _); k_dflt (refine' Ctr.use (items_m _ _ _ _ _ _ _ _ ?g4y542 ?g5y542 ?g6y542 ?g7y542) ?k1y542 ?k2y542 ?k3y542 ?k4y542 ?k5y542 ?kKy542 ?kdy542 ?kuy542 ?_; (case k1y542 => k_asm); (case k2y542 => k_asm); (case k3y542 => k_asm); (case k4y542 => k_asm); (case k5y542 => k_asm); (case kKy542 => first | exact rfl | assumption); (case kdy542 => ((try dsimp +zetaDelta only); first | exact dm1 (by with_reducible assumption) rfl | ktr_room)); (case kuy542 => ((try dsimp +zetaDelta only); first | exact um1 (by with_reducible assumption) rfl | ktr_units)); (case g5y542 => k_mem); (case g6y542 => k_mem); (case g7y542 => k_mem); (case g4y542 => assumption); (rintro _ _ _ ⟨_, _⟩ _; (try dsimp only); (try k_fold)))); all_goals (try walk_at "fq")) | walk_at "Z"))
          all_goals (try k_data)
          dsimp only [qk]
          (repeat' (walk_at "S"; (fail_if_success (with_reducible show wpAny _ _ (compareOp _ (Value.ref _) (Value.ref _)) _ _ _)); first | (((with_reducible show wpAny _ _ (call (Value.ref 246) _ _) _ _ _); k_dflt (refine' Ctr.use (items_m _ _ _ _ _ _ _ _ ?g4y572 ?g5y572 ?g6y572 ?g7y572) ?k1y572 ?k2y572 ?k3y572 ?k4y572 ?k5y572 ?kKy572 ?kdy572 ?kuy572 ?_; (case k1y572 => k_asm); (case k2y572 => k_asm); (case k3y572 => k_asm); (case k4y572 => k_asm); (case k5y572 => k_asm); (case kKy572 => first | exact rfl | assumption); (case kdy572 => ((try dsimp +zetaDelta only); first | exact dm1 (by with_reducible assumption) rfl | ktr_room)); (case kuy572 => ((try dsimp +zetaDelta only); first | exact um1 (by with_reducible assumption) rfl | ktr_units)); (case g5y572 => k_mem); (case g6y572 => k_mem); (case g7y572 => k_mem); (case g4y572 => assumption); (rintro _ _ _ ⟨_, _⟩ _; (try dsimp only); (try k_fold)))); all_goals (try walk_at "fq")) | walk_at "Z"))
          all_goals (try k_data)
          rename News _ _ _ _ => hN5
          refine' hl_ne (vs := vs6) (ws := lv6) (ps := d3.ps) (qs := d3.ps) hN5 ?m1 ?m2 ?m3 ?m4 hpl6 hpl6 ?hu ?_
          case m1 => exact List.mem_cons_self ..
          case m2 => exact List.mem_cons_of_mem _ (List.mem_cons_of_mem _ (List.mem_cons_of_mem _ (List.mem_cons_of_mem _ (List.mem_cons_self ..))))
          case m3 => exact HL.mono (fun p hp => mem_six hp) hI7.hv
          case m4 => exact HL.mono (fun p hp => mem_six hp) hI7.hl
          case hu => ((try dsimp +zetaDelta only); ktr_units)
          rw [decide_eq_true (rfl : d3.ps = d3.ps)]
          (repeat' (walk_at "S"; (fail_if_success (with_reducible show wpAny _ _ (compareOp _ _ _) _ _ _)); first | ((first | ((with_reducible show wpAny _ _ (call (Value.builtin "min") [Value.ref _]) _ _ _); k_dflt (refine' min_list_N ?hhy601 ?Fy601 ?Ny601 ?ly601 ?iy601 ?ny601 ?_; (case hhy601 => rfl); (case Fy601 => k_asm); (case Ny601 => k_asm); (case ly601 => exact my_isl (by k_asm) (by k_mem)); (case iy601 => assumption); (case ny601 => exact (show 0 < 6 from by decide))); (intro _ _ _ _ _ _ _ _); (try dsimp only); (try k_fold)) | ((with_reducible show wpAny _ _ (call (Value.ref 246) _ _) _ _ _); k_dflt (refine' Ctr.use (items_m _ _ _ _ _ _ _ _ ?g4y602 ?g5y602 ?g6y602 ?g7y602) ?k1y602 ?k2y602 ?k3y602 ?k4y602 ?k5y602 ?kKy602 ?kdy602 ?kuy602 ?_; (case k1y602 => k_asm); (case k2y602 => k_asm); (case k3y602 => k_asm); (case k4y602 => k_asm); (case k5y602 => k_asm); (case kKy602 => first | exact rfl | assumption); (case kdy602 => ((try dsimp +zetaDelta only); first | exact dm1 (by with_reducible assumption) rfl | ktr_room)); (case kuy602 => ((try dsimp +zetaDelta only); first | exact um1 (by with_reducible assumption) rfl | ktr_units)); (case g5y602 => k_mem); (case g6y602 => k_mem); (case g7y602 => k_mem); (case g4y602 => assumption); (rintro _ _ _ ⟨_, _⟩ _; (try dsimp only); (try k_fold))))); all_goals (try walk_at "fq")) | walk_at "Z"))
          all_goals (try k_data)
          walk1
          (repeat' (walk_at "S"; (fail_if_success (with_reducible show wpAny _ _ (compareOp _ _ _) _ _ _)); first | ((first | ((with_reducible show wpAny _ _ (call (Value.builtin "min") [Value.ref _]) _ _ _); k_dflt (refine' min_list_N ?hhy631 ?Fy631 ?Ny631 ?ly631 ?iy631 ?ny631 ?_; (case hhy631 => rfl); (case Fy631 => k_asm); (case Ny631 => k_asm); (case ly631 => exact my_isl (by k_asm) (by k_mem)); (case iy631 => assumption); (case ny631 => exact (show 0 < 6 from by decide))); (intro _ _ _ _ _ _ _ _); (try dsimp only); (try k_fold)) | ((with_reducible show wpAny _ _ (call (Value.ref 246) _ _) _ _ _); k_dflt (refine' Ctr.use (items_m _ _ _ _ _ _ _ _ ?g4y632 ?g5y632 ?g6y632 ?g7y632) ?k1y632 ?k2y632 ?k3y632 ?k4y632 ?k5y632 ?kKy632 ?kdy632 ?kuy632 ?_; (case k1y632 => k_asm); (case k2y632 => k_asm); (case k3y632 => k_asm); (case k4y632 => k_asm); (case k5y632 => k_asm); (case kKy632 => first | exact rfl | assumption); (case kdy632 => ((try dsimp +zetaDelta only); first | exact dm1 (by with_reducible assumption) rfl | ktr_room)); (case kuy632 => ((try dsimp +zetaDelta only); first | exact um1 (by with_reducible assumption) rfl | ktr_units)); (case g5y632 => k_mem); (case g6y632 => k_mem); (case g7y632 => k_mem); (case g4y632 => assumption); (rintro _ _ _ ⟨_, _⟩ _; (try dsimp only); (try k_fold)))) | ((with_reducible show wpAny _ _ (subscriptTail _ _ (Value.ref _) (Value.int _ _)) _ _ _); k_dflt (refine' my_itemL ?Ny638 ?my638 ?xy638 ?h0y638 ?hiy638 ?hny638 ?_; (case Ny638 => k_asm); (case my638 => k_mem); (case xy638 => assumption); (case h0y638 => omega); (case hiy638 => omega); (case hny638 => decide); (try dsimp only)))); all_goals (try walk_at "fq")) | walk_at "Z"))
          all_goals (try k_data)
          rw [cost_at (by omega), ← hordd]
          rename _ ∈ List.map _ orders6 => hM9
          rename ∀ a ∈ List.map _ orders6, _ ≤ a => hA9
          have hth9 := hth _ hM9 hA9
          walk1
          (repeat' (walk_at "S"; (fail_if_success (with_reducible show wpAny _ _ (compareOp _ _ _) _ _ _)); first | ((first | ((with_reducible show wpAny _ _ (call (Value.builtin "min") [Value.ref _]) _ _ _); k_dflt (refine' min_list_N ?hhy661 ?Fy661 ?Ny661 ?ly661 ?iy661 ?ny661 ?_; (case hhy661 => rfl); (case Fy661 => k_asm); (case Ny661 => k_asm); (case ly661 => exact my_isl (by k_asm) (by k_mem)); (case iy661 => assumption); (case ny661 => exact (show 0 < 6 from by decide))); (intro _ _ _ _ _ _ _ _); (try dsimp only); (try k_fold)) | ((with_reducible show wpAny _ _ (subscriptTail _ _ (Value.ref _) (Value.int _ _)) _ _ _); k_dflt (refine' my_itemL ?Ny668 ?my668 ?xy668 ?h0y668 ?hiy668 ?hny668 ?_; (case Ny668 => k_asm); (case my668 => k_mem); (case xy668 => assumption); (case h0y668 => omega); (case hiy668 => omega); (case hny668 => decide); (try dsimp only)))); all_goals (try walk_at "fq")) | walk_at "Z"))
          all_goals (try k_data)
          dsimp only [qk]
          (repeat' (walk_at "S"; (fail_if_success (with_reducible show wpAny _ _ (compareOp _ _ _) _ _ _)); first | ((first | ((with_reducible show wpAny _ _ (call (Value.builtin "min") [Value.ref _]) _ _ _); k_dflt (refine' min_list_N ?hhy691 ?Fy691 ?Ny691 ?ly691 ?iy691 ?ny691 ?_; (case hhy691 => rfl); (case Fy691 => k_asm); (case Ny691 => k_asm); (case ly691 => exact my_isl (by k_asm) (by k_mem)); (case iy691 => assumption); (case ny691 => exact (show 0 < 6 from by decide))); (intro _ _ _ _ _ _ _ _); (try dsimp only); (try k_fold)) | ((with_reducible show wpAny _ _ (subscriptTail _ _ (Value.ref _) (Value.int _ _)) _ _ _); k_dflt (refine' my_itemL ?Ny698 ?my698 ?xy698 ?h0y698 ?hiy698 ?hny698 ?_; (case Ny698 => k_asm); (case my698 => k_mem); (case xy698 => assumption); (case h0y698 => omega); (case hiy698 => omega); (case hny698 => decide); (try dsimp only)))); all_goals (try walk_at "fq")) | walk_at "Z"))
          all_goals (try k_data)
          rw [show [r1, r2, d3.r].getD (Int.toNat 2) 0 = d3.r from rfl, show (costD (fun i => M i.toNat) ordd == _) = (d3.r == 0) from Bool.eq_iff_iff.mpr ⟨fun h => beq_iff_eq.mpr (hth9.mpr (beq_iff_eq.mp h)), fun h => beq_iff_eq.mpr (hth9.mp (beq_iff_eq.mp h))⟩]
          by_cases h0 : d3.r = 0
          · rw [show (d3.r == 0) = true from beq_iff_eq.mpr h0]
            walk1
            (repeat' (walk_at "S"; (fail_if_success (with_reducible show wpAny _ _ (compareOp _ _ _) _ _ _)); first | (((with_reducible show wpAny _ _ (subscriptTail _ _ (Value.ref _) (Value.int _ _)) _ _ _); k_dflt (refine' my_itemL ?Ny728 ?my728 ?xy728 ?h0y728 ?hiy728 ?hny728 ?_; (case Ny728 => k_asm); (case my728 => k_mem); (case xy728 => assumption); (case h0y728 => omega); (case hiy728 => omega); (case hny728 => decide); (try dsimp only))); all_goals (try walk_at "fq")) | walk_at "Z"))
            all_goals (try k_data)
            rw [show [r1, r2, d3.r].getD (Int.toNat 2) 0 = d3.r from rfl]
            walk1
            rw [show (d3.r == 0) = true from beq_iff_eq.mpr h0]
            (repeat' (walk_at "S"; (fail_if_success (with_reducible show wpAny _ _ (call (Value.ref 336) _ _) _ _ _)); first | (((with_reducible show wpAny _ _ (subscriptTail _ _ (Value.ref _) (Value.int _ _)) _ _ _); k_dflt (refine' my_itemL ?Ny758 ?my758 ?xy758 ?h0y758 ?hiy758 ?hny758 ?_; (case Ny758 => k_asm); (case my758 => k_mem); (case xy758 => assumption); (case h0y758 => omega); (case hiy758 => omega); (case hny758 => decide); (try dsimp only))); all_goals (try walk_at "fq")) | walk_at "Z"))
            all_goals (try k_data)
            rename News _ _ _ _ => hN9
            have hN10 : News _ _ _ ((ah, W.listOf vs6.toArray n1) :: (al, W.listOf lv6.toArray n2) :: T6) := News.sub hN9 law_n10
            clear hN9
            refine' Ctr.use (law_restc w px pd ah al D2 ao kt9 mkk ra rv rn M vo ordd xs T6 hpx6 hpd6 hd26 (fun k hk => hTT6 _ (hT25 _ (hrr k hk))) hM hMl hao6 hvo horl hown hord hxo hmm vs6 lv6 pv6 n1 n2 d3 hI7 hok ne1 ne4 ne5 hY1 (hrs h0).1 (hrs h0).2) ?k1 ?k2 ?k3 ?k4 ?k5 ?kK ?kd ?ku ?_
            walk_at "my_use"
            intro h10 tk10 hN11
            obtain ⟨F11, N11⟩ := hN11
            (try dsimp only)
            (try k_fold)
            (repeat' (walk_at "S"; (fail_if_success (with_reducible show wpAny _ _ (call (Value.ref 341) _ _) _ _ _)); walk_at "Z"))
            all_goals (try k_data)
            rw [← hmkk]
            refine' refused_c w _ mkk hmm _ _ _ _ _ _ _ _ _ _ _ _ _ _ _ _ _ _ _ ?B ?F ?X ?T rfl ?d ?u ?_
            case B => k_asm
            case F => k_asm
            case X => k_asm
            case T => k_asm
            case d => ((try dsimp +zetaDelta only); ktr_room)
            case u => ((try dsimp +zetaDelta only); ktr_units)
            intro h12 tk12 hk12
            (repeat' (walk_at "S"; walk_at "Z"))
            all_goals (try k_data)
            exact goodW_true hk12 (by with_reducible assumption) (law_raises _) (law_post _) rfl
          · rw [show (d3.r == 0) = false from beq_eq_false_iff_ne.mpr h0]
            walk1
            (repeat' (walk_at "S"; (fail_if_success (with_reducible show wpAny _ _ (compareOp _ _ _) _ _ _)); first | (((with_reducible show wpAny _ _ (subscriptTail _ _ (Value.ref _) (Value.int _ _)) _ _ _); k_dflt (refine' my_itemL ?Ny848 ?my848 ?xy848 ?h0y848 ?hiy848 ?hny848 ?_; (case Ny848 => k_asm); (case my848 => k_mem); (case xy848 => assumption); (case h0y848 => omega); (case hiy848 => omega); (case hny848 => decide); (try dsimp only))); all_goals (try walk_at "fq")) | walk_at "Z"))
            all_goals (try k_data)
            rw [show [r1, r2, d3.r].getD (Int.toNat 2) 0 = d3.r from rfl]
            walk1
            rw [show (d3.r == 0) = false from beq_eq_false_iff_ne.mpr h0]
            (repeat' (walk_at "S"; (fail_if_success (with_reducible show wpAny _ _ (call (Value.ref 341) _ _) _ _ _)); walk_at "Z"))
            all_goals (try k_data)
            rw [← hmkk]
            refine' refused_c w _ mkk hmm _ _ _ _ _ _ _ _ _ _ _ _ _ _ _ _ _ _ _ ?B ?F ?X ?T rfl ?d ?u ?_
            case B => k_asm
            case F => k_asm
            case X => k_asm
            case T => k_asm
            case d => ((try dsimp +zetaDelta only); ktr_room)
            case u => ((try dsimp +zetaDelta only); ktr_units)
            intro h12 tk12 hk12
            (repeat' (walk_at "S"; walk_at "Z"))
            all_goals (try k_data)
            exact goodW_true hk12 (by with_reducible assumption) (law_raises _) (law_post _) rfl
end
end Mine
theorem PySem.Challenge.cw_wo0075_01_holds : PySem.Challenge.rw_wo0075_01.Holds :=
  Mine.lawt
