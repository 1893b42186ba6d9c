import PyProof.Rows.All
import Wide.All
import OpenK.AllK
import Wide.FinOn
import PyProof.Rows.ExtendIn
import Lean
import PySem.Challenge.RW_ul0027_01
open PySem PySem.W PyProof.Rows PySem.Calls PySem.Spec
set_option Elab.async false
set_option compiler.extract_closed false
set_option maxRecDepth 100000
namespace Ul
section
open PySem PySem.W PyProof.Rows
/-! the run of a top over a tree of objects, at once -/
def impT (st : SharedT → Thread → Option (SharedT × Thread)) : Nat → SharedT → Thread → Option SharedT
  | 0, _, _ => none
  | n + 1, s, t => match t.atExitBegin with
    | some [] => some s
    | some (_ :: _) => none
    | none => match st s t with
      | some (s', t') => impT st n s' t'
      | none => none
theorem impT_of {tb : String → Option Builtin} {p : Program} {w : World} : ∀ {n : Nat} {s s' : SharedT} {t : Thread}, impT (stepT (denote tb) p w) n s t = some s' → importEnds tb p w n s.abs t = some s'.abs
  | 0, _, _, _, h => by cases h
  | n + 1, s, s', t, h => by
    unfold impT at h
    unfold importEnds
    cases ht : t.atExitBegin with
    | some l =>
      rw [ht] at h
      cases l with
      | nil => cases h; rfl
      | cons a b => cases h
    | none =>
      rw [ht] at h
      cases hs : stepT (denote tb) p w s t with
      | none => rw [hs] at h; cases h
      | some r => obtain ⟨s₂, t₂⟩ := r; rw [hs] at h; dsimp only; rw [stepT_spec hs]; exact impT_of h
def treeAdd : List Obj → BT → Nat → Option BT
  | [], t, _ => some t
  | o :: r, t, n => match ((t.ins n o).get n).isSome with
    | true => treeAdd r (t.ins n o) (n + 1)
    | false => none
theorem treeAdd_of {life : Life} : ∀ {l : List Obj} {t t' : BT} {n : Nat}, treeAdd l t n = some t' → (absHeap t' (n + l.length) life).objs = (absHeap t n life).objs ++ l.toArray
  | [], t, t', n, h => by cases h; simp
  | o :: r, t, t', n, h => by
    unfold treeAdd at h
    cases g : ((t.ins n o).get n).isSome with
    | false => rw [g] at h; cases h
    | true =>
      rw [g] at h
      have ih := treeAdd_of (life := life) h
      have e : (absHeap (t.ins n o) (n + 1) life).objs = (absHeap t n life).objs.push o := congrArg Heap.objs (absHeap_ins (life := life) g)
      rw [e] at ih
      rw [List.length_cons, show n + (r.length + 1) = n + 1 + r.length by omega, ih]
      simp
def toT (s : Shared) : Option SharedT := match treeAdd s.heap.objs.toList .nil 0 with
  | some t => some ⟨t, s.heap.objs.toList.length, s.heap.life, s.gens, s.drawn, s.toks, s.os⟩
  | none => none
theorem toT_of {s : Shared} {r : SharedT} (h : toT s = some r) : r.abs = s := by
  unfold toT at h
  cases g : treeAdd s.heap.objs.toList .nil 0 with
  | none => rw [g] at h; cases h
  | some t =>
    rw [g] at h
    cases h
    have e := treeAdd_of (life := s.heap.life) g
    rw [Nat.zero_add] at e
    obtain ⟨⟨objs, life⟩, gens, drawn, toks, os⟩ := s
    show (⟨absHeap t objs.toList.length life, gens, drawn, toks, os⟩ : Shared) = _
    have e2 : absHeap t objs.toList.length life = ⟨objs, life⟩ := by
      have : (absHeap t objs.toList.length life).objs = objs := by rw [e]; simp [absHeap, BT.list]
      show Heap.mk _ _ = _
      exact congrArg (Heap.mk · life) this
    rw [e2]
/-- the opening over a tree; st: the step, S: the start -/
def openT (st : SharedT → Thread → Option (SharedT × Thread)) (S : Shared × Thread) (p : Program) (N : Nat) : Option Shared :=
  (toT S.1).bind fun s => (impT st N s S.2).bind fun s1 => fenceModules? p s1.abs
theorem openT_of {p : Program} {w : World} {N : Nat} {s : Shared} {st : SharedT → Thread → Option (SharedT × Thread)} {S : Shared × Thread} (hst : stepT (denote treeTable) (opening p) w = st) (hS : start (opening p) = S)
    (h : openT st S p N = some s) : fencedOpening treeTable p w N = some s := by
  subst hst; subst hS
  obtain ⟨r, a, h⟩ := Option.bind_eq_some_iff.mp h
  obtain ⟨r1, b, h⟩ := Option.bind_eq_some_iff.mp h
  have c := impT_of b
  rw [toT_of a] at c
  unfold fencedOpening
  rw [c]
  exact h
/-- the library's quick twins of the step -/
noncomputable def stQ (p : Program) (w : World) : SharedT → Thread → Option (SharedT × Thread) := PySem.W.Fast.tw10156331382660048174 (PySem.W.Fast.tw11892475500146522536 PySem.W.Fast.tw14364793385576792824) p w
theorem stQ_eq (p : Program) (w : World) : stepT (denote treeTable) p w = stQ p w := by
  rw [PySem.W.Fast.te10156331382660048174, PySem.W.Fast.te11892475500146522536, PySem.W.Fast.te14364793385576792824]; rfl
noncomputable def startQ (p : Program) : Shared × Thread := PySem.W.Fast.tw1435165496053646825 p
theorem startQ_eq (p : Program) : start p = startQ p := by rw [PySem.W.Fast.te1435165496053646825]; rfl
end
section
open PySem PySem.W PyProof.Rows
def keptIdx : List Nat := (List.range 73).filter fun i => !([2, 55, 59, 61, 63] : List Nat).contains i
def qv : Program := view PySem.Challenge.rw_ul0027_01.row.prog keptIdx
def looseNames : List Str := [Str.ofString "EXACT_TOKEN_TYPES", Str.ofString "tspecials", Str.ofString "_name_disallowed_re", Str.ofString "_value_disallowed_re", Str.ofString "_formatparam"]
section
local macro_rules | `(tactic| o_head $_) => `(tactic| assumption)
theorem frag (hrow : PySem.Challenge.rw_ul0027_01.row.Holds) : PySem.Challenge.rw_ul0027_01.row.Holds := by
  k_head
end
def addrs : List Addr := [2, 3, 32, 34, 35, 37, 38, 39, 42, 44, 45, 47, 48, 49, 51, 52, 54, 55, 59, 60, 64, 65, 69, 70, 71, 72, 74, 75, 77, 78, 86, 87, 89, 90, 92, 93, 94, 96, 97, 99, 100, 101, 103, 104, 106, 107, 108, 110, 111, 113, 114, 115, 118, 119, 120, 122, 123, 125, 126, 127, 129, 130, 132, 133, 134, 136, 137, 139, 140, 141, 142, 144, 145, 147, 148, 149, 152, 153, 154, 157, 158, 159, 161, 162, 164, 165, 166, 168, 169, 171, 172, 173, 176, 177, 178, 180, 181, 183, 184, 185, 187, 188, 190, 191, 192, 194, 195, 197, 198, 199, 200, 201, 202, 203, 213, 214, 216, 217, 219, 220, 221, 223, 224, 226, 227, 228, 230, 231, 233, 234, 235, 237, 238, 240, 241, 242, 244, 245, 247, 248, 249, 251, 252, 254, 255, 256, 258, 259, 261, 262, 263, 265, 266, 268, 269, 270, 272, 273, 275, 276, 277, 278, 279, 280, 281, 284, 286, 287, 289, 290, 291, 294, 295, 296, 299, 300, 301, 303, 304, 306, 307, 308, 310, 311, 313, 314, 315, 317, 318, 320, 321, 322, 325, 326, 327, 330, 331, 332, 335, 336]
theorem addrs_is : ∀ P : Params, addrs = (frag.heap_1 P).map (·.1) := fun _ => by kernel_rfl
noncomputable abbrev hook : Hook := kHook frag.heap_1 addrs addrs_is
noncomputable abbrev Xt0 : Shared → Bool := fun s => xlAt qv [] s && recOk (RowW.records PySem.Challenge.rw_ul0027_01.row.toRowW) s
end
section
open PySem PySem.W PyProof.Rows
/-! the states of the top's run at four cuts, written by what the written heap holds and by the rest -/
noncomputable abbrev pg : Program := PySem.Challenge.rw_ul0027_01.row.prog
def noFields : Obj := ⟨.none, none, .fields #[], #[]⟩
noncomputable def tmpl (P : Params) (a : Addr) : Obj := match (frag.heap_1 P).lookup a with
  | some ⟨_, _, .func f, _⟩ => ⟨.none, none, .func { f with globals := 0, closure := [], defaults := .none, kwdefaults := .none, doc := .none, pyModule := .none, annotations := none, code := .none, closureTuple := .none, builtins := 0 }, #[]⟩
  | _ => noFields
noncomputable def extra (P : Params) : List (Addr × Obj) := [
 (0, PySem.W.boot_o_0 P)
 , (1, PySem.Obj.mk (PySem.Value.type "dict") Option.none (PySem.Data.dict #[PySem.DictEntry.mk (PySem.PyData.keyHash P (PySem.Str.ofString "builtins")) (PySem.Value.str (PySem.Str.ofString "builtins") 162) (PySem.Value.ref 4), PySem.DictEntry.mk (PySem.PyData.keyHash P (PySem.Str.ofString "__main__")) (PySem.Value.str (PySem.Str.ofString "__main__") 163) (PySem.Value.ref 5), PySem.DictEntry.mk (PySem.PyData.keyHash P (PySem.Str.ofString "_sre")) (PySem.Value.str (PySem.Str.ofString "_sre") 244) (PySem.Value.ref 12)] 3) #[])
 , (4, PySem.W.boot_o_4 P)
 , (5, PySem.W.boot_o_5 P)
 , (6, PySem.W.boot_o_6 P)
 , (7, PySem.W.boot_o_7 P)
 , (8, PySem.W.boot_o_8 P)
 , (9, PySem.W.boot_o_9 P)
 , (10, PySem.W.boot_o_10 P)
 , (11, PySem.Obj.mk (PySem.Value.type "dict") Option.none (PySem.Data.dict #[PySem.DictEntry.mk (PySem.PyData.keyHash P (PySem.Str.ofString "__name__")) (PySem.Value.str (PySem.Str.ofString "__name__") 247) (PySem.Value.str (PySem.Str.ofString "_sre") 246), PySem.DictEntry.mk (PySem.PyData.keyHash P (PySem.Str.ofString "__doc__")) (PySem.Value.str (PySem.Str.ofString "__doc__") 248) PySem.Value.none, PySem.DictEntry.mk (PySem.PyData.keyHash P (PySem.Str.ofString "__package__")) (PySem.Value.str (PySem.Str.ofString "__package__") 250) (PySem.Value.str (PySem.Str.ofString "") 249), PySem.DictEntry.mk (PySem.PyData.keyHash P (PySem.Str.ofString "__loader__")) (PySem.Value.str (PySem.Str.ofString "__loader__") 251) (PySem.Value.builtin (fenceId (Str.ofString "_sre") (Str.ofString "__loader__"))), PySem.DictEntry.mk (PySem.PyData.keyHash P (PySem.Str.ofString "__spec__")) (PySem.Value.str (PySem.Str.ofString "__spec__") 252) (PySem.Value.builtin (fenceId (Str.ofString "_sre") (Str.ofString "__spec__"))), PySem.DictEntry.mk (PySem.PyData.keyHash P (PySem.Str.ofString "compile")) (PySem.Value.str (PySem.Str.ofString "compile") 253) (PySem.Value.builtin "_sre.compile"), PySem.DictEntry.mk (PySem.PyData.keyHash P (PySem.Str.ofString "template")) (PySem.Value.str (PySem.Str.ofString "template") 254) (PySem.Value.builtin (fenceId (Str.ofString "_sre") (Str.ofString "template"))), PySem.DictEntry.mk (PySem.PyData.keyHash P (PySem.Str.ofString "getcodesize")) (PySem.Value.str (PySem.Str.ofString "getcodesize") 255) (PySem.Value.builtin (fenceId (Str.ofString "_sre") (Str.ofString "getcodesize"))), PySem.DictEntry.mk (PySem.PyData.keyHash P (PySem.Str.ofString "ascii_iscased")) (PySem.Value.str (PySem.Str.ofString "ascii_iscased") 256) (PySem.Value.builtin (fenceId (Str.ofString "_sre") (Str.ofString "ascii_iscased"))), PySem.DictEntry.mk (PySem.PyData.keyHash P (PySem.Str.ofString "unicode_iscased")) (PySem.Value.str (PySem.Str.ofString "unicode_iscased") 257) (PySem.Value.builtin (fenceId (Str.ofString "_sre") (Str.ofString "unicode_iscased"))), PySem.DictEntry.mk (PySem.PyData.keyHash P (PySem.Str.ofString "ascii_tolower")) (PySem.Value.str (PySem.Str.ofString "ascii_tolower") 258) (PySem.Value.builtin (fenceId (Str.ofString "_sre") (Str.ofString "ascii_tolower"))), PySem.DictEntry.mk (PySem.PyData.keyHash P (PySem.Str.ofString "unicode_tolower")) (PySem.Value.str (PySem.Str.ofString "unicode_tolower") 259) (PySem.Value.builtin (fenceId (Str.ofString "_sre") (Str.ofString "unicode_tolower"))), PySem.DictEntry.mk (PySem.PyData.keyHash P (PySem.Str.ofString "MAGIC")) (PySem.Value.str (PySem.Str.ofString "MAGIC") 261) (PySem.Value.int 20230612 260), PySem.DictEntry.mk (PySem.PyData.keyHash P (PySem.Str.ofString "CODESIZE")) (PySem.Value.str (PySem.Str.ofString "CODESIZE") 263) (PySem.Value.int 4 262), PySem.DictEntry.mk (PySem.PyData.keyHash P (PySem.Str.ofString "MAXREPEAT")) (PySem.Value.str (PySem.Str.ofString "MAXREPEAT") 265) (PySem.Value.int 4294967295 264), PySem.DictEntry.mk (PySem.PyData.keyHash P (PySem.Str.ofString "MAXGROUPS")) (PySem.Value.str (PySem.Str.ofString "MAXGROUPS") 267) (PySem.Value.int 1073741823 266), PySem.DictEntry.mk (PySem.PyData.keyHash P (PySem.Str.ofString "copyright")) (PySem.Value.str (PySem.Str.ofString "copyright") 269) (PySem.Value.str (PySem.Str.ofString " SRE 2.2.2 Copyright (c) 1997-2002 by Secret Labs AB ") 268)] 17) #[])
 , (12, PySem.Obj.mk (PySem.Value.type "module") (Option.some 11) PySem.Data.plain #[])
 , (13, PySem.Obj.mk (PySem.Value.type "dict") Option.none (PySem.Data.dict #[PySem.DictEntry.mk (PySem.PyData.keyHash P (PySem.Str.ofString "__module__")) (PySem.Value.str (PySem.Str.ofString "__module__") 189) (PySem.Value.str (PySem.Str.ofString "_frozen_importlib") 186), PySem.DictEntry.mk (PySem.PyData.keyHash P (PySem.Str.ofString "__firstlineno__")) (PySem.Value.str (PySem.Str.ofString "__firstlineno__") 190) (PySem.Value.int 971 187), PySem.DictEntry.mk (PySem.PyData.keyHash P (PySem.Str.ofString "__doc__")) (PySem.Value.str (PySem.Str.ofString "__doc__") 191) (PySem.Value.builtin "_frozen_importlib.BuiltinImporter.__doc__:str#opaque"), PySem.DictEntry.mk (PySem.PyData.keyHash P (PySem.Str.ofString "_ORIGIN")) (PySem.Value.str (PySem.Str.ofString "_ORIGIN") 192) (PySem.Value.str (PySem.Str.ofString "built-in") 188), PySem.DictEntry.mk (PySem.PyData.keyHash P (PySem.Str.ofString "find_spec")) (PySem.Value.str (PySem.Str.ofString "find_spec") 193) (PySem.Value.builtin "_frozen_importlib.BuiltinImporter.find_spec#opaque"), PySem.DictEntry.mk (PySem.PyData.keyHash P (PySem.Str.ofString "create_module")) (PySem.Value.str (PySem.Str.ofString "create_module") 194) (PySem.Value.builtin "_frozen_importlib.BuiltinImporter.create_module#opaque"), PySem.DictEntry.mk (PySem.PyData.keyHash P (PySem.Str.ofString "exec_module")) (PySem.Value.str (PySem.Str.ofString "exec_module") 195) (PySem.Value.builtin "_frozen_importlib.BuiltinImporter.exec_module#opaque"), PySem.DictEntry.mk (PySem.PyData.keyHash P (PySem.Str.ofString "get_code")) (PySem.Value.str (PySem.Str.ofString "get_code") 196) (PySem.Value.builtin "_frozen_importlib.BuiltinImporter.get_code#opaque"), PySem.DictEntry.mk (PySem.PyData.keyHash P (PySem.Str.ofString "get_source")) (PySem.Value.str (PySem.Str.ofString "get_source") 197) (PySem.Value.builtin "_frozen_importlib.BuiltinImporter.get_source#opaque"), PySem.DictEntry.mk (PySem.PyData.keyHash P (PySem.Str.ofString "is_package")) (PySem.Value.str (PySem.Str.ofString "is_package") 198) (PySem.Value.builtin "_frozen_importlib.BuiltinImporter.is_package#opaque"), PySem.DictEntry.mk (PySem.PyData.keyHash P (PySem.Str.ofString "load_module")) (PySem.Value.str (PySem.Str.ofString "load_module") 199) (PySem.Value.builtin "_frozen_importlib.BuiltinImporter.load_module#opaque"), PySem.DictEntry.mk (PySem.PyData.keyHash P (PySem.Str.ofString "__static_attributes__")) (PySem.Value.str (PySem.Str.ofString "__static_attributes__") 200) (PySem.Value.ref 15), PySem.DictEntry.mk (PySem.PyData.keyHash P (PySem.Str.ofString "__dict__")) (PySem.Value.str (PySem.Str.ofString "__dict__") 202) (PySem.Value.ref 16), PySem.DictEntry.mk (PySem.PyData.keyHash P (PySem.Str.ofString "__weakref__")) (PySem.Value.str (PySem.Str.ofString "__weakref__") 204) (PySem.Value.ref 17)] 14) #[])
 , (14, PySem.Obj.mk (PySem.Value.type "type") Option.none (PySem.Data.cls (PySem.ClassData.mk (PySem.Str.ofString "BuiltinImporter") [PySem.Value.type "object"] [PySem.Value.ref 14, PySem.Value.type "object"] 13 (PySem.Str.ofString "BuiltinImporter") Bool.true [] [] Bool.false Option.none Bool.false)) #[])
 , (15, PySem.Obj.mk (PySem.Value.type "tuple") Option.none (PySem.Data.seq #[]) #[])
 , (16, PySem.Obj.mk (PySem.Value.type "getset_descriptor") Option.none (PySem.Data.fields #[PySem.Value.str (PySem.Str.ofString "__dict__") 201, PySem.Value.ref 14, PySem.Value.builtin "function.__dict__", PySem.Value.builtin "function.__dict__#set"]) #[])
 , (17, PySem.Obj.mk (PySem.Value.type "getset_descriptor") Option.none (PySem.Data.fields #[PySem.Value.str (PySem.Str.ofString "__weakref__") 203, PySem.Value.ref 14, PySem.Value.builtin "ExceptionGroup.__weakref__", PySem.Value.none]) #[])
 , (18, PySem.Obj.mk PySem.Value.none Option.none (PySem.Data.seq #[PySem.Value.int 13 0, PySem.Value.str (PySem.Str.mk #[6, 189, 10, 95, 95, 109, 111, 100, 117, 108, 101, 95, 95, 6, 186, 17, 95, 102, 114, 111, 122, 101, 110, 95, 105, 109, 112, 111, 114, 116, 108, 105, 98, 6, 190, 15, 95, 95, 102, 105, 114, 115, 116, 108, 105, 110, 101, 110, 111, 95, 95, 4, 187, 0, 971, 6, 191, 7, 95, 95, 100, 111, 99, 95, 95, 9, 52, 95, 102, 114, 111, 122, 101, 110, 95, 105, 109, 112, 111, 114, 116, 108, 105, 98, 46, 66, 117, 105, 108, 116, 105, 110, 73, 109, 112, 111, 114, 116, 101, 114, 46, 95, 95, 100, 111, 99, 95, 95, 58, 115, 116, 114, 35, 111, 112, 97, 113, 117, 101, 6, 192, 7, 95, 79, 82, 73, 71, 73, 78, 6, 188, 8, 98, 117, 105, 108, 116, 45, 105, 110, 6, 193, 9, 102, 105, 110, 100, 95, 115, 112, 101, 99, 9, 50, 95, 102, 114, 111, 122, 101, 110, 95, 105, 109, 112, 111, 114, 116, 108, 105, 98, 46, 66, 117, 105, 108, 116, 105, 110, 73, 109, 112, 111, 114, 116, 101, 114, 46, 102, 105, 110, 100, 95, 115, 112, 101, 99, 35, 111, 112, 97, 113, 117, 101, 6, 194, 13, 99, 114, 101, 97, 116, 101, 95, 109, 111, 100, 117, 108, 101, 9, 54, 95, 102, 114, 111, 122, 101, 110, 95, 105, 109, 112, 111, 114, 116, 108, 105, 98, 46, 66, 117, 105, 108, 116, 105, 110, 73, 109, 112, 111, 114, 116, 101, 114, 46, 99, 114, 101, 97, 116, 101, 95, 109, 111, 100, 117, 108, 101, 35, 111, 112, 97, 113, 117, 101, 6, 195, 11, 101, 120, 101, 99, 95, 109, 111, 100, 117, 108, 101, 9, 52, 95, 102, 114, 111, 122, 101, 110, 95, 105, 109, 112, 111, 114, 116, 108, 105, 98, 46, 66, 117, 105, 108, 116, 105, 110, 73, 109, 112, 111, 114, 116, 101, 114, 46, 101, 120, 101, 99, 95, 109, 111, 100, 117, 108, 101, 35, 111, 112, 97, 113, 117, 101, 6, 196, 8, 103, 101, 116, 95, 99, 111, 100, 101, 9, 49, 95, 102, 114, 111, 122, 101, 110, 95, 105, 109, 112, 111, 114, 116, 108, 105, 98, 46, 66, 117, 105, 108, 116, 105, 110, 73, 109, 112, 111, 114, 116, 101, 114, 46, 103, 101, 116, 95, 99, 111, 100, 101, 35, 111, 112, 97, 113, 117, 101, 6, 197, 10, 103, 101, 116, 95, 115, 111, 117, 114, 99, 101, 9, 51, 95, 102, 114, 111, 122, 101, 110, 95, 105, 109, 112, 111, 114, 116, 108, 105, 98, 46, 66, 117, 105, 108, 116, 105, 110, 73, 109, 112, 111, 114, 116, 101, 114, 46, 103, 101, 116, 95, 115, 111, 117, 114, 99, 101, 35, 111, 112, 97, 113, 117, 101, 6, 198, 10, 105, 115, 95, 112, 97, 99, 107, 97, 103, 101, 9, 51, 95, 102, 114, 111, 122, 101, 110, 95, 105, 109, 112, 111, 114, 116, 108, 105, 98, 46, 66, 117, 105, 108, 116, 105, 110, 73, 109, 112, 111, 114, 116, 101, 114, 46, 105, 115, 95, 112, 97, 99, 107, 97, 103, 101, 35, 111, 112, 97, 113, 117, 101, 6, 199, 11, 108, 111, 97, 100, 95, 109, 111, 100, 117, 108, 101, 9, 52, 95, 102, 114, 111, 122, 101, 110, 95, 105, 109, 112, 111, 114, 116, 108, 105, 98, 46, 66, 117, 105, 108, 116, 105, 110, 73, 109, 112, 111, 114, 116, 101, 114, 46, 108, 111, 97, 100, 95, 109, 111, 100, 117, 108, 101, 35, 111, 112, 97, 113, 117, 101, 6, 200, 21, 95, 95, 115, 116, 97, 116, 105, 99, 95, 97, 116, 116, 114, 105, 98, 117, 116, 101, 115, 95, 95, 4, 0, 0, 15, 6, 202, 8, 95, 95, 100, 105, 99, 116, 95, 95, 4, 0, 0, 16, 6, 204, 11, 95, 95, 119, 101, 97, 107, 114, 101, 102, 95, 95, 4, 0, 0, 17]) 0, PySem.Value.bool Bool.true, PySem.Value.bool Bool.true, PySem.Value.str (PySem.Str.ofString "") 205, PySem.Value.int 21 0, PySem.Value.str (PySem.Str.ofString "\x06ã\n__module__\x06Ù\x11_frozen_importlib\x06ä\x0f__firstlineno__\x04Ú\x00Ȳ\x06å\x07__doc__\t/_frozen_importlib.ModuleSpec.__doc__:str#opaque\x06æ\x08__init__\t,_frozen_importlib.ModuleSpec.__init__#opaque\x06ç\x08__repr__\t,_frozen_importlib.ModuleSpec.__repr__#opaque\x06è\x06__eq__\t*_frozen_importlib.ModuleSpec.__eq__#opaque\x06é\x06cached\t*_frozen_importlib.ModuleSpec.cached#opaque\x06ê\x06parent\t*_frozen_importlib.ModuleSpec.parent#opaque\x06ë\x0chas_location\t0_frozen_importlib.ModuleSpec.has_location#opaque\x06ì\x15__static_attributes__\x04\x00\x00\x17\x06î\x08__dict__\x04\x00\x00\x18\x06ð\x0b__weakref__\x04\x00\x00\x19\x06ñ\x08__hash__\x00") 0, PySem.Value.bool Bool.true, PySem.Value.bool Bool.true, PySem.Value.str (PySem.Str.ofString "") 242] 1) #[])
 , (19, PySem.Obj.mk (PySem.Value.type "list") Option.none (PySem.Data.seq #[]) #[])
 , (20, PySem.Obj.mk (PySem.Value.type "dict") Option.none (PySem.Data.dict #[PySem.DictEntry.mk (PySem.PyData.keyHash P (PySem.Str.ofString "name")) (PySem.Value.str (PySem.Str.ofString "name") 208) (PySem.Value.str (PySem.Str.ofString "_sre") 207), PySem.DictEntry.mk (PySem.PyData.keyHash P (PySem.Str.ofString "loader")) (PySem.Value.str (PySem.Str.ofString "loader") 209) (PySem.Value.ref 14), PySem.DictEntry.mk (PySem.PyData.keyHash P (PySem.Str.ofString "origin")) (PySem.Value.str (PySem.Str.ofString "origin") 210) (PySem.Value.str (PySem.Str.ofString "built-in") 184), PySem.DictEntry.mk (PySem.PyData.keyHash P (PySem.Str.ofString "loader_state")) (PySem.Value.str (PySem.Str.ofString "loader_state") 211) PySem.Value.none, PySem.DictEntry.mk (PySem.PyData.keyHash P (PySem.Str.ofString "submodule_search_locations")) (PySem.Value.str (PySem.Str.ofString "submodule_search_locations") 212) PySem.Value.none, PySem.DictEntry.mk (PySem.PyData.keyHash P (PySem.Str.ofString "_uninitialized_submodules")) (PySem.Value.str (PySem.Str.ofString "_uninitialized_submodules") 213) (PySem.Value.ref 19), PySem.DictEntry.mk (PySem.PyData.keyHash P (PySem.Str.ofString "_set_fileattr")) (PySem.Value.str (PySem.Str.ofString "_set_fileattr") 214) (PySem.Value.bool Bool.false), PySem.DictEntry.mk (PySem.PyData.keyHash P (PySem.Str.ofString "_cached")) (PySem.Value.str (PySem.Str.ofString "_cached") 215) PySem.Value.none, PySem.DictEntry.mk (PySem.PyData.keyHash P (PySem.Str.ofString "_initializing")) (PySem.Value.str (PySem.Str.ofString "_initializing") 243) (PySem.Value.bool Bool.false)] 9) #[])
 , (21, PySem.Obj.mk (PySem.Value.type "dict") Option.none (PySem.Data.dict #[PySem.DictEntry.mk (PySem.PyData.keyHash P (PySem.Str.ofString "__module__")) (PySem.Value.str (PySem.Str.ofString "__module__") 227) (PySem.Value.str (PySem.Str.ofString "_frozen_importlib") 217), PySem.DictEntry.mk (PySem.PyData.keyHash P (PySem.Str.ofString "__firstlineno__")) (PySem.Value.str (PySem.Str.ofString "__firstlineno__") 228) (PySem.Value.int 562 218), PySem.DictEntry.mk (PySem.PyData.keyHash P (PySem.Str.ofString "__doc__")) (PySem.Value.str (PySem.Str.ofString "__doc__") 229) (PySem.Value.builtin "_frozen_importlib.ModuleSpec.__doc__:str#opaque"), PySem.DictEntry.mk (PySem.PyData.keyHash P (PySem.Str.ofString "__init__")) (PySem.Value.str (PySem.Str.ofString "__init__") 230) (PySem.Value.builtin "_frozen_importlib.ModuleSpec.__init__#opaque"), PySem.DictEntry.mk (PySem.PyData.keyHash P (PySem.Str.ofString "__repr__")) (PySem.Value.str (PySem.Str.ofString "__repr__") 231) (PySem.Value.builtin "_frozen_importlib.ModuleSpec.__repr__#opaque"), PySem.DictEntry.mk (PySem.PyData.keyHash P (PySem.Str.ofString "__eq__")) (PySem.Value.str (PySem.Str.ofString "__eq__") 232) (PySem.Value.builtin "_frozen_importlib.ModuleSpec.__eq__#opaque"), PySem.DictEntry.mk (PySem.PyData.keyHash P (PySem.Str.ofString "cached")) (PySem.Value.str (PySem.Str.ofString "cached") 233) (PySem.Value.builtin "_frozen_importlib.ModuleSpec.cached#opaque"), PySem.DictEntry.mk (PySem.PyData.keyHash P (PySem.Str.ofString "parent")) (PySem.Value.str (PySem.Str.ofString "parent") 234) (PySem.Value.builtin "_frozen_importlib.ModuleSpec.parent#opaque"), PySem.DictEntry.mk (PySem.PyData.keyHash P (PySem.Str.ofString "has_location")) (PySem.Value.str (PySem.Str.ofString "has_location") 235) (PySem.Value.builtin "_frozen_importlib.ModuleSpec.has_location#opaque"), PySem.DictEntry.mk (PySem.PyData.keyHash P (PySem.Str.ofString "__static_attributes__")) (PySem.Value.str (PySem.Str.ofString "__static_attributes__") 236) (PySem.Value.ref 23), PySem.DictEntry.mk (PySem.PyData.keyHash P (PySem.Str.ofString "__dict__")) (PySem.Value.str (PySem.Str.ofString "__dict__") 238) (PySem.Value.ref 24), PySem.DictEntry.mk (PySem.PyData.keyHash P (PySem.Str.ofString "__weakref__")) (PySem.Value.str (PySem.Str.ofString "__weakref__") 240) (PySem.Value.ref 25), PySem.DictEntry.mk (PySem.PyData.keyHash P (PySem.Str.ofString "__hash__")) (PySem.Value.str (PySem.Str.ofString "__hash__") 241) PySem.Value.none] 13) #[])
 , (22, PySem.Obj.mk (PySem.Value.type "type") Option.none (PySem.Data.cls (PySem.ClassData.mk (PySem.Str.ofString "ModuleSpec") [PySem.Value.type "object"] [PySem.Value.ref 22, PySem.Value.type "object"] 21 (PySem.Str.ofString "ModuleSpec") Bool.true [] [] Bool.false Option.none Bool.false)) #[])
 , (23, PySem.Obj.mk (PySem.Value.type "tuple") Option.none (PySem.Data.seq #[PySem.Value.str (PySem.Str.ofString "_cached") 219, PySem.Value.str (PySem.Str.ofString "_set_fileattr") 220, PySem.Value.str (PySem.Str.ofString "_uninitialized_submodules") 221, PySem.Value.str (PySem.Str.ofString "loader") 222, PySem.Value.str (PySem.Str.ofString "loader_state") 223, PySem.Value.str (PySem.Str.ofString "name") 224, PySem.Value.str (PySem.Str.ofString "origin") 225, PySem.Value.str (PySem.Str.ofString "submodule_search_locations") 226]) #[])
 , (24, PySem.Obj.mk (PySem.Value.type "getset_descriptor") Option.none (PySem.Data.fields #[PySem.Value.str (PySem.Str.ofString "__dict__") 237, PySem.Value.ref 22, PySem.Value.builtin "function.__dict__", PySem.Value.builtin "function.__dict__#set"]) #[])
 , (25, PySem.Obj.mk (PySem.Value.type "getset_descriptor") Option.none (PySem.Data.fields #[PySem.Value.str (PySem.Str.ofString "__weakref__") 239, PySem.Value.ref 22, PySem.Value.builtin "ExceptionGroup.__weakref__", PySem.Value.none]) #[])
 , (26, PySem.Obj.mk (PySem.Value.ref 22) (Option.some 20) PySem.Data.plain #[])
 , (27, PySem.Obj.mk PySem.Value.none Option.none (PySem.Data.seq #[PySem.Value.int 11 0, PySem.Value.str (PySem.Str.mk #[6, 247, 8, 95, 95, 110, 97, 109, 101, 95, 95, 6, 246, 4, 95, 115, 114, 101, 6, 248, 7, 95, 95, 100, 111, 99, 95, 95, 0, 6, 250, 11, 95, 95, 112, 97, 99, 107, 97, 103, 101, 95, 95, 6, 249, 0, 6, 251, 10, 95, 95, 108, 111, 97, 100, 101, 114, 95, 95, 4, 0, 0, 14, 6, 252, 8, 95, 95, 115, 112, 101, 99, 95, 95, 4, 0, 0, 26, 6, 253, 7, 99, 111, 109, 112, 105, 108, 101, 9, 12, 95, 115, 114, 101, 46, 99, 111, 109, 112, 105, 108, 101, 6, 254, 8, 116, 101, 109, 112, 108, 97, 116, 101, 9, 13, 95, 115, 114, 101, 46, 116, 101, 109, 112, 108, 97, 116, 101, 6, 255, 11, 103, 101, 116, 99, 111, 100, 101, 115, 105, 122, 101, 9, 16, 95, 115, 114, 101, 46, 103, 101, 116, 99, 111, 100, 101, 115, 105, 122, 101, 6, 256, 13, 97, 115, 99, 105, 105, 95, 105, 115, 99, 97, 115, 101, 100, 9, 18, 95, 115, 114, 101, 46, 97, 115, 99, 105, 105, 95, 105, 115, 99, 97, 115, 101, 100, 6, 257, 15, 117, 110, 105, 99, 111, 100, 101, 95, 105, 115, 99, 97, 115, 101, 100, 9, 20, 95, 115, 114, 101, 46, 117, 110, 105, 99, 111, 100, 101, 95, 105, 115, 99, 97, 115, 101, 100, 6, 258, 13, 97, 115, 99, 105, 105, 95, 116, 111, 108, 111, 119, 101, 114, 9, 18, 95, 115, 114, 101, 46, 97, 115, 99, 105, 105, 95, 116, 111, 108, 111, 119, 101, 114, 6, 259, 15, 117, 110, 105, 99, 111, 100, 101, 95, 116, 111, 108, 111, 119, 101, 114, 9, 20, 95, 115, 114, 101, 46, 117, 110, 105, 99, 111, 100, 101, 95, 116, 111, 108, 111, 119, 101, 114, 6, 261, 5, 77, 65, 71, 73, 67, 4, 260, 0, 20230612, 6, 263, 8, 67, 79, 68, 69, 83, 73, 90, 69, 4, 262, 0, 4, 6, 265, 9, 77, 65, 88, 82, 69, 80, 69, 65, 84, 4, 264, 0, 4294967295, 6, 267, 9, 77, 65, 88, 71, 82, 79, 85, 80, 83, 4, 266, 0, 1073741823, 6, 269, 9, 99, 111, 112, 121, 114, 105, 103, 104, 116, 6, 268, 53, 32, 83, 82, 69, 32, 50, 46, 50, 46, 50, 32, 67, 111, 112, 121, 114, 105, 103, 104, 116, 32, 40, 99, 41, 32, 49, 57, 57, 55, 45, 50, 48, 48, 50, 32, 98, 121, 32, 83, 101, 99, 114, 101, 116, 32, 76, 97, 98, 115, 32, 65, 66, 32]) 0, PySem.Value.bool Bool.true, PySem.Value.bool Bool.false, PySem.Value.str (PySem.Str.ofString "_sre") 271]) #[])
 , (28, PySem.Obj.mk (PySem.Value.type "tuple") Option.none (PySem.Data.seq #[]) #[])
 , (29, PySem.Obj.mk PySem.Value.none Option.none (PySem.Data.fields #[PySem.Value.int 2 0, PySem.Value.int 0 0, PySem.Value.ref 37, PySem.Value.int 56 0, PySem.Value.int 0 0, PySem.Value.ref 47, PySem.Value.int 58 0, PySem.Value.int 0 0, PySem.Value.ref 54, PySem.Value.int 64 0, PySem.Value.int 0 0, PySem.Value.ref 77, PySem.Value.int 73 0, PySem.Value.int 0 0, PySem.Value.ref 84, PySem.Value.int 155 0, PySem.Value.int 0 0, PySem.Value.ref 211, PySem.Value.int 196 0, PySem.Value.int 0 0, PySem.Value.ref 289, PySem.Value.int 201 0, PySem.Value.int 0 0, PySem.Value.ref 294, PySem.Value.int 211 0, PySem.Value.int 0 0, PySem.Value.ref 299, PySem.Value.int 215 0, PySem.Value.int 0 0, PySem.Value.ref 306, PySem.Value.int 219 0, PySem.Value.int 0 0, PySem.Value.ref 313, PySem.Value.int 233 0, PySem.Value.int 0 0, PySem.Value.ref 320, PySem.Value.int 255 0, PySem.Value.int 0 0, PySem.Value.ref 325, PySem.Value.int 260 0, PySem.Value.int 0 0, PySem.Value.ref 330, PySem.Value.int 271 0, PySem.Value.int 0 0, PySem.Value.ref 335]) #[])
 , (30, PySem.Obj.mk (PySem.Value.type "code") Option.none (PySem.Data.fields #[PySem.Value.str (PySem.Str.ofString "<module>") 277, PySem.Value.str (PySem.Str.ofString "<module>") 278, PySem.Value.str (PySem.Str.ofString "/claim/cut.py") 279, PySem.Value.int 1 0, PySem.Value.int 0 0, PySem.Value.int 0 0, PySem.Value.int 0 0, PySem.Value.int 0 0, PySem.Value.ref 28, PySem.Value.bool Bool.false, PySem.Value.int 276 0, PySem.Value.ref 29, PySem.Value.none, PySem.Value.none, PySem.Value.none, PySem.Value.none, PySem.Value.int 280 0, PySem.Value.int 1 0, PySem.Value.str (PySem.Str.ofString "/claim/cut.py") 281]) #[])
 , (31, PySem.Obj.mk (PySem.Value.type "frame") Option.none PySem.Data.plain #[Option.some (PySem.Value.ref 30), Option.some (PySem.Value.ref 3), Option.some (PySem.Value.ref 3), Option.none, Option.some (PySem.Value.str (PySem.Str.ofString "__main__") 164), Option.none, Option.some (PySem.Value.ref 0)])
 , (33, noFields)
 , (36, tmpl P 38)
 , (40, PySem.Obj.mk (PySem.Value.type "dict") Option.none (PySem.Data.dict #[PySem.DictEntry.mk (PySem.PyData.keyHash P (PySem.Str.ofString "->")) (PySem.Value.str (PySem.Str.ofString "->") 423) (PySem.Value.int 51 379), PySem.DictEntry.mk (PySem.PyData.keyHash P (PySem.Str.ofString ".")) (PySem.Value.str (PySem.Str.ofString ".") 425) (PySem.Value.int 23 323), PySem.DictEntry.mk (PySem.PyData.keyHash P (PySem.Str.ofString "...")) (PySem.Value.str (PySem.Str.ofString "...") 427) (PySem.Value.int 52 381), PySem.DictEntry.mk (PySem.PyData.keyHash P (PySem.Str.ofString "/")) (PySem.Value.str (PySem.Str.ofString "/") 429) (PySem.Value.int 17 311), PySem.DictEntry.mk (PySem.PyData.keyHash P (PySem.Str.ofString "//")) (PySem.Value.str (PySem.Str.ofString "//") 431) (PySem.Value.int 47 371), PySem.DictEntry.mk (PySem.PyData.keyHash P (PySem.Str.ofString "//=")) (PySem.Value.str (PySem.Str.ofString "//=") 433) (PySem.Value.int 48 373), PySem.DictEntry.mk (PySem.PyData.keyHash P (PySem.Str.ofString "/=")) (PySem.Value.str (PySem.Str.ofString "/=") 435) (PySem.Value.int 39 355), PySem.DictEntry.mk (PySem.PyData.keyHash P (PySem.Str.ofString ":")) (PySem.Value.str (PySem.Str.ofString ":") 437) (PySem.Value.int 11 299), PySem.DictEntry.mk (PySem.PyData.keyHash P (PySem.Str.ofString ":=")) (PySem.Value.str (PySem.Str.ofString ":=") 439) (PySem.Value.int 53 383), PySem.DictEntry.mk (PySem.PyData.keyHash P (PySem.Str.ofString ";")) (PySem.Value.str (PySem.Str.ofString ";") 441) (PySem.Value.int 13 303), PySem.DictEntry.mk (PySem.PyData.keyHash P (PySem.Str.ofString "<")) (PySem.Value.str (PySem.Str.ofString "<") 443) (PySem.Value.int 20 317), PySem.DictEntry.mk (PySem.PyData.keyHash P (PySem.Str.ofString "<<")) (PySem.Value.str (PySem.Str.ofString "<<") 445) (PySem.Value.int 33 343), PySem.DictEntry.mk (PySem.PyData.keyHash P (PySem.Str.ofString "<<=")) (PySem.Value.str (PySem.Str.ofString "<<=") 447) (PySem.Value.int 44 365), PySem.DictEntry.mk (PySem.PyData.keyHash P (PySem.Str.ofString "<=")) (PySem.Value.str (PySem.Str.ofString "<=") 449) (PySem.Value.int 29 335), PySem.DictEntry.mk (PySem.PyData.keyHash P (PySem.Str.ofString "=")) (PySem.Value.str (PySem.Str.ofString "=") 451) (PySem.Value.int 22 321), PySem.DictEntry.mk (PySem.PyData.keyHash P (PySem.Str.ofString "==")) (PySem.Value.str (PySem.Str.ofString "==") 453) (PySem.Value.int 27 331), PySem.DictEntry.mk (PySem.PyData.keyHash P (PySem.Str.ofString ">")) (PySem.Value.str (PySem.Str.ofString ">") 455) (PySem.Value.int 21 319)] 17) #[])
 , (41, PySem.Obj.mk (PySem.Value.type "dict") Option.none (PySem.Data.dict #[PySem.DictEntry.mk (PySem.PyData.keyHash P (PySem.Str.ofString ">=")) (PySem.Value.str (PySem.Str.ofString ">=") 457) (PySem.Value.int 30 337), PySem.DictEntry.mk (PySem.PyData.keyHash P (PySem.Str.ofString ">>")) (PySem.Value.str (PySem.Str.ofString ">>") 458) (PySem.Value.int 34 345), PySem.DictEntry.mk (PySem.PyData.keyHash P (PySem.Str.ofString ">>=")) (PySem.Value.str (PySem.Str.ofString ">>=") 459) (PySem.Value.int 45 367), PySem.DictEntry.mk (PySem.PyData.keyHash P (PySem.Str.ofString "@")) (PySem.Value.str (PySem.Str.ofString "@") 460) (PySem.Value.int 49 375), PySem.DictEntry.mk (PySem.PyData.keyHash P (PySem.Str.ofString "@=")) (PySem.Value.str (PySem.Str.ofString "@=") 461) (PySem.Value.int 50 377), PySem.DictEntry.mk (PySem.PyData.keyHash P (PySem.Str.ofString "[")) (PySem.Value.str (PySem.Str.ofString "[") 462) (PySem.Value.int 9 295), PySem.DictEntry.mk (PySem.PyData.keyHash P (PySem.Str.ofString "]")) (PySem.Value.str (PySem.Str.ofString "]") 463) (PySem.Value.int 10 297), PySem.DictEntry.mk (PySem.PyData.keyHash P (PySem.Str.ofString "^")) (PySem.Value.str (PySem.Str.ofString "^") 464) (PySem.Value.int 32 341), PySem.DictEntry.mk (PySem.PyData.keyHash P (PySem.Str.ofString "^=")) (PySem.Value.str (PySem.Str.ofString "^=") 465) (PySem.Value.int 43 363), PySem.DictEntry.mk (PySem.PyData.keyHash P (PySem.Str.ofString "{")) (PySem.Value.str (PySem.Str.ofString "{") 466) (PySem.Value.int 25 327), PySem.DictEntry.mk (PySem.PyData.keyHash P (PySem.Str.ofString "|")) (PySem.Value.str (PySem.Str.ofString "|") 467) (PySem.Value.int 18 313), PySem.DictEntry.mk (PySem.PyData.keyHash P (PySem.Str.ofString "|=")) (PySem.Value.str (PySem.Str.ofString "|=") 468) (PySem.Value.int 42 361), PySem.DictEntry.mk (PySem.PyData.keyHash P (PySem.Str.ofString "}")) (PySem.Value.str (PySem.Str.ofString "}") 469) (PySem.Value.int 26 329), PySem.DictEntry.mk (PySem.PyData.keyHash P (PySem.Str.ofString "~")) (PySem.Value.str (PySem.Str.ofString "~") 470) (PySem.Value.int 31 339)] 14) #[])
 , (43, noFields)
 , (46, tmpl P 48)
 , (50, noFields)
 , (53, tmpl P 55)
 , (56, PySem.Obj.mk (PySem.Value.type "list") Option.none (PySem.Data.seq #[PySem.Value.int 14 505, PySem.Value.int 14 506, PySem.Value.int 4 507, PySem.Value.int 1 508, PySem.Value.int 1 509, PySem.Value.int 9 510, PySem.Value.int 0 511, PySem.Value.int 4227896069 512, PySem.Value.int 939524097 513, PySem.Value.int 0 514, PySem.Value.int 0 515, PySem.Value.int 0 516, PySem.Value.int 0 517, PySem.Value.int 0 518, PySem.Value.int 0 519, PySem.Value.int 13 520, PySem.Value.int 11 521, PySem.Value.int 9 522, PySem.Value.int 0 523, PySem.Value.int 4227896069 524, PySem.Value.int 939524097 525, PySem.Value.int 0 526, PySem.Value.int 0 527, PySem.Value.int 0 528, PySem.Value.int 0 529, PySem.Value.int 0 530, PySem.Value.int 0 531, PySem.Value.int 1 532]) #[])
 , (57, PySem.Obj.mk (PySem.Value.type "dict") Option.none (PySem.Data.dict #[]) #[])
 , (58, PySem.Obj.mk (PySem.Value.type "tuple") Option.none (PySem.Data.seq #[PySem.Value.none]) #[])
 , (61, PySem.Obj.mk (PySem.Value.type "list") Option.none (PySem.Data.seq #[PySem.Value.int 14 539, PySem.Value.int 10 540, PySem.Value.int 4 541, PySem.Value.int 1 542, PySem.Value.int 1 543, PySem.Value.int 22 544, PySem.Value.int 0 545, PySem.Value.int 31 546, PySem.Value.int 16 547, PySem.Value.int 127 548, PySem.Value.int 0 549, PySem.Value.int 13 550, PySem.Value.int 7 551, PySem.Value.int 22 552, PySem.Value.int 0 553, PySem.Value.int 31 554, PySem.Value.int 16 555, PySem.Value.int 127 556, PySem.Value.int 0 557, PySem.Value.int 1 558]) #[])
 , (62, PySem.Obj.mk (PySem.Value.type "dict") Option.none (PySem.Data.dict #[]) #[])
 , (63, PySem.Obj.mk (PySem.Value.type "tuple") Option.none (PySem.Data.seq #[PySem.Value.none]) #[])
 , (66, PySem.Obj.mk (PySem.Value.type "list") Option.none (PySem.Data.seq #[PySem.Value.int 14 565, PySem.Value.int 14 566, PySem.Value.int 4 567, PySem.Value.int 1 568, PySem.Value.int 1 569, PySem.Value.int 9 570, PySem.Value.int 4294966783 571, PySem.Value.int 0 572, PySem.Value.int 0 573, PySem.Value.int 2147483648 574, PySem.Value.int 0 575, PySem.Value.int 0 576, PySem.Value.int 0 577, PySem.Value.int 0 578, PySem.Value.int 0 579, PySem.Value.int 13 580, PySem.Value.int 11 581, PySem.Value.int 9 582, PySem.Value.int 4294966783 583, PySem.Value.int 0 584, PySem.Value.int 0 585, PySem.Value.int 2147483648 586, PySem.Value.int 0 587, PySem.Value.int 0 588, PySem.Value.int 0 589, PySem.Value.int 0 590, PySem.Value.int 0 591, PySem.Value.int 1 592]) #[])
 , (67, PySem.Obj.mk (PySem.Value.type "dict") Option.none (PySem.Data.dict #[]) #[])
 , (68, PySem.Obj.mk (PySem.Value.type "tuple") Option.none (PySem.Data.seq #[PySem.Value.none]) #[])
 , (73, noFields)
 , (76, tmpl P 78)
 , (79, PySem.Obj.mk (PySem.Value.type "tuple") Option.none (PySem.Data.seq #[]) #[])
 , (80, PySem.Obj.mk (PySem.Value.type "builtin_function_or_method") Option.none (PySem.Data.fields #[PySem.Value.builtin "type.__prepare__", PySem.Value.type "type"]) #[])
 , (81, PySem.Obj.mk (PySem.Value.type "dict") Option.none (PySem.Data.dict #[PySem.DictEntry.mk (PySem.PyData.keyHash P (PySem.Str.ofString "__module__")) (PySem.Value.str (PySem.Str.ofString "__module__") 613) (PySem.Value.str (PySem.Str.ofString "cpy313.wsgiref.headers") 500), PySem.DictEntry.mk (PySem.PyData.keyHash P (PySem.Str.ofString "__qualname__")) (PySem.Value.str (PySem.Str.ofString "__qualname__") 615) (PySem.Value.str (PySem.Str.ofString "Headers") 614), PySem.DictEntry.mk (PySem.PyData.keyHash P (PySem.Str.ofString "__firstlineno__")) (PySem.Value.str (PySem.Str.ofString "__firstlineno__") 617) (PySem.Value.int 73 616), PySem.DictEntry.mk (PySem.PyData.keyHash P (PySem.Str.ofString "__init__")) (PySem.Value.str (PySem.Str.ofString "__init__") 627) (PySem.Value.ref 93), PySem.DictEntry.mk (PySem.PyData.keyHash P (PySem.Str.ofString "_convert_string_type")) (PySem.Value.str (PySem.Str.ofString "_convert_string_type") 637) (PySem.Value.ref 100), PySem.DictEntry.mk (PySem.PyData.keyHash P (PySem.Str.ofString "__len__")) (PySem.Value.str (PySem.Str.ofString "__len__") 644) (PySem.Value.ref 107), PySem.DictEntry.mk (PySem.PyData.keyHash P (PySem.Str.ofString "__setitem__")) (PySem.Value.str (PySem.Str.ofString "__setitem__") 653) (PySem.Value.ref 114), PySem.DictEntry.mk (PySem.PyData.keyHash P (PySem.Str.ofString "__delitem__")) (PySem.Value.str (PySem.Str.ofString "__delitem__") 659) (PySem.Value.ref 119), PySem.DictEntry.mk (PySem.PyData.keyHash P (PySem.Str.ofString "__getitem__")) (PySem.Value.str (PySem.Str.ofString "__getitem__") 667) (PySem.Value.ref 126), PySem.DictEntry.mk (PySem.PyData.keyHash P (PySem.Str.ofString "__contains__")) (PySem.Value.str (PySem.Str.ofString "__contains__") 675) (PySem.Value.ref 133), PySem.DictEntry.mk (PySem.PyData.keyHash P (PySem.Str.ofString "get_all")) (PySem.Value.str (PySem.Str.ofString "get_all") 683) (PySem.Value.ref 140), PySem.DictEntry.mk (PySem.PyData.keyHash P (PySem.Str.ofString "get")) (PySem.Value.str (PySem.Str.ofString "get") 694) (PySem.Value.ref 148), PySem.DictEntry.mk (PySem.PyData.keyHash P (PySem.Str.ofString "keys")) (PySem.Value.str (PySem.Str.ofString "keys") 700) (PySem.Value.ref 153), PySem.DictEntry.mk (PySem.PyData.keyHash P (PySem.Str.ofString "values")) (PySem.Value.str (PySem.Str.ofString "values") 706) (PySem.Value.ref 158), PySem.DictEntry.mk (PySem.PyData.keyHash P (PySem.Str.ofString "items")) (PySem.Value.str (PySem.Str.ofString "items") 713) (PySem.Value.ref 165), PySem.DictEntry.mk (PySem.PyData.keyHash P (PySem.Str.ofString "__repr__")) (PySem.Value.str (PySem.Str.ofString "__repr__") 720) (PySem.Value.ref 172), PySem.DictEntry.mk (PySem.PyData.keyHash P (PySem.Str.ofString "__str__")) (PySem.Value.str (PySem.Str.ofString "__str__") 726) (PySem.Value.ref 177), PySem.DictEntry.mk (PySem.PyData.keyHash P (PySem.Str.ofString "__bytes__")) (PySem.Value.str (PySem.Str.ofString "__bytes__") 733) (PySem.Value.ref 184), PySem.DictEntry.mk (PySem.PyData.keyHash P (PySem.Str.ofString "setdefault")) (PySem.Value.str (PySem.Str.ofString "setdefault") 742) (PySem.Value.ref 191), PySem.DictEntry.mk (PySem.PyData.keyHash P (PySem.Str.ofString "add_header")) (PySem.Value.str (PySem.Str.ofString "add_header") 755) (PySem.Value.ref 198), PySem.DictEntry.mk (PySem.PyData.keyHash P (PySem.Str.ofString "__static_attributes__")) (PySem.Value.str (PySem.Str.ofString "__static_attributes__") 757) (PySem.Value.ref 199)] 21) #[])
 , (82, PySem.Obj.mk (PySem.Value.type "tuple") Option.none (PySem.Data.seq #[]) #[])
 , (83, PySem.Obj.mk PySem.Value.none Option.none (PySem.Data.fields #[PySem.Value.int 75 0, PySem.Value.int 4 0, PySem.Value.ref 92, PySem.Value.int 85 0, PySem.Value.int 4 0, PySem.Value.ref 99, PySem.Value.int 93 0, PySem.Value.int 4 0, PySem.Value.ref 106, PySem.Value.int 96 0, PySem.Value.int 4 0, PySem.Value.ref 113, PySem.Value.int 100 0, PySem.Value.int 4 0, PySem.Value.ref 118, PySem.Value.int 104 0, PySem.Value.int 4 0, PySem.Value.ref 125, PySem.Value.int 107 0, PySem.Value.int 4 0, PySem.Value.ref 132, PySem.Value.int 110 0, PySem.Value.int 4 0, PySem.Value.ref 139, PySem.Value.int 113 0, PySem.Value.int 4 0, PySem.Value.ref 147, PySem.Value.int 120 0, PySem.Value.int 4 0, PySem.Value.ref 152, PySem.Value.int 123 0, PySem.Value.int 4 0, PySem.Value.ref 157, PySem.Value.int 126 0, PySem.Value.int 4 0, PySem.Value.ref 164, PySem.Value.int 129 0, PySem.Value.int 4 0, PySem.Value.ref 171, PySem.Value.int 132 0, PySem.Value.int 4 0, PySem.Value.ref 176, PySem.Value.int 135 0, PySem.Value.int 4 0, PySem.Value.ref 183, PySem.Value.int 138 0, PySem.Value.int 4 0, PySem.Value.ref 190, PySem.Value.int 141 0, PySem.Value.int 4 0, PySem.Value.ref 197]) #[])
 , (84, PySem.Obj.mk (PySem.Value.type "code") Option.none (PySem.Data.fields #[PySem.Value.str (PySem.Str.ofString "Headers") 608, PySem.Value.str (PySem.Str.ofString "Headers") 609, PySem.Value.str (PySem.Str.ofString "/claim/cut.py") 610, PySem.Value.int 73 0, PySem.Value.int 0 0, PySem.Value.int 0 0, PySem.Value.int 0 0, PySem.Value.int 0 0, PySem.Value.ref 82, PySem.Value.bool Bool.false, PySem.Value.int 276 0, PySem.Value.ref 83, PySem.Value.none, PySem.Value.none, PySem.Value.none, PySem.Value.none, PySem.Value.int 611 0, PySem.Value.int 73 0, PySem.Value.str (PySem.Str.ofString "/claim/cut.py") 612]) #[])
 , (85, PySem.Obj.mk (PySem.Value.type "frame") Option.none PySem.Data.plain #[Option.some (PySem.Value.ref 84), Option.some (PySem.Value.ref 3), Option.some (PySem.Value.ref 81), Option.none, Option.some (PySem.Value.str (PySem.Str.ofString "cpy313.wsgiref.headers") 500), Option.none, Option.some (PySem.Value.ref 0)])
 , (88, noFields)
 , (91, tmpl P 93)
 , (95, noFields)
 , (98, tmpl P 100)
 , (102, noFields)
 , (105, tmpl P 107)
 , (109, noFields)
 , (112, tmpl P 114)
 , (116, noFields)
 , (117, tmpl P 119)
 , (121, noFields)
 , (124, tmpl P 126)
 , (128, noFields)
 , (131, tmpl P 133)
 , (135, noFields)
 , (138, tmpl P 140)
 , (143, noFields)
 , (146, tmpl P 148)
 , (150, noFields)
 , (151, tmpl P 153)
 , (155, noFields)
 , (156, tmpl P 158)
 , (160, noFields)
 , (163, tmpl P 165)
 , (167, noFields)
 , (170, tmpl P 172)
 , (174, noFields)
 , (175, tmpl P 177)
 , (179, noFields)
 , (182, tmpl P 184)
 , (186, noFields)
 , (189, tmpl P 191)
 , (193, noFields)
 , (196, tmpl P 198)
 , (204, PySem.Obj.mk (PySem.Value.type "super") Option.none (PySem.Data.fields #[PySem.Value.ref 201, PySem.Value.ref 201, PySem.Value.ref 201]) #[])
 , (205, PySem.Obj.mk (PySem.Value.type "builtin_function_or_method") Option.none (PySem.Data.fields #[PySem.Value.builtin "object.__init_subclass__", PySem.Value.ref 201]) #[])
 , (206, PySem.Obj.mk (PySem.Value.type "tuple") Option.none (PySem.Data.seq #[]) #[])
 , (207, PySem.Obj.mk (PySem.Value.type "builtin_function_or_method") Option.none (PySem.Data.fields #[PySem.Value.builtin "type.__prepare__", PySem.Value.type "type"]) #[])
 , (208, PySem.Obj.mk (PySem.Value.type "dict") Option.none (PySem.Data.dict #[PySem.DictEntry.mk (PySem.PyData.keyHash P (PySem.Str.ofString "__module__")) (PySem.Value.str (PySem.Str.ofString "__module__") 774) (PySem.Value.str (PySem.Str.ofString "cpy313.xml.etree.ElementTree") 765), PySem.DictEntry.mk (PySem.PyData.keyHash P (PySem.Str.ofString "__qualname__")) (PySem.Value.str (PySem.Str.ofString "__qualname__") 776) (PySem.Value.str (PySem.Str.ofString "QName") 775), PySem.DictEntry.mk (PySem.PyData.keyHash P (PySem.Str.ofString "__firstlineno__")) (PySem.Value.str (PySem.Str.ofString "__firstlineno__") 778) (PySem.Value.int 155 777), PySem.DictEntry.mk (PySem.PyData.keyHash P (PySem.Str.ofString "__init__")) (PySem.Value.str (PySem.Str.ofString "__init__") 787) (PySem.Value.ref 220), PySem.DictEntry.mk (PySem.PyData.keyHash P (PySem.Str.ofString "__str__")) (PySem.Value.str (PySem.Str.ofString "__str__") 794) (PySem.Value.ref 227), PySem.DictEntry.mk (PySem.PyData.keyHash P (PySem.Str.ofString "__repr__")) (PySem.Value.str (PySem.Str.ofString "__repr__") 801) (PySem.Value.ref 234), PySem.DictEntry.mk (PySem.PyData.keyHash P (PySem.Str.ofString "__hash__")) (PySem.Value.str (PySem.Str.ofString "__hash__") 808) (PySem.Value.ref 241), PySem.DictEntry.mk (PySem.PyData.keyHash P (PySem.Str.ofString "__le__")) (PySem.Value.str (PySem.Str.ofString "__le__") 816) (PySem.Value.ref 248), PySem.DictEntry.mk (PySem.PyData.keyHash P (PySem.Str.ofString "__lt__")) (PySem.Value.str (PySem.Str.ofString "__lt__") 824) (PySem.Value.ref 255), PySem.DictEntry.mk (PySem.PyData.keyHash P (PySem.Str.ofString "__ge__")) (PySem.Value.str (PySem.Str.ofString "__ge__") 832) (PySem.Value.ref 262), PySem.DictEntry.mk (PySem.PyData.keyHash P (PySem.Str.ofString "__gt__")) (PySem.Value.str (PySem.Str.ofString "__gt__") 840) (PySem.Value.ref 269), PySem.DictEntry.mk (PySem.PyData.keyHash P (PySem.Str.ofString "__eq__")) (PySem.Value.str (PySem.Str.ofString "__eq__") 848) (PySem.Value.ref 276), PySem.DictEntry.mk (PySem.PyData.keyHash P (PySem.Str.ofString "__static_attributes__")) (PySem.Value.str (PySem.Str.ofString "__static_attributes__") 850) (PySem.Value.ref 277)] 13) #[])
 , (209, PySem.Obj.mk (PySem.Value.type "tuple") Option.none (PySem.Data.seq #[]) #[])
 , (210, PySem.Obj.mk PySem.Value.none Option.none (PySem.Data.fields #[PySem.Value.int 157 0, PySem.Value.int 4 0, PySem.Value.ref 219, PySem.Value.int 162 0, PySem.Value.int 4 0, PySem.Value.ref 226, PySem.Value.int 165 0, PySem.Value.int 4 0, PySem.Value.ref 233, PySem.Value.int 168 0, PySem.Value.int 4 0, PySem.Value.ref 240, PySem.Value.int 171 0, PySem.Value.int 4 0, PySem.Value.ref 247, PySem.Value.int 176 0, PySem.Value.int 4 0, PySem.Value.ref 254, PySem.Value.int 181 0, PySem.Value.int 4 0, PySem.Value.ref 261, PySem.Value.int 186 0, PySem.Value.int 4 0, PySem.Value.ref 268, PySem.Value.int 191 0, PySem.Value.int 4 0, PySem.Value.ref 275]) #[])
 , (211, PySem.Obj.mk (PySem.Value.type "code") Option.none (PySem.Data.fields #[PySem.Value.str (PySem.Str.ofString "QName") 769, PySem.Value.str (PySem.Str.ofString "QName") 770, PySem.Value.str (PySem.Str.ofString "/claim/cut.py") 771, PySem.Value.int 155 0, PySem.Value.int 0 0, PySem.Value.int 0 0, PySem.Value.int 0 0, PySem.Value.int 0 0, PySem.Value.ref 209, PySem.Value.bool Bool.false, PySem.Value.int 276 0, PySem.Value.ref 210, PySem.Value.none, PySem.Value.none, PySem.Value.none, PySem.Value.none, PySem.Value.int 772 0, PySem.Value.int 155 0, PySem.Value.str (PySem.Str.ofString "/claim/cut.py") 773]) #[])
 , (212, PySem.Obj.mk (PySem.Value.type "frame") Option.none PySem.Data.plain #[Option.some (PySem.Value.ref 211), Option.some (PySem.Value.ref 3), Option.some (PySem.Value.ref 208), Option.none, Option.some (PySem.Value.str (PySem.Str.ofString "cpy313.xml.etree.ElementTree") 765), Option.none, Option.some (PySem.Value.ref 0)])
 , (215, noFields)
 , (218, tmpl P 220)
 , (222, noFields)
 , (225, tmpl P 227)
 , (229, noFields)
 , (232, tmpl P 234)
 , (236, noFields)
 , (239, tmpl P 241)
 , (243, noFields)
 , (246, tmpl P 248)
 , (250, noFields)
 , (253, tmpl P 255)
 , (257, noFields)
 , (260, tmpl P 262)
 , (264, noFields)
 , (267, tmpl P 269)
 , (271, noFields)
 , (274, tmpl P 276)
 , (282, PySem.Obj.mk (PySem.Value.type "super") Option.none (PySem.Data.fields #[PySem.Value.ref 279, PySem.Value.ref 279, PySem.Value.ref 279]) #[])
 , (283, PySem.Obj.mk (PySem.Value.type "builtin_function_or_method") Option.none (PySem.Data.fields #[PySem.Value.builtin "object.__init_subclass__", PySem.Value.ref 279]) #[])
 , (285, noFields)
 , (288, tmpl P 290)
 , (292, noFields)
 , (293, tmpl P 295)
 , (297, noFields)
 , (298, tmpl P 300)
 , (302, noFields)
 , (305, tmpl P 307)
 , (309, noFields)
 , (312, tmpl P 314)
 , (316, noFields)
 , (319, tmpl P 321)
 , (323, noFields)
 , (324, tmpl P 326)
 , (328, noFields)
 , (329, tmpl P 331)
 , (333, noFields)
 , (334, tmpl P 336)
]
def theLife : Life := PySem.Life.mk [] [] [] 0 [] [] Bool.false #[] [] 0 Bool.false Bool.false Bool.false 0 [2000, 10, 10] Bool.false 0 Bool.true [] [] 0 Bool.false
def theDrawn : Drawn := PySem.Drawn.mk 0 0 0 0
def merge : Nat → Nat → Frag → Frag → List Obj
  | 0, _, _, _ => []
  | n + 1, i, a, b => match a with
    | [] => (match b with
      | [] => []
      | (_, o) :: b' => o :: merge n (i + 1) [] b')
    | (x, o) :: a' => match Nat.beq x i with
      | true => o :: merge n (i + 1) a' b
      | false => match b with
        | [] => []
        | (_, o') :: b' => o' :: merge n (i + 1) a b'
noncomputable def finL (P : Params) : List Obj := merge 337 0 (frag.heap_1 P) (extra P)
def nameTo (v : Value) : List DictEntry → List DictEntry
  | e :: r => { e with val := v } :: r
  | [] => []
def mainTo (k : Nat) (v : Value) : Obj → Obj
  | ⟨c, d, .dict es _, s⟩ => ⟨c, d, .dict (nameTo v (es.toList.take k)).toArray k, s⟩
  | o => o
def fieldsTo (m : Nat) : Obj → Obj
  | ⟨c, d, .fields vs, s⟩ => ⟨c, d, .fields (vs.toList.take m).toArray, s⟩
  | o => o
def cutL (k m : Nat) (v : Value) : Nat → Nat → List Obj → List Obj
  | 0, _, _ => []
  | _ + 1, _, [] => []
  | n + 1, i, o :: r => (match Nat.beq i 3 with
    | true => mainTo k v o
    | false => match Nat.beq i 29 with
      | true => fieldsTo m o
      | false => o) :: cutL k m v n (i + 1) r
noncomputable def heapAt (P : Params) (n k m : Nat) (v : Value) : Heap := ⟨(cutL k m v n 0 (finL P)).toArray, theLife⟩
noncomputable def stAt (w : World) (os : OsState) (n k m toks : Nat) (v : Value) : Shared := ⟨heapAt w.params n k m v, #[], theDrawn, toks, os⟩
noncomputable def s0 (w : World) (os : OsState) : Shared := stAt w os 28 10 0 276 (.str (Str.ofString "__main__") 164)
noncomputable def sA (w : World) (os : OsState) : Shared := stAt w os 32 10 0 282 (.str (Str.ofString "__main__") 164)
noncomputable def sB (w : World) (os : OsState) : Shared := stAt w os 39 60 3 389 (.str (Str.ofString "cpy313.token") 289)
noncomputable def sC (w : World) (os : OsState) : Shared := stAt w os 42 61 3 486 (.str (Str.ofString "cpy313.token") 289)
noncomputable def sD (w : World) (os : OsState) : Shared := stAt w os 206 68 15 765 (.str (Str.ofString "cpy313.wsgiref.headers") 500)
noncomputable def hE (P : Params) : Heap := ⟨(finL P).toArray, theLife⟩
noncomputable def sE (w : World) (os : OsState) : Shared := ⟨hE w.params, #[], theDrawn, 936, os⟩
noncomputable def bodyM : List Stmt := behindTheImports pg
noncomputable def envM : Env := { scope := pg.main.scope, locals := mainNs, globals := mainNs, cells := [], code := .ref 30, frame := some 31 }
noncomputable abbrev codeM : Code := .body bodyM envM
abbrev pos0 : Pos := ⟨0, 0, 0, 0⟩
noncomputable def stM (i n : Nat) : List Stmt := (bodyM.drop i).take n
noncomputable abbrev thM (i n : Nat) (pos : Pos) : Thread := piecesOf (stM i n) envM codeM pos [topFrame pos0]
/-- the library's quick twin of the run of a piece -/
noncomputable def segQ (p : Program) (w : World) (n₀ : Nat) (ann : Option Value) (b n : Nat) (s : SharedT) (t : Thread) : Option (Flow × SharedT × Code × Pos) := PySem.W.Fast.tw10110043849684766642 PySem.W.Fast.tw14364793385576792824 p w n₀ ann b n s t
theorem segQ_eq (p : Program) (w : World) (n₀ : Nat) (ann : Option Value) (b n : Nat) (s : SharedT) (t : Thread) : segRunT treeTable p w n₀ ann b n s t = segQ p w n₀ ann b n s t := by
  rw [PySem.W.Fast.te10110043849684766642, PySem.W.Fast.te14364793385576792824]; rfl
noncomputable def segS (p : Program) (w : World) (n : Nat) (s : Shared) (t : Thread) : Option (Flow × Shared × Code × Pos) :=
  (toT s).bind fun r => (segQ p w 28 (some (.ref 6)) 1 n r t).map fun x => (x.1, x.2.1.abs, x.2.2.1, x.2.2.2)
theorem segS_of {p : Program} {w : World} {n : Nat} {s s' : Shared} {t : Thread} {f : Flow} {c : Code} {q : Pos} (h : segS p w n s t = some (f, s', c, q)) : segRun treeTable p w 28 (some (.ref 6)) 1 n s t = some (f, s', c, q) := by
  obtain ⟨r, a, b⟩ := Option.bind_eq_some_iff.mp h
  obtain ⟨⟨f1, r1, c1, q1⟩, b1, b2⟩ := Option.map_eq_some_iff.mp b
  rw [← segQ_eq] at b1
  have d := segRun_of b1
  rw [toT_of a] at d
  rw [d]
  exact congrArg some b2
end
section
open PySem PySem.W PyProof.Rows
noncomputable abbrev mods : List Str := importedModules pg.main.body
noncomputable abbrev h0 (P : Params) : Heap := heapAt P 28 10 0 (.str (Str.ofString "__main__") 164)
/-! the runs, each one check of the kernel's -/
theorem run_open (w : World) : (openT (stQ (opening pg) w) (startQ (opening pg)) pg 6666).map (fun s => (s.heap, s.gens, s.drawn, s.toks)) = some (h0 w.params, #[], theDrawn, 276) := by kernel_rfl
theorem run1 (w : World) (os : OsState) : segS pg w 480 (sA w os) (thM 0 51 pos0) = some (.next, sB w os, codeM, ⟨54, 0, 54, 9⟩) := by kernel_rfl
theorem run2f (w : World) (os : OsState) : segS pg (w.withFollow "special-get-raises" false) 979 (sB (w.withFollow "special-get-raises" false) os) (thM 51 1 ⟨54, 0, 54, 9⟩) = some (.next, sC (w.withFollow "special-get-raises" false) os, codeM, ⟨55, 0, 55, 17⟩) := by kernel_rfl
theorem run2t (w : World) (os : OsState) : segS pg (w.withFollow "special-get-raises" true) 979 (sB (w.withFollow "special-get-raises" true) os) (thM 51 1 ⟨54, 0, 54, 9⟩) = some (.next, sC (w.withFollow "special-get-raises" true) os, codeM, ⟨55, 0, 55, 17⟩) := by kernel_rfl
theorem run3 (w : World) (os : OsState) : segS pg w 1054 (sC w os) (thM 52 8 ⟨55, 0, 55, 17⟩) = some (.next, sD w os, codeM, ⟨73, 0, 153, 93⟩) := by kernel_rfl
theorem run4 (w : World) (os : OsState) : segS pg w 761 (sD w os) (thM 60 12 ⟨73, 0, 153, 93⟩) = some (.next, sE w os, codeM, ⟨271, 0, 279, 99⟩) := by kernel_rfl
theorem run_pre (w : World) (os : OsState) : topGo treeTable pg w 28 (some (.ref 6)) 12 (s0 w os) (topStub pg) = some (sA w os, ⟨denote treeTable codeM, codeM, pos0, [topFrame pos0]⟩) := by kernel_rfl
theorem run_block (w : World) (os : OsState) : segRun treeTable pg w 28 (some (.ref 6)) 1 1 (sA w os) (blockOf bodyM envM codeM pos0 [topFrame pos0]) = some (.next, sA w os, codeM, pos0) := by kernel_rfl
theorem run_fin (w : World) (os : OsState) : topRun treeTable pg w 28 (some (.ref 6)) 2 (sE w os) ⟨doneF .next, codeM, ⟨271, 0, 279, 99⟩, [topFrame pos0]⟩ = some (sE w os) := by kernel_rfl
theorem body_is : bodyM = stM 0 51 ++ (stM 51 1 ++ (stM 52 8 ++ (stM 60 12 ++ []))) := by kernel_rfl
theorem run2 (w : World) : ∀ os : OsState, segS pg w 979 (sB w os) (thM 51 1 ⟨54, 0, 54, 9⟩) = some (.next, sC w os, codeM, ⟨55, 0, 55, 17⟩) :=
  byRow2 "special-get-raises" (P := fun w => ∀ os : OsState, segS pg w 979 (sB w os) (thM 51 1 ⟨54, 0, 54, 9⟩) = some (.next, sC w os, codeM, ⟨55, 0, 55, 17⟩)) run2f run2t w
theorem run_all (w : World) (os : OsState) : topRun treeTable pg w 28 (some (.ref 6)) (12 + (1 + (480 + (979 + (1054 + (761 + 2)))))) (s0 w os) (topStub pg) = some (sE w os) := by
  refine go_top (run_pre w os) (piece_block (run_block w os) ?_)
  have e : restOf bodyM envM codeM pos0 [topFrame pos0] = restOf (stM 0 51 ++ (stM 51 1 ++ (stM 52 8 ++ (stM 60 12 ++ [])))) envM codeM pos0 [topFrame pos0] := congrArg (fun l => restOf l envM codeM pos0 [topFrame pos0]) body_is
  rw [e]
  exact piece_app (segS_of (run1 w os)) (piece_app (segS_of (run2 w os)) (piece_app (segS_of (run3 w os)) (piece_app (segS_of (run4 w os)) (piece_nil (run_fin w os)))))
/-! the looks at the end, each one check -/
theorem look_top (w : World) (os : OsState) : (staticsOk mods (h0 w.params) (hE w.params) && namesBound pg (hE w.params) && gensDone (sE w os) && laidKept (h0 w.params) (hE w.params)) = true := by kernel_rfl
theorem look1 (w : World) (os : OsState) : seen ((recsOf qv).map (·.name)) (ownsOf qv) [] { sE w os with gens := #[] } = expectedOf qv := by kernel_rfl
theorem look2 (w : World) (os : OsState) : (sE w os).heap.bltView = bltViewBooted := by kernel_rfl
theorem look31 (w : World) (os : OsState) : (sE w os).heap.keysOk (looseW qv looseNames) ((recsOf qv).map (·.name)) ((litsOf qv).map (·.1)) ((clssOf qv (looseW qv looseNames)).map (·.name)) = true := by kernel_rfl
theorem look32 (w : World) (os : OsState) : (sE w os).heap.accountedOkI mods = true := by kernel_rfl
theorem look33 (w : World) (os : OsState) : tablesOk qv (sE w os).heap = true := by kernel_rfl
theorem look34 (w : World) (os : OsState) : Xt0 (sE w os) = true := by kernel_rfl
theorem look35 (w : World) (os : OsState) : (sE w os).heap.isNs mainGlobals = true := by kernel_rfl
theorem look36 (w : World) (os : OsState) : (sE w os).heap.isNs builtinsNs = true := by kernel_rfl
theorem look37 (w : World) (os : OsState) : (if true then (sE w os).gens.size == 0 else !leftWithCleanup (sE w os).gens) = true := by kernel_rfl
theorem and7 {a b c d e f g : Bool} (ha : a = true) (hb : b = true) (hc : c = true) (hd : d = true) (he : e = true) (hf : f = true) (hg : g = true) : (a && b && c && d && e && f && g) = true := by
  subst ha hb hc hd he hf hg; rfl
theorem look4 (w : World) (os : OsState) : tabsOk qv (sE w os) = true := by kernel_rfl
theorem look5 (w : World) (os : OsState) : pinSeenD qv (drecsOf qv) (sE w os) = pinGoodD (drecsOf qv) := by kernel_rfl
theorem look6 (w : World) (os : OsState) : plainSeenE qv (looseW qv looseNames) (sE w os) = plainGoodE qv (looseW qv looseNames) := by kernel_rfl
theorem look7 (w : World) (os : OsState) : plainSeenD qv looseNames (sE w os) = plainGoodD qv looseNames := by kernel_rfl
theorem look8 (w : World) (os : OsState) : wideSeen qv (sE w os) = wideGood qv := by kernel_rfl
theorem look9 (w : World) (os : OsState) : clsSeenW qv looseNames (sE w os) = clsGoodW qv looseNames := by kernel_rfl
theorem look_obs (w : World) (os : OsState) : hook.obs (sE w os) = hook.val w := by kernel_rfl
theorem look_size (w : World) : ((h0 w.params).isNs mainGlobals && (#[] : Array GenState).size == 0, (h0 w.params).objs.size, (h0 w.params).nsMap mainGlobals "__annotations__") = (true, 28, some (.ref 6)) := by kernel_rfl
theorem look_seen (w : World) (os : OsState) : openSeen qv looseNames mods Xt0 true (sE w os) = openGood qv looseNames := by
  unfold openSeen openGood
  exact looks_pair (look1 w os) (looks_pair (look2 w os) (looks_pair (and7 (look31 w os) (look32 w os) (look35 w os) (look36 w os) (look33 w os) (look34 w os) (look37 w os)) (looks_pair (look4 w os) (looks_pair (look5 w os) (looks_pair (look6 w os) (looks_pair (look7 w os) (looks_pair (look8 w os) (look9 w os))))))))
theorem left : LeftO pg qv looseNames Xt0 hook.obs hook.val 6666 :=
  LeftO.of_pieces (H₀ := h0) (H₁ := hE) (gs₀ := #[]) (gs₁ := #[]) (d₀ := theDrawn) (d₁ := theDrawn) (k₀ := 276) (k₁ := 936) (m₀ := 28) (ann := some (.ref 6)) (M := 12 + (1 + (480 + (979 + (1054 + (761 + 2))))))
    (fun w => by
      obtain ⟨s, a, b⟩ := Option.map_eq_some_iff.mp (run_open w)
      rw [openT_of (stQ_eq _ _) (startQ_eq _) a]
      exact congrArg some b)
    look_size run_all (by decide) (fun w => funext fun os => looks_pair (look_top w os) (looks_pair (look_seen w os) (look_obs w os)))
end
section
open PySem PySem.W PyProof.Rows
set_option maxHeartbeats 0 in
theorem said_so : PySem.Challenge.rw_ul0027_01.wellSaid = true := by
  unfold OpenLaw.wellSaid OpenRow.wellSaid OpenRow.partSaid looksOpen
  repeat' with_reducible refine look_both ?_ ?_
  all_goals decide +kernel
section
local macro_rules | `(tactic| w_on) => `(tactic| skip)
local macro_rules | `(tactic| o_law) => `(tactic| refine holds_law said_so (fun said => ?_))
local macro_rules | `(tactic| k_head) => `(tactic| (
  refine PySem.W.holds_open (q := qv) (loose := looseNames) (Xt := Xt0) (XP := XL qv []) (Yf := hook.obs) (Ya := hook.val) (YP := hook.says) (N := 6666) left hook.of hook.keeps (fun s e => xl_of s (Bool.and_eq_true_iff.mp e).1) XL.keeps (by rfl) (by rfl) (by rfl) (fun s e => recFacts_of (Bool.and_eq_true_iff.mp e).2) (by rfl) (by first | assumption | decide +kernel) (by decide +kernel) ⟨rfl, rfl, rfl, rfl, rfl, by decide +kernel⟩ ?hw ?hc))
set_option maxHeartbeats 0 in
open_top hd for PySem.Challenge.rw_ul0027_01
end
end
section
open PySem PySem.W PyProof.Rows PySem.Calls PySem.Spec
/-- what a call of a def of the text does, said over a ledger -/
def Sp (w : World) (f : Addr) (args : Args) (news : List (Addr × Obj)) (d u : Nat) (Post : Value → List (Addr × Obj) → Prop) : Prop :=
  ∀ (p : Program) (loose : List Str) (mean : ExcName → Option Value) (mg mb : Str → Option Value) (dp un : Nat) (gd : Option (List Code)) (env : Env) (outer : List Env) (A₀ : Around) (base h₀ : Heap) (L : Addr) (m : Str → Option Value) (s : Shared) (R : Result → Shared → Prop),
    Below A₀ base outer h₀ → Fr h₀ L s.heap m → (frag.heap_1 w.params).In h₀ → News h₀ L s.heap news → Top p loose mean mg mb h₀ → env.frame = some L → env.scope.kind = .function →
    dp + d ≤ 990 → un + u ≤ 9890 →
    (∀ r news' h' tk', Fr h₀ L h' m → News h₀ L h' news' → Post r news' → R (.ok (.ret r)) { s with heap := h', toks := tk' }) →
    codeAny (model PySem.Challenge.rw_ul0027_01.row.prog w) { handled := none, depth := dp, frames := some (env :: outer), guards := gd, units := un } (.call (.ref f) args) R s
theorem around_is {A : Around} {env : Env} {outer : List Env} (h : A.handled = none) (hA : A.frames = some (env :: outer)) : A = { handled := none, depth := A.depth, frames := some (env :: outer), guards := A.guards, units := A.units } := by
  obtain ⟨hd, dp, fr, gd, un⟩ := A
  dsimp only at h hA
  subst h hA
  rfl
theorem deeper_is {A : Around} {env e : Env} {outer : List Env} (h : A.handled = none) (hA : A.frames = some (env :: outer)) : A.deeper e = { handled := none, depth := A.depth + 1, frames := some (e :: env :: outer), guards := A.guards, units := A.units + 3 } := by
  obtain ⟨hd, dp, fr, gd, un⟩ := A
  dsimp only at h hA
  subst h hA
  rfl
section
variable {prog : Program} {w : World} {A A₀ : Around} {s : Shared} {K : Frag} {L : Addr} {h₀ base : Heap} {m mg mb : Str → Option Value} {news : List (Addr × Obj)} {p : Program} {loose : List Str} {mean : ExcName → Option Value}
theorem enter {env : Env} {outer : List Env} {R : Result → Shared → Prop} {name qual : Str} {params : Arguments} {body : List Stmt} {scope : Scope} {dV kV doc pm cdv ct oc : Value} {an od : Option Addr} {osl : Array (Option Value)} {f : Addr} {args : Args} {binds : List (Str × Value)}
    (B : Below A₀ base outer h₀) (F : Fr h₀ L s.heap m) (X₀ : K.In h₀) (N : News h₀ L s.heap news) (T : Top p loose mean mg mb h₀) (hh : A.handled = none) (hA : A.frames = some (env :: outer)) (hf : env.frame = some L) (hke : env.scope.kind = .function)
    (ho : K.lookup f = some ⟨oc, od, .func (fnOf name qual params body scope dV kV doc pm an cdv ct), osl⟩) (hcd : codeIn K cdv qual = true) (hroom : A.depth + 1 ≤ 990)
    (hbind : BindsTo s (fnOf name qual params body scope dV kV doc pm an cdv ct) args binds) (hloc : ∀ y ∈ binds, scope.names.lookup y.1 = some .local)
    (h : ∀ dp un gd g L' h₁, dp = A.depth + 1 → un = A.units + 3 → Fr h₀ L g m → Fr g L' h₁ (fun y => binds.reverse.lookup y) → News g L' h₁ news → Below A base (env :: outer) g → K.In g → Top p loose mean mg mb g →
      wpAny (model prog w) { handled := none, depth := dp, frames := some (envOf qual scope L' f cdv :: env :: outer), guards := gd, units := un } (execs body (envOf qual scope L' f cdv))
        (fun fl s' => LeaveK h₀ L m g R (match fl with | .ret v => v | _ => .none) s') (fun _ _ => False)
        { s with heap := h₁, toks := s.toks + binds.length })
    (hco : scope.isCoroutine = false) (hgen : scope.isGenerator = false) (hk : scope.kind = .function)
    (hcell : ∀ x ∈ scope.names, x.2 ≠ .cell) : codeAny (model prog w) A (.call (.ref f) args) R s :=
  code_def B F X₀ N T hA hf hke ho hcd (by simp only [recursionLimit]; omega) hbind hloc
    (fun g L' h₁ FG F' N' B' X' T' => wpAny_mono (deeper_is (e := envOf qual scope L' f cdv) hh hA ▸ h _ _ _ g L' h₁ rfl rfl FG F' N' B' X' T') (fun _ _ x => x) fun _ _ x => x.elim) hco hgen hk hcell
theorem enterC {env : Env} {outer : List Env} {R : Result → Shared → Prop} {name qual : Str} {params : Arguments} {body : List Stmt} {scope : Scope} {dV kV doc pm cdv ct oc : Value} {an od : Option Addr} {osl : Array (Option Value)} {f : Addr} {args : Args} {binds : List (Str × Value)}
    (B : Below A₀ base outer h₀) (F : Fr h₀ L s.heap m) (X₀ : K.In h₀) (N : News h₀ L s.heap news) (T : Top p loose mean mg mb h₀) (hh : A.handled = none) (hA : A.frames = some (env :: outer)) (hf : env.frame = some L) (hke : env.scope.kind = .function)
    (ho : K.lookup f = some ⟨oc, od, .func (fnOf name qual params body scope dV kV doc pm an cdv ct), osl⟩) (hcd : codeIn K cdv qual = true) (hroom : A.depth + 1 ≤ 990)
    (hbind : BindsTo s (fnOf name qual params body scope dV kV doc pm an cdv ct) args binds) (hkind : (binds.all fun y => scope.names.lookup y.1 == some .local || scope.names.lookup y.1 == some .cell) = true)
    (hnd : ((cellsFrom 0 scope.names []).map (·.1)).Nodup)
    (h : ∀ dp un gd g L' h₁ tk cells, dp = A.depth + 1 → un = A.units + 3 → Fr h₀ L g m → Fr g L' h₁ (bindL (envOfC qual scope L' f cdv).kindOf binds fun _ => none) → News g L' h₁ (cells ++ news) →
      CellsAre (bindC (envOfC qual scope L' f cdv).kindOf binds fun _ => none) (cellsFrom (L' + 1) scope.names []) cells → Below A base (env :: outer) g → K.In g → Top p loose mean mg mb g → (∀ p ∈ news, p.1 < L') →
      wpAny (model prog w) { handled := none, depth := dp, frames := some (envOfC qual scope L' f cdv :: env :: outer), guards := gd, units := un } (execs body (envOfC qual scope L' f cdv))
        (fun fl s' => LeaveK h₀ L m g R (match fl with | .ret v => v | _ => .none) s') (fun _ _ => False)
        { s with heap := h₁, toks := tk })
    (hco : scope.isCoroutine = false) (hgen : scope.isGenerator = false) (hk : scope.kind = .function) : codeAny (model prog w) A (.call (.ref f) args) R s :=
  code_defC B F X₀ N T hA hf hke ho hcd (by simp only [recursionLimit]; omega) hbind hkind hnd
    (fun g L' h₁ tk cells FG F' N' Y B' X' T' l => wpAny_mono (deeper_is (e := envOfC qual scope L' f cdv) hh hA ▸ h _ _ _ g L' h₁ tk cells rfl rfl FG F' N' Y B' X' T' l) (fun _ _ x => x) fun _ _ x => x.elim) hco hgen hk
theorem enterM {env : Env} {outer : List Env} {R : Result → Shared → Prop} {name qual : Str} {params : Arguments} {body : List Stmt} {scope : Scope} {dV kV doc pm cdv ct oc : Value} {an od : Option Addr} {osl : Array (Option Value)} {f : Addr} {args : Args} {nm : Str} {ex front : List (Str × Value)} {DD : List (PyData × PyData)} {g₁ : Addr → Sem (List (Str × Value))}
    (B : Below A₀ base outer h₀) (F : Fr h₀ L s.heap m) (X₀ : K.In h₀) (N : News h₀ L s.heap news) (T : Top p loose mean mg mb h₀) (hh : A.handled = none) (hA : A.frames = some (env :: outer)) (hf : env.frame = some L) (hke : env.scope.kind = .function)
    (ho : K.lookup f = some ⟨oc, od, .func (fnOf name qual params body scope dV kV doc pm an cdv ct), osl⟩) (hcd : codeIn K cdv qual = true) (hroom : A.depth + 1 ≤ 990)
    (hx : args.kw.filter (fun x => !ownKw params x.1) = ex) (hnm : params.kwarg.map (·.arg) = some nm) (hn : kwDistinct ex = true) (hD : PyProof.V.FlatPairs PyData.str ex DD)
    (hfr : peek K ⟨prog, w.params⟩ (bindArgs (fnCut (fnOf name qual params body scope dV kV doc pm an cdv ct)) (argsCut params args)) = some front)
    (hp : peekA K ⟨prog, w.params⟩ (bindArgs (fnOf name qual params body scope dV kV doc pm an cdv ct) args) = some (dictOf [] 0, g₁))
    (hk₁ : ∀ D, g₁ D = (forIn ex PUnit.unit (fun x _ => (nsSet D x.1 x.2 >>= fun _ => pure (ForInStep.yield PUnit.unit))) >>= fun _ => pure (front ++ [(nm, Value.ref D)])))
    (hloc : ∀ D, ∀ y ∈ front ++ [(nm, Value.ref D)], scope.names.lookup y.1 = some .local)
    (h : ∀ dp un gd D o g L' h₁ tk, dp = A.depth + 1 → un = A.units + 3 → (∀ p ∈ news, p.1 < D) → (D == sysModules) = false → o.IsDictOf (strKind prog w) ex → PyProof.V.FlatPairs PyData.str ex DD → Fr h₀ L g m → Fr g L' h₁ (fun y => (front ++ [(nm, Value.ref D)]).reverse.lookup y) → News g L' h₁ ((D, o) :: news) → Below A base (env :: outer) g → K.In g → Top p loose mean mg mb g →
      wpAny (model prog w) { handled := none, depth := dp, frames := some (envOf qual scope L' f cdv :: env :: outer), guards := gd, units := un } (execs body (envOf qual scope L' f cdv))
        (fun fl s' => LeaveK h₀ L m g R (match fl with | .ret v => v | _ => .none) s') (fun _ _ => False)
        { s with heap := h₁, toks := tk })
    (hco : scope.isCoroutine = false) (hgen : scope.isGenerator = false) (hk : scope.kind = .function)
    (hcell : ∀ x ∈ scope.names, x.2 ≠ .cell) : codeAny (model prog w) A (.call (.ref f) args) R s :=
  kp_more B F X₀ N T hA hf hke ho hcd (by simp only [recursionLimit]; omega) hx hnm hn hD hfr hp hk₁ hloc
    (fun D o g L' h₁ tk a1 a2 a3 a4 FG F' N' B' X' T' => wpAny_mono (deeper_is (e := envOf qual scope L' f cdv) hh hA ▸ h _ _ _ D o g L' h₁ tk rfl rfl a1 a2 a3 a4 FG F' N' B' X' T') (fun _ _ x => x) fun _ _ x => x.elim) hco hgen hk hcell
end
end
section
open PySem PySem.W PyProof.Rows PySem.Calls PySem.Spec
/-! plain data -/
def lo (n : Nat) : String := (["k", "K", "l"].getD (n % 3) "") ++ (["", "k", "l"].getD (n / 3 % 3) "")
def sp (n : Nat) : String := ["", "u", "U"].getD (n / 9) ""
def wordsOf (n : Nat) : List Str := if n < 9 then [Str.ofString (lo n)] else [Str.ofString (sp n), Str.ofString (lo n)]
def joined (n : Nat) : Str := if n < 9 then Str.ofString (lo n) else Str.ofString (sp n ++ " " ++ lo n)
def plainOf (n : Nat) : Str := if n < 9 then Str.ofString (lo n) else Str.ofString ("{" ++ sp n ++ "}" ++ lo n)
theorem newsSub {h₀ h : Heap} {L : Addr} {l l' : List (Addr × Obj)} (N : News h₀ L h l) (hs : ∀ p ∈ l', p ∈ l) : News h₀ L h l' := fun p hp => N p (hs p hp)
theorem allLt_mem {d : Addr} : ∀ {l : List (Addr × Obj)}, AllLt d l → ∀ p ∈ l, p.1 < d
  | [], _, _, h => nomatch h
  | _ :: _, x, p, h => by
    rcases List.mem_cons.mp h with rfl | h
    · exact x.1
    · exact allLt_mem x.2 p h
theorem subR {α : Type} {l : List α} : ∀ p ∈ l, p ∈ l := fun _ h => h
theorem subC {α : Type} {a : α} {l l' : List α} (h : ∀ p ∈ l, p ∈ l') : ∀ p ∈ a :: l, p ∈ a :: l' := fun p hp => by
  rcases List.mem_cons.mp hp with rfl | hp
  · exact .head _
  · exact .tail _ (h p hp)
theorem subS {α : Type} {a : α} {l l' : List α} (h : ∀ p ∈ l, p ∈ l') : ∀ p ∈ l, p ∈ a :: l' := fun p hp => .tail _ (h p hp)
theorem Sp.use {w : World} {f : Addr} {pos : List Value} {kw : List (Str × Value)} {news : List (Addr × Obj)} {d u : Nat} {Post : Value → List (Addr × Obj) → Prop} (S : Sp w f ⟨pos, kw⟩ news d u Post)
    {p : Program} {loose : List Str} {mean : ExcName → Option Value} {mg mb : Str → Option Value} {A : Around} {env : Env} {outer : List Env} {A₀ : Around} {base h₀ : Heap} {L : Addr} {m : Str → Option Value} {s : Shared} {Q E : Value → Shared → Prop}
    (B : Below A₀ base outer h₀) (F : Fr h₀ L s.heap m) (X : (frag.heap_1 w.params).In h₀) (N : News h₀ L s.heap news) (T : Top p loose mean mg mb h₀) (hh : A.handled = none) (hA : A.frames = some (env :: outer)) (hf : env.frame = some L) (hke : env.scope.kind = .function)
    (hd : A.depth + d ≤ 990) (hu : A.units + u ≤ 9890)
    (ret : ∀ r news' h' tk', Fr h₀ L h' m → News h₀ L h' news' → Post r news' → Q r { s with heap := h', toks := tk' }) :
    wpAny (model PySem.Challenge.rw_ul0027_01.row.prog w) A (call (.ref f) pos kw) Q E s :=
  wpAny_call (around_is hh hA ▸ S p loose mean mg mb _ _ A.guards env outer A₀ base h₀ L m s _ B F X N T hf hke hd hu fun r news' h' tk' F' N' P' => ret r news' h' tk' F' N' P')
theorem Sp.weaken {w : World} {f : Addr} {args : Args} {news : List (Addr × Obj)} {d u d' u' : Nat} {Post : Value → List (Addr × Obj) → Prop} (S : Sp w f args news d u Post) (hd : d ≤ d') (hu : u ≤ u') : Sp w f args news d' u' Post :=
  fun p loose mean mg mb dp un gd env outer A₀ base h₀ L m s R B F X N T hfe hke h1 h2 ret => S p loose mean mg mb dp un gd env outer A₀ base h₀ L m s R B F X N T hfe hke (by omega) (by omega) ret
theorem Sp.post {w : World} {f : Addr} {args : Args} {news : List (Addr × Obj)} {d u : Nat} {Post Post' : Value → List (Addr × Obj) → Prop} (S : Sp w f args news d u Post) (hp : ∀ r n, Post r n → Post' r n) : Sp w f args news d u Post' :=
  fun p loose mean mg mb dp un gd env outer A₀ base h₀ L m s R B F X N T hfe hke h1 h2 ret => S p loose mean mg mb dp un gd env outer A₀ base h₀ L m s R B F X N T hfe hke h1 h2 fun r n' h' tk' F' N' P' => ret r n' h' tk' F' N' (hp _ _ P')
theorem Sp.code {w : World} {f : Addr} {args : Args} {news : List (Addr × Obj)} {d u : Nat} {Post : Value → List (Addr × Obj) → Prop} (S : Sp w f args news d u Post)
    {p : Program} {loose : List Str} {mean : ExcName → Option Value} {mg mb : Str → Option Value} {A : Around} {env : Env} {outer : List Env} {A₀ : Around} {base h₀ : Heap} {L : Addr} {m : Str → Option Value} {s : Shared} {R : Result → Shared → Prop}
    (B : Below A₀ base outer h₀) (F : Fr h₀ L s.heap m) (X : (frag.heap_1 w.params).In h₀) (N : News h₀ L s.heap news) (T : Top p loose mean mg mb h₀) (hh : A.handled = none) (hA : A.frames = some (env :: outer)) (hf : env.frame = some L) (hke : env.scope.kind = .function)
    (hd : A.depth + d ≤ 990) (hu : A.units + u ≤ 9890)
    (ret : ∀ r news' h' tk', Fr h₀ L h' m → News h₀ L h' news' → Post r news' → R (.ok (.ret r)) { s with heap := h', toks := tk' }) :
    codeAny (model PySem.Challenge.rw_ul0027_01.row.prog w) A (.call (.ref f) args) R s :=
  around_is hh hA ▸ S p loose mean mg mb _ _ A.guards env outer A₀ base h₀ L m s _ B F X N T hf hke hd hu fun r news' h' tk' F' N' P' => ret r news' h' tk' F' N' P'
end
open PySem PySem.W PyProof.Rows PySem.Calls PySem.Spec
theorem filledAll : PySem.Challenge.rw_ul0027_01 = PySem.Challenge.rw_ul0027_01 ∧ frag.heap_1 = frag.heap_1 := by
  k_fill; exact ⟨rfl, rfl⟩
section
open PySem PySem.W PyProof.Rows PySem.Calls PySem.Spec PySem.Builtin.Re
theorem re_attrs : PlainAttrs "re.Pattern" :=
  ⟨⟨"object.__getattribute__", by rw [typeLookup_type, builtinLookup_eq_fast]; kernel_rfl, by decide +kernel⟩, by rw [typeLookup_type, builtinLookup_eq_fast]; kernel_rfl⟩
theorem re_slot : Slot "re.Pattern" "search" "re.Pattern.search" :=
  .of (owner := "re.Pattern") (n := "search") (by rw [typeLookup_type, builtinLookup_eq_fast]; kernel_rfl) (by decide +kernel) (by decide +kernel) (by decide +kernel)
    (by first | exact .inl (by decide +kernel) | exact .inr (by decide +kernel)) (by rw [isSubtype_type]; kernel_rfl)
theorem re_type : typeOf (.builtin "re.Pattern.search") = pure (.type "method_descriptor") := by show builtinType _ = _; rw [builtinType_eq_fast]; kernel_rfl
theorem re_entry : entryFor table "re.Pattern.search" = some Builtin.«re.Pattern.search» := entryFor_of_tree (by kernel_rfl)
theorem re_args (a b : Value) : argsOk "re.Pattern.search" ⟨[a, b], []⟩ := by unfold argsOk; kernel_rfl
theorem re_named (v : Value) : reNamed "re.Pattern.search" "search" ["string", "pos", "endpos"] 1 [v] [] = pure [some v, none, none] := by kernel_rfl
theorem forIn_rules {M : Model} {A : Around} {E : Value → Shared → Prop} {s : Shared} {Q : PUnit → Shared → Prop} (c : Nat → Bool) (f : Nat → String) (l : List Nat) (h : Q PUnit.unit s) :
    wpAny M A (forIn l PUnit.unit fun i _ => (if c i = true then (rule (f i) >>= fun _ => pure (ForInStep.yield PUnit.unit)) else pure (ForInStep.yield PUnit.unit) : Sem (ForInStep PUnit))) Q E s := by
  induction l with
  | nil => exact wpAny_pure h
  | cons i l ih =>
    rw [List.forIn_cons]
    refine wpAny_bind ?_
    cases c i with
    | true => exact wpAny_bind (wpAny_rule (wpAny_pure ih))
    | false => exact wpAny_pure ih
theorem reRun_failed {M : Model} {A : Around} {E : Value → Shared → Prop} {s : Shared} {Q : Option Sre.M → Shared → Prop} {m : Sre.M} (h : (m.runFor reTurnSteps).outcome = some .failed) (hq : Q none s) :
    wpAny M A (reRunToEnd m) Q E s := by
  unfold reRunToEnd
  have e : reDrive (2 ^ 64) m = pure (m.runFor reTurnSteps) := by
    show reDrive (18446744073709551615 + 1) m = _
    unfold reDrive
    simp only [h, Option.isSome_some, if_true]
  rw [e]
  refine wpAny_bind (wpAny_pure (wpAny_bind (forIn_rules _ _ _ ?_)))
  rw [h]
  exact wpAny_pure hq
def nameCode : Array Nat := #[14, 10, 4, 1, 1, 22, 0, 31, 16, 127, 0, 13, 7, 22, 0, 31, 16, 127, 0, 1]
def valCode : Array Nat := #[14, 14, 4, 1, 1, 9, 4294966783, 0, 0, 2147483648, 0, 0, 0, 0, 0, 13, 11, 9, 4294966783, 0, 0, 2147483648, 0, 0, 0, 0, 0, 1]
/-- signs that both patterns let pass -/
def Clean (x : Str) : Prop := ∀ c ∈ x.cps.toList, 32 ≤ c ∧ c < 127
def Passes (code : Array Nat) : Prop := ∀ c, 32 ≤ c → c < 127 → ∀ seen, ∃ seen', Sre.inSet code c code.size 5 true seen = .ok (false, seen')
theorem name_passes : Passes nameCode := by
  intro c h1 h2 seen
  refine ⟨((seen.add 22).add 16).add 0, ?_⟩
  have e1 : ¬ (c ≤ 31) := by omega
  have e2 : ¬ (c = 127) := by omega
  show Sre.inSet nameCode c (17 + 1 + 1 + 1) 5 true seen = _
  rw [Sre.inSet]
  show (if (decide (0 ≤ c) && decide (c ≤ 31)) = true then _ else Sre.inSet nameCode c (17 + 1 + 1) 8 true (seen.add 22)) = _
  rw [if_neg (by simp [e1]), Sre.inSet]
  show (if (c == 127) = true then _ else Sre.inSet nameCode c (17 + 1) 10 true ((seen.add 22).add 16)) = _
  rw [if_neg (by simp [e2]), Sre.inSet]
  rfl
theorem val_bits : ∀ c : Fin 127, 32 ≤ (c : Nat) → ((c : Nat) < 256 && (valCode.getD (5 + (1 + (c : Nat) / 32)) 0).testBit ((c : Nat) % 32)) = false := by decide +kernel
theorem val_passes : Passes valCode := by
  intro c h1 h2 seen
  refine ⟨(seen.add 9).add 0, ?_⟩
  show Sre.inSet valCode c (26 + 1 + 1) 5 true seen = _
  rw [Sre.inSet]
  show (if (decide (c < 256) && (valCode.getD (5 + (1 + c / 32)) 0).testBit (c % 32)) = true then _ else Sre.inSet valCode c (26 + 1) 14 true (seen.add 9)) = _
  rw [if_neg (by rw [val_bits ⟨c, h2⟩ h1]; exact Bool.false_ne_true), Sre.inSet]
  rfl
theorem admitted_none {m : Sre.M} (hc : Passes m.code) (ht : ∀ c ∈ m.text.toList, 32 ≤ c ∧ c < 127) (hl : m.lim ≤ m.text.size) : ∀ fuel p seen, ∃ seen', Sre.M.admitted m fuel p seen = .ok (none, seen')
  | 0, _, seen => ⟨seen, rfl⟩
  | fuel + 1, p, seen => by
    unfold Sre.M.admitted
    by_cases hp : p ≥ m.lim
    · rw [if_pos hp]; exact ⟨seen, rfl⟩
    · rw [if_neg hp]
      have hlt : p < m.text.size := by omega
      have hm : m.text.getD p 0 ∈ m.text.toList := by
        rw [Array.getD_eq_getD_getElem?, Array.getElem?_eq_getElem hlt]
        simp
      obtain ⟨s1, e1⟩ := hc _ (ht _ hm).1 (ht _ hm).2 seen
      rw [e1]
      exact admitted_none hc ht hl fuel (p + 1) s1
theorem say_fails (m : Sre.M) (ho : m.outcome = none) (hf : m.frames = []) : ((m.say false).runFor reTurnSteps).outcome = some .failed := by
  obtain ⟨code, text, lim, start, ls, wt, ma, pc, pos, handed, om, marks, lm, li, loops, inner, frames, weight, answer, seen, outcome⟩ := m
  dsimp only at ho hf
  subst ho hf
  rfl
theorem attemptFrom_fails {m : Sre.M} (hf : m.hasFirstSet = true) (hc : Passes m.code) (ht : ∀ c ∈ m.text.toList, 32 ≤ c ∧ c < 127) (hl : m.lim ≤ m.text.size) (ho : m.outcome = none) (hfr : m.frames = []) (p : Nat) (b : Bool) :
    ((m.attemptFrom p b).runFor reTurnSteps).outcome = some .failed := by
  unfold Sre.M.attemptFrom
  rw [if_neg (by rw [hf]; decide)]
  obtain ⟨s1, e1⟩ := admitted_none hc ht hl (m.lim + 1 - p) p m.seen
  rw [e1]
  exact say_fails _ ho hfr
theorem search_name (text : Array Nat) (ht : ∀ c ∈ text.toList, 32 ≤ c ∧ c < 127) : ((Sre.forSearch nameCode text 0 0 text.size false).runFor reTurnSteps).outcome = some .failed := by
  unfold Sre.forSearch
  dsimp only
  split
  · exact say_fails _ rfl rfl
  · exact attemptFrom_fails (by rfl) name_passes ht (Nat.le_refl _) rfl rfl _ _
theorem search_val (text : Array Nat) (ht : ∀ c ∈ text.toList, 32 ≤ c ∧ c < 127) : ((Sre.forSearch valCode text 0 0 text.size false).runFor reTurnSteps).outcome = some .failed := by
  unfold Sre.forSearch
  dsimp only
  split
  · exact say_fails _ rfl rfl
  · exact attemptFrom_fails (by rfl) val_passes ht (Nat.le_refl _) rfl rfl _ _
/-- a compiled pattern and its words in the heap -/
def PatAt (h : Heap) (a c : Addr) (code : Array Nat) (pt : Value) (ft : Tok) : Prop :=
  h.get? a = some { cls := .type "re.Pattern", data := .fields #[pt, .int 32 ft, .int 0 0, .none, .none, .ref c, .int 0 0] } ∧
  h.get? c = some { cls := .type "tuple", data := .seq (code.map fun n => Value.int (n : Nat) 0) 0 }
section
variable {prog : Program} {w : World} {A : Around} {E : Value → Shared → Prop} {s : Shared} {a c : Addr} {code : Array Nat} {pt : Value} {ft tk : Tok} {x : Str}
theorem wp_fieldsOf {M : Model} {o : Obj} {vs : Array Value} {Q : Array Value → Shared → Prop} (ho : s.heap.get? a = some o) (hd : o.data = .fields vs) (h : Q vs s) : wpAny M A (fieldsOf (.ref a)) Q E s := by
  simp only [fieldsOf]
  refine wpAny_bind (wpAny_load ho ?_)
  rw [hd]
  exact wpAny_pure h
theorem reText_str : reTextOf (.str x tk) = pure (x.cps, 0) := rfl
theorem wp_rawItems {M : Model} {o : Obj} {vs : Array Value} {n : Nat} {Q : Array Int → Shared → Prop} (ho : s.heap.get? a = some o) (hd : o.data = .seq vs n) (h : Q (vs.map reRawOf) s) : wpAny M A (reRawItems (.ref a)) Q E s := by
  unfold reRawItems
  exact wpAny_bind (wpAny_seqItems ho hd (wpAny_pure h))
theorem re_code (code : Array Nat) : ((code.map fun n => Value.int (n : Nat) 0).map reRawOf).map (·.toNat) = code := by
  rw [Array.map_map, Array.map_map]
  have : ((fun x : Int => x.toNat) ∘ reRawOf) ∘ (fun n : Nat => Value.int (n : Nat) 0) = id := by
    funext n; simp [reRawOf]
  rw [this, Array.map_id]
theorem re_target {M : Model} {Q : ReTarget → Shared → Prop} (P : PatAt s.heap a c code pt ft) (hx : x.length < 2 ^ 63)
    (h : Q { pattern := .ref a, string := .str x tk, code := code, text := x.cps, kind := 0, groups := 0, pos := 0, lim := x.cps.size } s) :
    wpAny M A (reTarget "re.Pattern.search" "search" ⟨[.ref a, .str x tk], []⟩) Q E s := by
  obtain ⟨h1, h2⟩ := P
  unfold reTarget
  show wpAny M A (reNamed "re.Pattern.search" "search" ["string", "pos", "endpos"] 1 [.str x tk] [] >>= _) Q E s
  rw [re_named]
  refine wpAny_bind (wpAny_pure ?_)
  show wpAny M A ((pure 0 : Sem Int) >>= _) Q E s
  refine wpAny_bind (wpAny_pure ?_)
  show wpAny M A ((pure (2 ^ 63 - 1) : Sem Int) >>= _) Q E s
  refine wpAny_bind (wpAny_pure (wpAny_bind (wp_fieldsOf h1 rfl ?_)))
  rw [reText_str]
  refine wpAny_bind (wpAny_pure ?_)
  show wpAny M A (reNoCollectionInside (.str x tk) 0 >>= _) Q E s
  refine wpAny_bind (wpAny_of_eq (show reNoCollectionInside (.str x tk) 0 = pure () from rfl) ?_)
  refine wpAny_bind (wp_rawItems h2 rfl (wpAny_pure ?_))
  rw [re_code]
  have e : min ((2 : Int) ^ 63 - 1).toNat x.cps.size = x.cps.size := Nat.min_eq_right (by have : x.cps.size < 2 ^ 63 := hx; omega)
  show Q { pattern := .ref a, string := .str x tk, code := code, text := x.cps, kind := 0, groups := 0, pos := min 0 x.cps.size, lim := min ((2 : Int) ^ 63 - 1).toNat x.cps.size } s
  rw [e, Nat.zero_min]
  exact h
theorem re_search {Q : Value → Shared → Prop}
    (P : PatAt s.heap a c code pt ft) (hf : ((Sre.forSearch code x.cps 0 0 x.cps.size false).runFor reTurnSteps).outcome = some .failed) (hx : x.length < 2 ^ 63) (h : Q .none s) :
    wpAny (model prog w) A (call (.builtin "re.Pattern.search") [.ref a, .str x tk]) Q E s := by
  refine wpAny_call_entry re_slot ⟨_, P.1, rfl⟩ re_entry ?_ (re_args _ _)
  unfold Builtin.«re.Pattern.search»
  refine wpAny_bind (re_target P hx ?_)
  unfold reAnswer
  refine wpAny_bind (reRun_failed hf ?_)
  exact wpAny_pure ⟨_, rfl, h⟩
theorem re_method {M : Model} {pl : Sem Bool} {Q : Value × List Value → Shared → Prop} (P : PatAt s.heap a c code pt ft) (h : Q (.builtin "re.Pattern.search", [.ref a]) s) :
    wpAny M A (getMethod (.ref a) (Str.ofString "search") pl) Q E s :=
  getMethod_builtin ⟨_, P.1, rfl⟩ re_attrs re_slot re_type (fun b e => by cases e; exact ⟨_, P.1, rfl⟩) h
end
end
section
open PySem PySem.W PyProof.Rows PySem.Calls PySem.Spec
/-! the game, plainly -/
inductive G where
  | leaf (i : Nat)
  | node (o : Bool) (ps : List G)
def leafS (i : Nat) : Str := Txt.item (Str.ofString "abcdABCD") (i : Int)
def opS (o : Bool) : Str := Str.ofString (if o then "|" else "&")
def lts (x y : Str) : Bool := decide (x.cps.toList < y.cps.toList)
def gts (o : Bool) (b x : Str) : Bool := match o with | true => lts b x | false => lts x b
def bet (o : Bool) (b x : Str) : Str := if gts o b x = true then x else b
def best (o : Bool) : List Str → Str
  | [] => Str.empty
  | x :: xs => xs.foldl (bet o) x
mutual
def G.size : G → Nat
  | .leaf _ => 1
  | .node _ ps => 1 + sizes ps
def sizes : List G → Nat
  | [] => 0
  | g :: gs => g.size + sizes gs
end
mutual
def G.Ok : G → Prop
  | .leaf i => i < 8
  | .node _ ps => ps ≠ [] ∧ Oks ps
def Oks : List G → Prop
  | [] => True
  | g :: gs => g.Ok ∧ Oks gs
end
mutual
def G.worth (pl : Nat → Str) : G → Str
  | .leaf i => pl (i % 4)
  | .node o ps => best o (worths pl ps)
def worths (pl : Nat → Str) : List G → List Str
  | [] => []
  | g :: gs => g.worth pl :: worths pl gs
end
mutual
def G.written : G → Str
  | .leaf i => leafS i
  | .node o ps => Str.ofString "(" ++ Str.join (opS o) (writtens ps) ++ Str.ofString ")"
def writtens : List G → List Str
  | [] => []
  | g :: gs => g.written :: writtens gs
end
/-! how a ledger bears it -/
mutual
def GAt (news : List (Addr × Obj)) : Value → G → Prop
  | v, .leaf i => ∃ t, v = .str (leafS i) t
  | v, .node o ps => ∃ a t vs n, v = .ref a ∧ (a, W.listOf (List.toArray (.str (opS o) t :: vs)) n) ∈ news ∧ GsAt news vs ps
def GsAt (news : List (Addr × Obj)) : List Value → List G → Prop
  | [], [] => True
  | v :: vs, g :: gs => GAt news v g ∧ GsAt news vs gs
  | _, _ => False
end
mutual
theorem GAt.mono {news news' : List (Addr × Obj)} (hs : ∀ p ∈ news, p ∈ news') : ∀ (g : G) {v : Value}, GAt news v g → GAt news' v g
  | .leaf i, v, h => by unfold GAt at h ⊢; exact h
  | .node o ps, v, h => by
    unfold GAt at h ⊢
    obtain ⟨a, t, vs, n, e, hm, hp⟩ := h
    exact ⟨a, t, vs, n, e, hs _ hm, GsAt.mono hs ps hp⟩
theorem GsAt.mono {news news' : List (Addr × Obj)} (hs : ∀ p ∈ news, p ∈ news') : ∀ (gs : List G) {vs : List Value}, GsAt news vs gs → GsAt news' vs gs
  | [], [], _ => by unfold GsAt; trivial
  | [], _ :: _, h => by unfold GsAt at h; exact h.elim
  | _ :: _, [], h => by unfold GsAt at h; exact h.elim
  | g :: gs, v :: vs, h => by
    unfold GsAt at h ⊢
    exact ⟨GAt.mono hs g h.1, GsAt.mono hs gs h.2⟩
end
theorem GsAt.len {news : List (Addr × Obj)} : ∀ {gs : List G} {vs : List Value}, GsAt news vs gs → vs.length = gs.length
  | [], [], _ => rfl
  | [], _ :: _, h => by unfold GsAt at h; exact h.elim
  | _ :: _, [], h => by unfold GsAt at h; exact h.elim
  | _ :: gs, _ :: vs, h => by unfold GsAt at h; simp [GsAt.len h.2]
theorem GsAt.get {news : List (Addr × Obj)} : ∀ {gs : List G} {vs : List Value}, GsAt news vs gs → ∀ {i : Nat} {v : Value}, vs[i]? = some v → ∃ g, gs[i]? = some g ∧ GAt news v g
  | [], [], _, i, v, e => by simp at e
  | [], _ :: _, h, _, _, _ => by unfold GsAt at h; exact h.elim
  | _ :: _, [], h, _, _, _ => by unfold GsAt at h; exact h.elim
  | g :: gs, w :: vs, h, 0, v, e => by
    unfold GsAt at h
    simp only [List.getElem?_cons_zero, Option.some.injEq] at e
    subst e
    exact ⟨g, rfl, h.1⟩
  | g :: gs, w :: vs, h, i + 1, v, e => by
    unfold GsAt at h
    exact GsAt.get h.2 e
theorem node_size (o : Bool) (ps : List G) : (G.node o ps).size = 1 + sizes ps := by rw [G.size]
theorem sizes_mem {gs : List G} {g : G} (h : g ∈ gs) : g.size ≤ sizes gs := by
  induction gs with
  | nil => cases h
  | cons a gs ih =>
    unfold sizes
    rcases List.mem_cons.mp h with rfl | h
    · omega
    · have := ih h; omega
theorem Oks_mem {gs : List G} {g : G} (hk : Oks gs) (h : g ∈ gs) : g.Ok := by
  induction gs with
  | nil => cases h
  | cons a gs ih =>
    unfold Oks at hk
    rcases List.mem_cons.mp h with rfl | h
    · exact hk.1
    · exact ih hk.2 h
theorem size_pos (g : G) : 0 < g.size := by cases g <;> unfold G.size <;> omega
theorem sizes_len : ∀ (gs : List G), gs.length ≤ sizes gs
  | [] => by simp
  | g :: gs => by
    have := sizes_len gs
    have := size_pos g
    unfold sizes
    simp only [List.length_cons]
    omega
theorem opS_is : ∀ o, (opS o == Str.ofString "|") = o := by decide
theorem worths_len (pl : Nat → Str) : ∀ gs, (worths pl gs).length = gs.length
  | [] => rfl
  | _ :: gs => by unfold worths; simp [worths_len pl gs]
theorem worths_get (pl : Nat → Str) : ∀ {gs : List G} {i : Nat} {x : Str}, (worths pl gs)[i]? = some x → ∃ g, gs[i]? = some g ∧ x = g.worth pl
  | [], i, x, h => by unfold worths at h; simp at h
  | g :: gs, 0, x, h => by unfold worths at h; simp at h; exact ⟨g, rfl, h.symm⟩
  | g :: gs, i + 1, x, h => by unfold worths at h; exact worths_get pl (gs := gs) (by simpa using h)
theorem leaf_len : ∀ i : Fin 8, (leafS i).length = 1 := by decide +kernel
theorem leaf_low : ∀ i : Fin 8, Txt.lower (leafS i) = Str.ofString (["a", "b", "c", "d"].getD (i % 4) "") := by decide +kernel
theorem leaf_clean : ∀ i : Fin 8, ∀ c ∈ (leafS i).cps.toList, 32 ≤ c ∧ c < 127 := by decide +kernel
section
variable {prog : Program} {w : World} {A : Around} {E : Value → Shared → Prop} {s : Shared} {h₀ : Heap} {L : Addr} {m : Str → Option Value} {news : List (Addr × Obj)}
theorem len_led {a n : Nat} {l : List Value} {Q : Value → Shared → Prop} (N : News h₀ L s.heap news) (hm : (a, W.listOf l.toArray n) ∈ news) (hs : l.length ≤ 1000000)
    (h : ∀ t k, Q (.int (l.length : Nat) t) { s with toks := k }) : wpAny (model prog w) A (call (.builtin "len") [.ref a]) Q E s :=
  call_len_list (News.isList N hm) (by rw [List.size_toArray]; omega) (by rw [List.size_toArray]; exact h _ _)
end
end
section
open PySem PySem.W PyProof.Rows PySem.Calls PySem.Spec
/-! max and min of a list of texts -/
def btOf (o : Bool) (xs : List Str) (i j : Nat) : Bool := gts o (xs.getD j Str.empty) (xs.getD i Str.empty)
theorem argBest_fold (o : Bool) (x : Str) (xs : List Str) : ∀ k, k ≤ xs.length → (x :: xs).getD (argBest (btOf o (x :: xs)) k) Str.empty = (xs.take k).foldl (bet o) x
  | 0, _ => rfl
  | k + 1, h => by
    have ih := argBest_fold o x xs k (by omega)
    have hk : xs[k]? = some (xs.getD k Str.empty) := by rw [List.getD_eq_getElem?_getD, List.getElem?_eq_getElem (by omega)]; rfl
    have ht : xs.take (k + 1) = xs.take k ++ [xs.getD k Str.empty] := by rw [List.take_add_one, hk]; rfl
    rw [ht, List.foldl_append, List.foldl_cons, List.foldl_nil, ← ih]
    show (x :: xs).getD (if gts o ((x :: xs).getD (argBest (btOf o (x :: xs)) k) Str.empty) (xs.getD k Str.empty) = true then k + 1 else argBest (btOf o (x :: xs)) k) Str.empty =
      if gts o ((x :: xs).getD (argBest (btOf o (x :: xs)) k) Str.empty) (xs.getD k Str.empty) = true then xs.getD k Str.empty else (x :: xs).getD (argBest (btOf o (x :: xs)) k) Str.empty
    by_cases hg : gts o ((x :: xs).getD (argBest (btOf o (x :: xs)) k) Str.empty) (xs.getD k Str.empty) = true
    · rw [if_pos hg, if_pos hg]; rfl
    · rw [if_neg hg, if_neg hg]
theorem best_is (o : Bool) (x : Str) (xs : List Str) : (x :: xs).getD (argBest (btOf o (x :: xs)) xs.length) Str.empty = best o (x :: xs) := by
  rw [argBest_fold o x xs _ (Nat.le_refl _), List.take_length]; rfl
section
variable {prog : Program} {w : World} {A : Around} {E : Value → Shared → Prop} {s : Shared} {h₀ : Heap} {L : Addr} {m : Str → Option Value} {news : List (Addr × Obj)}
theorem strs_at {vs : List Value} {xs : List Str} (h : StrsAre vs xs) {i : Nat} {v : Value} (e : vs.toArray[i]? = some v) : ∃ t, v = .str (xs.getD i Str.empty) t := by
  have e' : vs[i]? = some v := by simpa using e
  obtain ⟨y, t, rfl, hy⟩ := StrsAre.item h i v e'
  exact ⟨t, by rw [List.getD_eq_getElem?_getD, hy]; rfl⟩
theorem call_best (o : Bool) {a n : Nat} {vs : List Value} {x : Str} {xs : List Str} {Q : Value → Shared → Prop} (hh : A.handled = none) (F : Fr h₀ L s.heap m) (N : News h₀ L s.heap news) (hm : (a, W.listOf vs.toArray n) ∈ news) (hx : StrsAre vs (x :: xs))
    (h : ∀ t h' k, Fr h₀ L h' m → News h₀ L h' news → Q (.str (best o (x :: xs)) t) { s with heap := h', toks := k }) : wpAny (model prog w) A (call (.builtin (if o then "max" else "min")) [.ref a]) Q E s := by
  have hl := News.isList N hm
  have hlt : a < s.heap.objs.size := Heap.lt_size (N _ hm).1
  have hlen : vs.toArray.size = xs.length + 1 := by rw [List.size_toArray, StrsAre.length hx]; rfl
  have key : ∀ v h' tk, vs.toArray[argBest (btOf o (x :: xs)) (vs.toArray.size - 1)]? = some v → (∀ b ob, b ∉ [s.heap.objs.size] → (s.heap.push { cls := .type "list_iterator", data := .fields #[.ref a, .int 0 0] }).get? b = some ob → h'.get? b = some ob) → Q v { s with heap := h', toks := tk } := by
    intro v h' tk hP hk
    obtain ⟨t, rfl⟩ := strs_at hx hP
    rw [hlen, Nat.add_sub_cancel, best_is]
    have up : ∀ b ob, s.heap.get? b = some ob → h'.get? b = some ob := fun b ob e => hk b ob (by simpa using Nat.ne_of_lt (Heap.lt_size e)) (Heap.get?_push_of_some _ e)
    exact h t h' tk (F.keeps up) (fun p hp => ⟨up _ _ (N p hp).1, (N p hp).2⟩)
  cases o with
  | true =>
    refine call_max_walk ?_
    refine wpAny_pyIter_list hl ?_
    refine ⟨s.heap.objs.size, [s.heap.objs.size, a], [s.heap.objs.size], vs.toArray.size, fun i v => vs.toArray[i]? = some v, fun i h => h.IsListIter s.heap.objs.size a i ∧ h.IsList a vs.toArray, btOf true (x :: xs), rfl, Walks.list (A := A.in1) hh s.heap.objs.size a (Nat.ne_of_lt hlt) vs.toArray, ⟨⟨_, Heap.get?_push_size _ rfl, rfl, rfl⟩, hl.at fun o e => Heap.get?_push_of_some _ e⟩, ?_, by omega, ?_, key⟩
    · intro b hb
      show b < (s.heap.push _).objs.size
      rw [Heap.size_push]
      rcases List.mem_cons.mp hb with rfl | hb
      · exact Nat.lt_succ_self _
      · rw [List.mem_singleton.mp hb]; exact Nat.lt_succ_of_lt hlt
    · intro i j vi vj s' Q' E' hi hj hq
      obtain ⟨ti, rfl⟩ := strs_at hx hi
      obtain ⟨tj, rfl⟩ := strs_at hx hj
      exact P.gt_str (by exact hq)
  | false =>
    refine call_min_walk ?_
    refine wpAny_pyIter_list hl ?_
    refine ⟨s.heap.objs.size, [s.heap.objs.size, a], [s.heap.objs.size], vs.toArray.size, fun i v => vs.toArray[i]? = some v, fun i h => h.IsListIter s.heap.objs.size a i ∧ h.IsList a vs.toArray, btOf false (x :: xs), rfl, Walks.list (A := A.in1) hh s.heap.objs.size a (Nat.ne_of_lt hlt) vs.toArray, ⟨⟨_, Heap.get?_push_size _ rfl, rfl, rfl⟩, hl.at fun o e => Heap.get?_push_of_some _ e⟩, ?_, by omega, ?_, key⟩
    · intro b hb
      show b < (s.heap.push _).objs.size
      rw [Heap.size_push]
      rcases List.mem_cons.mp hb with rfl | hb
      · exact Nat.lt_succ_self _
      · rw [List.mem_singleton.mp hb]; exact Nat.lt_succ_of_lt hlt
    · intro i j vi vj s' Q' E' hi hj hq
      obtain ⟨ti, rfl⟩ := strs_at hx hi
      obtain ⟨tj, rfl⟩ := strs_at hx hj
      exact P.lt_str (by exact hq)
end
/-! slices of a list of the ledger -/
theorem pick_from {l : List Value} {x : Int} (h : 0 ≤ x) : (slicePick l.toArray (some x) none none).toList = l.drop x.toNat := by
  have e : sliceBounds (some x) none none l.toArray.size = (((min x.toNat l.toArray.size : Nat) : Int), ((l.toArray.size : Nat) : Int), 1) := by
    simp only [sliceBounds, Option.getD_none, show (1 : Int) > 0 by decide, if_true, if_neg (show ¬ (x < 0) by omega)]
    congr 1
    omega
  rw [kmk_pick_nat _ e]
  show (l.drop (min x.toNat l.toArray.size)).take (l.toArray.size - min x.toNat l.toArray.size) = _
  rw [List.size_toArray, kmk_drop_min, List.take_of_length_le (by rw [List.length_drop]; omega)]
theorem pick_upto {l : List Value} {y : Int} (h : 0 ≤ y) : (slicePick l.toArray none (some y) none).toList = l.take y.toNat := by
  have e : sliceBounds none (some y) none l.toArray.size = (((0 : Nat) : Int), ((min y.toNat l.toArray.size : Nat) : Int), 1) := by
    simp only [sliceBounds, Option.getD_none, show (1 : Int) > 0 by decide, if_true, if_neg (show ¬ (y < 0) by omega)]
    congr 1
    congr 1
    omega
  rw [kmk_pick_nat _ e]
  show (l.drop 0).take (min y.toNat l.toArray.size - 0) = _
  rw [List.drop_zero, Nat.sub_zero, List.size_toArray, kmk_take_min]
theorem pick_run' {l : List Value} {x y : Int} (h : 0 ≤ x) (h2 : 0 ≤ y) : (slicePick l.toArray (some x) (some y) none).toList = (l.drop x.toNat).take (y.toNat - x.toNat) := by
  have e : sliceBounds (some x) (some y) none l.toArray.size = (((min x.toNat l.toArray.size : Nat) : Int), ((min y.toNat l.toArray.size : Nat) : Int), 1) := by
    simp only [sliceBounds, Option.getD_none, show (1 : Int) > 0 by decide, if_true, if_neg (show ¬ (x < 0) by omega), if_neg (show ¬ (y < 0) by omega)]
    congr 1
    · omega
    · congr 1
      omega
  rw [kmk_pick_nat _ e]
  show (l.drop (min x.toNat l.toArray.size)).take (min y.toNat l.toArray.size - min x.toNat l.toArray.size) = _
  rw [List.size_toArray, kmk_drop_min]
  by_cases hx : x.toNat ≤ l.length
  · rw [Nat.min_eq_left hx]
    by_cases hy : y.toNat ≤ l.length
    · rw [Nat.min_eq_left hy]
    · rw [Nat.min_eq_right (by omega), List.take_of_length_le (by rw [List.length_drop]; omega), List.take_of_length_le (by rw [List.length_drop]; omega)]
  · rw [List.drop_of_length_le (by omega), List.take_nil, List.take_nil]
theorem pick_tail {v : Value} {l : List Value} : (slicePick (v :: l).toArray (some 1) none none).toList = l := by rw [pick_from (by decide)]; rfl
/-! a comprehension whose element hands on a text and leaves the ledger -/
section
open LCg
variable {prog : Program} {w : World} {A : Around} {h₀ : Heap} {L : Addr} {m : Str → Option Value} {env : Env} {elt : Expr} {x : Str} {scope : Scope} {cl : List (Str × Addr)} {s : Shared} {S : List (Addr × Obj) → Prop} {P : Nat → Value → Prop}
  {Fin : List Value → List (Addr × Obj) → Prop} {news : List (Addr × Obj)}
theorem comp_strs (xs : List Str) (hS : S news)
    (elem : ∀ (i : Nat) (x' : Str), xs[i]? = some x' → ∀ (v : Value) (I : Addr) (oI : Obj) (C : Addr) (oC : Obj) (D : Addr) (ys : List Value) (m₂ : Str → Option Value) (h : Heap) (tk : Nat) (E' : Value → Shared → Prop), P i v → NsObj oC m₂ → m₂ x = some v → Fr h₀ L h m → News h₀ L h ((I, oI) :: (C, oC) :: (D, lst ys) :: news) →
      wpAny (model prog w) A (eval elt (compEnvC scope cl C env)) (fun y s' => ∃ h' tk' t, s' = { s with heap := h', toks := tk' } ∧ Fr h₀ L h' m ∧ News h₀ L h' ((I, oI) :: (C, oC) :: (D, lst ys) :: news) ∧ y = .str x' t) E' { s with heap := h, toks := tk })
    (fin : ∀ ys, StrsAre ys xs → Fin ys news) : ∀ k i ys, i + k = xs.length → StrsAre ys (xs.take i) → CompRest prog w A h₀ L m env elt x scope cl s S P Fin k i ys news
  | 0, i, ys, hi, hy => CompRest.zero (fin ys (by rw [List.take_of_length_le (by omega)] at hy; exact hy))
  | k + 1, i, ys, hi, hy => by
    have hlt : i < xs.length := by omega
    refine CompRest.succ fun v I oI C oC D m₂ h tk E' hP hC hm F N off ne => ?_
    refine wpAny_mono (elem i xs[i] (List.getElem?_eq_getElem hlt) v I oI C oC D ys m₂ h tk E' hP hC hm F N) (fun y s' hy' => ?_) fun _ _ e => e
    obtain ⟨h', tk', t, rfl, F', N', rfl⟩ := hy'
    refine ⟨h', tk', news, rfl, F', N', off, hS, ?_⟩
    refine comp_strs xs hS elem fin k (i + 1) _ (by omega) ?_
    rw [List.take_add_one, List.getElem?_eq_getElem hlt]
    exact hy.append' (.cons _ _ .nil)
end
section
variable {prog : Program} {w : World} {A : Around} {E : Value → Shared → Prop} {s : Shared} {h₀ : Heap} {L : Addr} {m : Str → Option Value} {news : List (Addr × Obj)} {a n : Nat} {vs : List Value} {x : Str} {xs : List Str} {Q : Value → Shared → Prop}
theorem call_max_strs (hh : A.handled = none) (F : Fr h₀ L s.heap m) (N : News h₀ L s.heap news) (hm : (a, W.listOf vs.toArray n) ∈ news) (hx : StrsAre vs (x :: xs))
    (h : ∀ t h' k, Fr h₀ L h' m → News h₀ L h' news → Q (.str (best true (x :: xs)) t) { s with heap := h', toks := k }) : wpAny (model prog w) A (call (.builtin "max") [.ref a]) Q E s := call_best true hh F N hm hx h
theorem call_min_strs (hh : A.handled = none) (F : Fr h₀ L s.heap m) (N : News h₀ L s.heap news) (hm : (a, W.listOf vs.toArray n) ∈ news) (hx : StrsAre vs (x :: xs))
    (h : ∀ t h' k, Fr h₀ L h' m → News h₀ L h' news → Q (.str (best false (x :: xs)) t) { s with heap := h', toks := k }) : wpAny (model prog w) A (call (.builtin "min") [.ref a]) Q E s := call_best false hh F N hm hx h
theorem item_led {l : List Value} {value slice : PySem.Expr} {k : Int} {u : Tok} {v : Value} (N : News h₀ L s.heap news) (hm : (a, W.listOf l.toArray n) ∈ news) (h0 : 0 ≤ k) (hhi : k < 2 ^ 63) (hx : l[k.toNat]? = some v) (h : Q v s)
    (hs : subscripted slice false (.ref a) (.int k u) = operate [.ref a, .int k u] (getItem (.ref a) (.int k u)) := by with_unfolding_all rfl) :
    wpAny (model prog w) A (subscriptTail value slice (.ref a) (.int k u)) Q E s :=
  have hl := News.isList N hm
  tail_any hl.typeIs slot_list_getitem.lookup (wpAny_getItem_list hl h0 hhi (by simpa using hx) h) hs
end
end
section
open PySem PySem.W PyProof.Rows PySem.Calls PySem.Spec
theorem ifill_list : fillsInplaceSlot (.type "list") "add" (Operator.Add == .Add) = pure false := by
  unfold fillsInplaceSlot
  show (typeLookup (.type "list") (dunderI "add") >>= fun fi => pure (fi.isSome && !isSeqSlot fi)) = pure false
  rw [PySem.F.slot_list_iadd.lookup]
  rfl
theorem iseq_list : seqSlot? (.type "list") (dunderI "add") = pure (some (.builtin "list.__iadd__")) := PySem.seqSlot_of PySem.F.slot_list_iadd.lookup (by decide +kernel)
section
variable {prog : Program} {w : World} {A : Around} {E : Value → Shared → Prop} {s : Shared} {h₀ : Heap} {L : Addr} {m : Str → Option Value}
theorem iadd_lists {D b n n2 : Nat} {ys zs : List Value} {rest : List (Addr × Obj)} {Q : Value → Shared → Prop} (F : Fr h₀ L s.heap m) (N : News h₀ L s.heap ((D, W.listOf ys.toArray n) :: rest)) (hap : ∀ p ∈ rest, p.1 ≠ D)
    (hb : (b, W.listOf zs.toArray n2) ∈ rest) (hsz : ys.length + zs.length ≤ 1000000)
    (h : ∀ h' n', Fr h₀ L h' m → News h₀ L h' ((D, W.listOf (ys ++ zs).toArray n') :: rest) → Q (.ref D) { s with heap := h' }) :
    wpAny (model prog w) A (inplaceOp .Add (.ref D) (.ref b)) Q E s := by
  have hD := N _ (.head _)
  have hB := N _ (.tail _ hb)
  have tD : s.TypeIs (.ref D) "list" := ⟨_, hD.1, rfl⟩
  have tB : s.TypeIs (.ref b) "list" := ⟨_, hB.1, rfl⟩
  unfold inplaceOp
  refine wpAny_holding ?_
  refine wpAny_bind (wpAny_typeOf tD (wpAny_bind (wpAny_of_eq ifill_list ?_)))
  show wpAny (model prog w) A (if false = true then _ else _) Q E s
  rw [if_neg Bool.false_ne_true]
  refine wpAny_bind (wpAny_binaryOp1_none (nm := "add") tD tB noFill_list_add ?_)
  refine wpAny_bind (wpAny_of_eq iseq_list ?_)
  refine wpAny_bind (wpAny_rule ?_)
  have hz : ys.toArray.size + zs.toArray.size ≤ sizeLine := by rw [List.size_toArray, List.size_toArray, sizeLine_eq]; omega
  refine call_meets PySem.F.slot_list_iadd tD PySem.F.entry_list_iadd (PySem.F.args_list_iadd_2 _ _) (AutoSeq1.list___iadd___list_list_0 D ys.toArray n b zs.toArray n2 (extend_door hz) (Nat.le_trans (Nat.le_add_right _ _) hz) (by omega)) ⟨hD.1, hB.1, ?_⟩
  have e : ys.toArray ++ zs.toArray = (ys ++ zs).toArray := by simp
  have ho' : (s.heap.update D (Obj.mapSeq fun x => x ++ zs.toArray)).get? D = some { cls := .type "list", data := .seq (ys ++ zs).toArray (if (ys.toArray ++ zs.toArray).size == ys.toArray.size then n else n + 1) } := by
    rw [Heap.get?_update_self _ hD.1 (by rw [mapSeq_app]; rfl), mapSeq_app, e]
  exact h _ _ (F.change (Heap.SameBut.update ..) hD.2.1 hD.2.2) (N.setIn (own := []) (fun _ hp => nomatch hp) hap (Heap.SameBut.update ..) ho')
theorem add_lists' {a b n n2 : Nat} {ys zs : List Value} {news : List (Addr × Obj)} {Q : Value → Shared → Prop} (F : Fr h₀ L s.heap m) (N : News h₀ L s.heap news) (ha : (a, W.listOf ys.toArray n) ∈ news)
    (hb : (b, W.listOf zs.toArray n2) ∈ news) (hsz : ys.length + zs.length ≤ 1000000)
    (h : ∀ D h', Fr h₀ L h' m → News h₀ L h' ((D, W.listOf (ys ++ zs).toArray 0) :: news) → (∀ p ∈ news, p.1 < D) → Q (.ref D) { s with heap := h' }) :
    wpAny (model prog w) A (binaryOp .Add (.ref a) (.ref b)) Q E s :=
  add_lists F N (News.isList N ha) (News.isList N hb) (fun h' F' N' => h _ h' F' N' fun p hp => Heap.lt_size (N p hp).1) (by rw [sizeLine_eq]; omega)
end
/-! a loop by a word over the frame and the ledger -/
section
variable {prog : Program} {w : World} {A : Around} {E : Value → Shared → Prop} {s : Shared} {h₀ : Heap} {env : Env} {x : Str} {body : List Stmt} {Q : Flow → Shared → Prop}
def TurnJ (h₀ : Heap) (L : Addr) (I : Addr) (o : Obj) (Jn : (Str → Option Value) → List (Addr × Obj) → Prop) (s : Shared) (Q : Flow → Shared → Prop) (f : Flow) (s' : Shared) : Prop :=
  match f with
  | .ret v => Q (.ret v) s'
  | .brk => Q .next s'
  | _ => ∃ h' tk' m' news', s' = { s with heap := h', toks := tk' } ∧ Fr h₀ L h' m' ∧ News h₀ L h' ((I, o) :: news') ∧ (∀ p ∈ news', p.1 ≠ I) ∧ Jn m' news'
theorem loop_J {I : Addr} {fp : List Addr} {n : Nat} {P : Nat → Value → Prop} {St : Nat → Heap → Prop} {m₀ : Str → Option Value} {news : List (Addr × Obj)} (W : Walks prog w A I fp [I] n P St) (keep : List (Addr × Obj)) (hIf : I ∈ fp) (hfp : ∀ b ∈ fp, b = I ∨ ∃ ob, (b, ob) ∈ keep)
    (hI0 : h₀.get? I = none) (hob : ∀ i h, St i h → ∃ o, h.get? I = some o) (hLf : env.locals ∉ fp) (hst : St 0 s.heap) (F : Fr h₀ env.locals s.heap m₀) (N : News h₀ env.locals s.heap news) (hnw : ∀ p ∈ news, p.1 ≠ I)
    (J : Nat → (Str → Option Value) → List (Addr × Obj) → Prop) (hJk : ∀ i m ns, J i m ns → ∀ p ∈ keep, p ∈ ns) (hJ0 : J 0 m₀ news)
    (turn : ∀ i v m₁ news₁ h tk o, i < n → P i v → J i m₁ news₁ → (∀ p ∈ news₁, p.1 ≠ I) → Fr h₀ env.locals h (fun y => if y = x then some v else m₁ y) → News h₀ env.locals h ((I, o) :: news₁) →
      wpAny (model prog w) A (execs body env) (TurnJ h₀ env.locals I o (J (i + 1)) { s with heap := h, toks := tk } Q) E { s with heap := h, toks := tk })
    (done : ∀ h tk m' news', J n m' news' → Fr h₀ env.locals h m' → News h₀ env.locals h news' → Q .next { s with heap := h, toks := tk }) :
    LoopAtV prog w A h₀ env x body Q E (.ref I) s := by
  refine ⟨I, fp, [I], n, P, St, m₀, news, J, rfl, W, hLf, (fun b hb => by rw [List.mem_singleton.mp hb]; exact hI0), (fun p hp hI => hnw p hp (List.mem_singleton.mp hI)), hst, F, N, hJ0, ?_, ?_⟩
  · rintro i v m₁ news₁ s₁ own ⟨hh, tk, rfl⟩ hin hP hJ hoff hown hget hall hst' F₁ N₁
    obtain ⟨o, ho⟩ := hob _ _ hst'
    have hio : (I, o) ∈ own := hall I hIf hI0 o ho
    have hne : ∀ p ∈ news₁, p.1 ≠ I := fun p hp e => hoff p hp (by rw [e]; exact List.mem_singleton.mpr rfl)
    have N₂ : News h₀ env.locals hh ((I, o) :: news₁) := fun p hp => by
      rcases List.mem_cons.mp hp with e | hp
      · rw [e]; exact N₁ _ (List.mem_append_left _ hio)
      · exact N₁ _ (List.mem_append_right _ hp)
    have back : ∀ (news₂ : List (Addr × Obj)), (∀ p ∈ keep, p ∈ news₂) → ∀ p ∈ own, p = (I, o) ∨ p ∈ news₂ := fun news₂ hk p hp => by
      have hv : hh.get? p.1 = some p.2 := hget p hp
      rcases hfp p.1 (hown p hp) with e | ⟨ob, hb⟩
      · left
        rw [e, ho] at hv
        exact Prod.ext e (Option.some.inj hv).symm
      · right
        have hv' : hh.get? p.1 = some ob := (N₁ _ (List.mem_append_right _ (hJk i m₁ news₁ hJ _ hb))).1
        rw [hv'] at hv
        have : p = (p.1, ob) := Prod.ext rfl (Option.some.inj hv).symm
        rw [this]; exact hk _ hb
    have fin : ∀ s₃, (∃ h' tk' m' news', s₃ = { s with heap := h', toks := tk' } ∧ Fr h₀ env.locals h' m' ∧ News h₀ env.locals h' ((I, o) :: news') ∧ (∀ p ∈ news', p.1 ≠ I) ∧ J (i + 1) m' news') →
        LoopStepU h₀ env.locals [I] own (J (i + 1)) { s with heap := hh, toks := tk } .next s₃ := by
      rintro s₃ ⟨h', tk', m', news', e, F', N', hn, hJ'⟩
      refine ⟨rfl, h', tk', m', news', e, F', fun p hp => ?_, (fun p hp hI => hn p hp (List.mem_singleton.mp hI)), hJ'⟩
      rcases List.mem_append.mp hp with hp | hp
      · rcases back news' (hJk _ _ _ hJ') p hp with e | hp
        · rw [e]; exact N' _ (.head _)
        · exact N' _ (.tail _ hp)
      · exact N' _ (.tail _ hp)
    refine wpAny_mono (turn i v m₁ news₁ hh tk o hin hP hJ hne F₁ N₂) (fun f s₃ p => ?_) fun _ _ e => e
    cases f with
    | ret v => exact .ret p
    | brk => exact .brk p
    | next => exact .next (fin s₃ p)
    | cont => exact .cont (fin s₃ p)
  · rintro h' tk m' news' F' N' _ hJ
    exact done h' tk m' news' hJ F' N'
theorem iter_rangeJ {r : Addr} {a₀ b₀ : Int} {t₀ u₀ v₀ : Tok} {n : Nat} {m₀ : Str → Option Value} {news : List (Addr × Obj)}
    (hh : A.handled = none) (hr : IsRange s.heap r a₀ b₀ 1 t₀ u₀ v₀) (hsmall : Builtin.Range.small a₀ b₀ 1 = true) (hn : Builtin.Range.rangeSize a₀ b₀ 1 = (n : Int)) (F : Fr h₀ env.locals s.heap m₀) (N : News h₀ env.locals s.heap news)
    (J : Nat → (Str → Option Value) → List (Addr × Obj) → Prop) (hJ0 : J 0 m₀ news)
    (turn : ∀ I, (∀ p ∈ news, p.1 < I) → ∀ i t m₁ news₁ h tk o, i < n → J i m₁ news₁ → (∀ p ∈ news₁, p.1 ≠ I) → Fr h₀ env.locals h (fun y => if y = x then some (.int (a₀ + i) t) else m₁ y) → News h₀ env.locals h ((I, o) :: news₁) →
      wpAny (model prog w) A (execs body env) (TurnJ h₀ env.locals I o (J (i + 1)) { s with heap := h, toks := tk } Q) E { s with heap := h, toks := tk })
    (done : ∀ h tk m' news', J n m' news' → Fr h₀ env.locals h m' → News h₀ env.locals h news' → Q .next { s with heap := h, toks := tk }) :
    wpAny (model prog w) A (pyIter (.ref r)) (fun it s₂ => LoopAtV prog w A h₀ env x body Q E it s₂) E s := by
  refine wpAny_pyIter_range hr hsmall ?_
  have W : Walks prog w A s.heap.objs.size [s.heap.objs.size] [s.heap.objs.size] n (fun i v => i < n ∧ ∃ t, v = .int (a₀ + i * 1) t)
      (fun i h => IsRangeIter h s.heap.objs.size (a₀ + (i : Nat) * 1) ((n : Int) - (i : Nat)) 1) := (Walks.range hh _ a₀ 1 n).bound
  refine loop_J W [] (.head _) (fun b hb => .inl (List.mem_singleton.mp hb)) (next_is_new F) (fun i h st => ⟨_, st⟩) (fun hm => ?_) (by show IsRangeIter _ _ _ _ _; rw [hn]; simpa using Heap.get?_push_size _ rfl) (F.push _) (fun p hp => ⟨Heap.get?_push_of_some _ (N p hp).1, (N p hp).2⟩) (fun p hp => Nat.ne_of_lt (Heap.lt_size (N p hp).1)) J (fun _ _ _ _ _ h => nomatch h) hJ0 ?_ ?_
  · exact absurd F.ns.lt ((List.mem_singleton.mp hm) ▸ Nat.lt_irrefl _)
  · rintro i v m₁ news₁ h tk o hi ⟨_, t, rfl⟩ hJ hne F₁ N₁
    rw [Int.mul_one] at F₁
    exact turn _ (fun p hp => Heap.lt_size (N p hp).1) i t m₁ news₁ h tk o hi hJ hne F₁ N₁
  · exact done
theorem iter_listJ {ax n : Nat} {vs : List Value} {m₀ : Str → Option Value} {news : List (Addr × Obj)}
    (hh : A.handled = none) (hm : (ax, W.listOf vs.toArray n) ∈ news) (F : Fr h₀ env.locals s.heap m₀) (N : News h₀ env.locals s.heap news)
    (J : Nat → (Str → Option Value) → List (Addr × Obj) → Prop) (hJk : ∀ i m ns, J i m ns → (ax, W.listOf vs.toArray n) ∈ ns) (hJ0 : J 0 m₀ news)
    (turn : ∀ I, (∀ p ∈ news, p.1 < I) → ∀ i v m₁ news₁ h tk o, vs[i]? = some v → J i m₁ news₁ → (∀ p ∈ news₁, p.1 ≠ I) → Fr h₀ env.locals h (fun y => if y = x then some v else m₁ y) → News h₀ env.locals h ((I, o) :: news₁) →
      wpAny (model prog w) A (execs body env) (TurnJ h₀ env.locals I o (J (i + 1)) { s with heap := h, toks := tk } Q) E { s with heap := h, toks := tk })
    (done : ∀ h tk m' news', J vs.length m' news' → Fr h₀ env.locals h m' → News h₀ env.locals h news' → Q .next { s with heap := h, toks := tk }) :
    wpAny (model prog w) A (pyIter (.ref ax)) (fun it s₂ => LoopAtV prog w A h₀ env x body Q E it s₂) E s := by
  have hax := N _ hm
  have hl : s.heap.IsList ax vs.toArray := News.isList N hm
  have hlt : ax < s.heap.objs.size := Heap.lt_size hax.1
  have hne : ax ≠ s.heap.objs.size := Nat.ne_of_lt hlt
  refine wpAny_pyIter_list hl ?_
  have WW := Walks.list (prog := prog) (w := w) hh s.heap.objs.size ax hne vs.toArray
  rw [List.size_toArray] at WW
  refine loop_J WW [(ax, W.listOf vs.toArray n)] (.head _) (fun b hb => ?_) (next_is_new F) (fun i h st => by obtain ⟨o, e, _⟩ := st.1; exact ⟨o, e⟩) (fun hm' => ?_) ⟨⟨_, Heap.get?_push_size _ rfl, rfl, rfl⟩, hl.at fun o e => Heap.get?_push_of_some _ e⟩ (F.push _) (fun p hp => ⟨Heap.get?_push_of_some _ (N p hp).1, (N p hp).2⟩) (fun p hp => Nat.ne_of_lt (Heap.lt_size (N p hp).1)) J (fun i m ns hJ p hp => by rw [List.mem_singleton.mp hp]; exact hJk i m ns hJ) hJ0 ?_ ?_
  · rcases List.mem_cons.mp hb with e | hb
    · exact .inl e
    · exact .inr ⟨_, by rw [List.mem_singleton.mp hb]; exact .head _⟩
  · rcases List.mem_cons.mp hm' with e | hm'
    · exact absurd F.ns.lt (e ▸ Nat.lt_irrefl _)
    · exact hax.2.1 (List.mem_singleton.mp hm').symm
  · rintro i v m₁ news₁ h tk o hi hP hJ hne F₁ N₁
    exact turn _ (fun p hp => Heap.lt_size (N p hp).1) i v m₁ news₁ h tk o (by simpa using hP) hJ hne F₁ N₁
  · exact done
end
end
local macro_rules | `(tactic| ktr_enter) => `(tactic| first
  | (refine' enter ?k1 ?k2 ?k3 ?k4 ?k5 ?kH ?kA ?kF ?kK ?k6 ?k7 ?k8 ?k9 ?kB ?_ ?c2 ?c3 ?c4 ?c5; (case kH => exact rfl); (case kA => exact rfl); (case kF => first | exact rfl | assumption); (case kK => first | exact rfl | assumption); (case k1 => k_asm); (case k2 => k_asm); (case k3 => k_asm); (case k4 => k_asm); (case k5 => k_asm); (case k6 => k_is); (case k7 => k_is); (case k8 => (dsimp only; omega)); (case k9 => first | exact BindsTo.of_eq rfl | exact binds_K (by k_in) rfl (by k_is) rfl rfl rfl | fail "k_enter: no rule for these arguments"); (case c5 => decide); (case kB => exact locs rfl); (case c2 => exact rfl); (case c3 => exact rfl); (case c4 => exact rfl); k_whole; intro dp' un' gd' g' L' h' hd' hu' FG' F' N' B' X' T'; (try dsimp only at hd' hu'); (try dsimp only); (try k_fold))
  | (refine' enterC ?k1 ?k2 ?k3 ?k4 ?k5 ?kH ?kA ?kF ?kK ?k6 ?k7 ?k8 ?k9 ?kB ?kD ?_ ?c2 ?c3 ?c4; (case kH => exact rfl); (case kA => exact rfl); (case kF => first | exact rfl | assumption); (case kK => first | exact rfl | assumption); (case k1 => k_asm); (case k2 => k_asm); (case k3 => k_asm); (case k4 => k_asm); (case k5 => k_asm); (case k6 => k_is); (case k7 => k_is); (case k8 => (dsimp only; omega)); (case k9 => first | exact BindsTo.of_eq rfl | exact binds_K (by k_in) rfl (by k_is) rfl rfl rfl | fail "k_enter: no rule for these arguments"); (case kB => exact rfl); (case kD => decide +kernel); (case c2 => exact rfl); (case c3 => exact rfl); (case c4 => exact rfl); k_whole; intro dp' un' gd' g' L' h' tk' cells' hd' hu' FG' F' N' Y' B' X' T' l1; (try dsimp only at hd' hu'); k_cells Y'; (try simp only [List.cons_append, List.nil_append] at N'); (try dsimp only); (try k_fold))
  | (refine' enterM ?k1 ?k2 ?k3 ?k4 ?k5 ?kH ?kA ?kF ?kK ?k6 ?k7 ?k8 ?kX ?kM ?kN ?kD ?kR ?kP ?kT ?kB ?_ ?c2 ?c3 ?c4 ?c5; (case kH => exact rfl); (case kA => exact rfl); (case kF => first | exact rfl | assumption); (case kK => first | exact rfl | assumption); (case k1 => k_asm); (case k2 => k_asm); (case k3 => k_asm); (case k4 => k_asm); (case k5 => k_asm); (case k6 => k_is); (case k7 => k_is); (case k8 => (dsimp only; omega)); (case kX => kp_lit); (case kM => exact rfl); (case kN => exact rfl); (case kD => kp_flats); (case kR => exact rfl); (case kP => exact rfl); (case kT => exact fun _ => rfl); (case kB => exact fun _ => locs rfl); (case c5 => decide); (case c2 => exact rfl); (case c3 => exact rfl); (case c4 => exact rfl); k_whole; intro dp' un' gd' D' o' g' L' h' tk' hd' hu' l1 lo' hs' fs' FG' F' N' B' X' T'; (try dsimp only at hd' hu'); (try dsimp only); (try k_fold)))
local macro_rules | `(tactic| k_room) => `(tactic| ((try simp only [depth_under_make, depth_under_kw, depth_in1, depth_deeper, depth_caller, recursionLimit]); (try dsimp only); omega))
local macro_rules | `(tactic| k_units) => `(tactic| ((try simp only [units_in1, units_deeper, Around.mark_units, units_caller, cLine_is]); (try dsimp only); omega))
section
open PySem PySem.W PyProof.Rows PySem.Calls PySem.Spec
theorem pat_name {w : World} {h : Heap} (X : (frag.heap_1 w.params).In h) : PatAt h 65 64 nameCode (.str (Str.ofString "[\\x00-\\x1F\\x7F]") 537) 560 :=
  ⟨X 65 _ (by kernel_rfl), X 64 _ (by kernel_rfl)⟩
theorem pat_val {w : World} {h : Heap} (X : (frag.heap_1 w.params).In h) : PatAt h 70 69 valCode (.str (Str.ofString "[\\x00-\\x08\\x0A-\\x1F\\x7F]") 563) 594 :=
  ⟨X 70 _ (by kernel_rfl), X 69 _ (by kernel_rfl)⟩
local macro_rules | `(tactic| walk_at "getMethod ref") => `(tactic| (k_here; first | refine re_method (pat_name (by k_in)) ?_ | refine re_method (pat_val (by k_in)) ?_))
local macro_rules | `(tactic| walk_at "call builtin:re.Pattern.search") => `(tactic| (k_here; first | refine re_search (pat_name (by k_in)) (search_name _ (by assumption)) (by omega) ?_ | refine re_search (pat_val (by k_in)) (search_val _ (by assumption)) (by omega) ?_))
set_option maxHeartbeats 0 in
theorem conv_name (w : World) (news : List (Addr × Obj)) (x : Str) (hc : ∀ c ∈ x.cps.toList, 32 ≤ c ∧ c < 127) (hx : x.length ≤ 1000) (self : Value) (tk : Nat) : Sp w 100 ⟨[self, .str x tk], [(Str.ofString "name", .bool true)]⟩ news 5 100 (fun r news' => r = .str x tk ∧ news' = news) := by
  intro p loose mean mg mb dp un gd env outer A₀ base h₀ L m s R B F X N T hfe hke hd hu ret
  k_dflt ktr_enter
  k_steps
  all_goals exact ret _ _ _ _ (by assumption) (by assumption) ⟨rfl, rfl⟩
set_option maxHeartbeats 0 in
theorem conv_val (w : World) (news : List (Addr × Obj)) (x : Str) (hc : ∀ c ∈ x.cps.toList, 32 ≤ c ∧ c < 127) (hx : x.length ≤ 1000) (self : Value) (tk : Nat) : Sp w 100 ⟨[self, .str x tk], [(Str.ofString "name", .bool false)]⟩ news 5 100 (fun r news' => r = .str x tk ∧ news' = news) := by
  intro p loose mean mg mb dp un gd env outer A₀ base h₀ L m s R B F X N T hfe hke hd hu ret
  k_dflt ktr_enter
  k_steps
  all_goals exact ret _ _ _ _ (by assumption) (by assumption) ⟨rfl, rfl⟩
end
section
open PySem PySem.W PyProof.Rows PySem.Calls PySem.Spec
theorem join_one {prog : Program} {w : World} {A : Around} {E : Value → Shared → Prop} {s : Shared} {x y : Str} {t : Tok} {D : Addr} {items : Array Value} {Q : Value → Shared → Prop} (hl : s.heap.IsList D items) (hi : StrsAre items.toList [y]) (hx : x.length ≤ 1000) (hy : y.length ≤ 1000)
    (hq : ∀ t' k, Q (.str y t') { s with toks := k }) : wpAny (model prog w) A (call (.builtin "str.join") [.str x t, .ref D]) Q E s :=
  join_list hl hi (by simp only [List.map_cons, List.map_nil, List.sum_cons, List.sum_nil, List.length_cons, List.length_nil]; omega) (fun t' k => by
    have e : Txt.join x [y] = y := by rfl
    rw [e]; exact hq t' k)
local macro_rules | `(tactic| walk_at "call builtin:str.join") => `(tactic| (k_here; k_dflt (refine join_one (News.isList (by k_asm) (by k_mem)) (.cons _ _ .nil) (by decide) (by assumption) ?_); intro _ _))
local macro_rules | `(tactic| walk_at "call ref") => `(tactic| (k_here; k_dflt (first
  | refine Sp.use (conv_name _ _ _ (by assumption) (by assumption) _ _) (by k_asm) (by k_asm) (by k_asm) (by k_asm) (by k_asm) (by exact rfl) (by exact rfl) (by exact rfl) (by exact rfl) (by dsimp only; omega) (by dsimp only; omega) ?_
  | refine Sp.use (conv_val _ _ _ (by assumption) (by assumption) _ _) (by k_asm) (by k_asm) (by k_asm) (by k_asm) (by k_asm) (by exact rfl) (by exact rfl) (by exact rfl) (by exact rfl) (by dsimp only; omega) (by dsimp only; omega) ?_); intro r9 n9 h9 t9 F9 N9 P9; (obtain ⟨e1, e2⟩ := P9); subst e1; subst e2; (try k_sweep)))
local macro_rules | `(tactic| k_mem) => `(tactic| first | assumption | exact List.Mem.head _ | (refine List.Mem.tail _ ?_; k_mem))
local macro_rules | `(tactic| k_all) => `(tactic| assumption)
theorem news5 {h₀ h : Heap} {L : Addr} {t a b c x : Addr × Obj} {news : List (Addr × Obj)} (N : News h₀ L h (t :: a :: b :: c :: x :: news)) : News h₀ L h (x :: t :: news) := fun p hp => by
  rcases List.mem_cons.mp hp with rfl | hp
  · exact N _ (.tail _ (.tail _ (.tail _ (.tail _ (.head _)))))
  · rcases List.mem_cons.mp hp with rfl | hp
    · exact N _ (.head _)
    · exact N _ (.tail _ (.tail _ (.tail _ (.tail _ (.tail _ hp)))))
set_option maxHeartbeats 0 in
theorem add_spec (w : World) (news : List (Addr × Obj)) (x y : Str) (hx1 : ∀ c ∈ x.cps.toList, 32 ≤ c ∧ c < 127) (hx2 : x.length ≤ 1000) (hy1 : ∀ c ∈ y.cps.toList, 32 ≤ c ∧ c < 127) (hy2 : y.length ≤ 1000)
    (tx ty tk n k : Nat) (a dx l : Addr) (hs : Int) (its : Array Value) (hz : its.size ≤ 1000)
    (ha : (a, W.instObj 201 dx) ∈ news) (hdx : (dx, dictOf [⟨hs, .str (Str.ofString "_headers") tk, .ref l⟩] k) ∈ news) (hl : ∀ p ∈ news, p.1 ≠ l) :
    Sp w 198 ⟨[.ref a, .str x tx, .str y ty], []⟩ ((l, W.listOf its n) :: news) 10 200
      (fun r news' => r = .none ∧ ∃ T t1 t2, news' = (l, W.listOf (its.push (.ref T)) (n + 1)) :: (T, ({ cls := .type "tuple", data := .seq #[.str x t1, .str y t2] } : Obj)) :: news ∧ l < T ∧ ∀ p ∈ news, p.1 < T) := by
  intro p loose mean mg mb dp un gd env outer A₀ base h₀ L m s R B F X N T hfe hke hd hu ret
  k_dflt ktr_enter
  k_steps
  rename News _ _ _ _ => eN
  have eN2 := news5 eN
  clear eN
  k_steps
  rename (_ < _ ∧ _ < _ ∧ _ < _ ∧ _ < _ ∧ AllLt _ _) => eL
  exact ret _ _ _ _ (by assumption) (by assumption) ⟨rfl, _, _, _, rfl, eL.2.2.2.1, allLt_mem eL.2.2.2.2⟩
end
section
open PySem PySem.W PyProof.Rows PySem.Calls PySem.Spec
local macro_rules | `(tactic| walk_at "call ref") => `(tactic| (k_here; k_dflt (first
  | refine Sp.use (conv_name _ _ _ (by assumption) (by assumption) _ _) (by k_asm) (by k_asm) (by k_asm) (by k_asm) (by k_asm) (by exact rfl) (by exact rfl) (by exact rfl) (by exact rfl) (by dsimp only; omega) (by dsimp only; omega) ?_
  | refine Sp.use (conv_val _ _ _ (by assumption) (by assumption) _ _) (by k_asm) (by k_asm) (by k_asm) (by k_asm) (by k_asm) (by exact rfl) (by exact rfl) (by exact rfl) (by exact rfl) (by dsimp only; omega) (by dsimp only; omega) ?_); intro r9 n9 h9 t9 F9 N9 P9; (obtain ⟨e1, e2⟩ := P9); subst e1; subst e2; (try k_sweep)))
local macro_rules | `(tactic| k_mem) => `(tactic| first | assumption | exact List.Mem.head _ | (refine List.Mem.tail _ ?_; k_mem))
local macro_rules | `(tactic| k_all) => `(tactic| assumption)
local macro_rules | `(tactic| walk_at "ItemsRest") => `(tactic| (refine ItemsRest.val (fun h' tk' F' => AllObj.cons fun o' hc' => AllObj.nil fun N' => ?_)))
local macro_rules | `(tactic| walk_at "UnrEndW") => `(tactic| k_extra "my end")
set_option maxHeartbeats 0 in
theorem get_spec (w : World) (news : List (Addr × Obj)) (x j : Str) (hx1 : ∀ c ∈ (Txt.lower x).cps.toList, 32 ≤ c ∧ c < 127) (hx2 : (Txt.lower x).length ≤ 1000) (hx3 : x.length ≤ 1000)
    (tx tk n k : Nat) (a dx l T0 T1 T2 T3 a0 a1 a2 a3 b0 b1 b2 b3 : Addr) (j0 j1 j2 j3 : Str) (hs : Int)
    (ha : (a, W.instObj 201 dx) ∈ news) (hdx : (dx, dictOf [⟨hs, .str (Str.ofString "_headers") tk, .ref l⟩] k) ∈ news)
    (hl : (l, W.listOf #[.ref T0, .ref T1, .ref T2, .ref T3] n) ∈ news)
    (hT0 : (T0, ({ cls := .type "tuple", data := .seq #[.str (Str.ofString "a") a0, .str j0 b0] } : Obj)) ∈ news)
    (hT1 : (T1, ({ cls := .type "tuple", data := .seq #[.str (Str.ofString "b") a1, .str j1 b1] } : Obj)) ∈ news)
    (hT2 : (T2, ({ cls := .type "tuple", data := .seq #[.str (Str.ofString "c") a2, .str j2 b2] } : Obj)) ∈ news)
    (hT3 : (T3, ({ cls := .type "tuple", data := .seq #[.str (Str.ofString "d") a3, .str j3 b3] } : Obj)) ∈ news)
    (hj : (Txt.lower x = Str.ofString "a" ∧ j = j0) ∨ (Txt.lower x = Str.ofString "b" ∧ j = j1) ∨ (Txt.lower x = Str.ofString "c" ∧ j = j2) ∨ (Txt.lower x = Str.ofString "d" ∧ j = j3)) :
    Sp w 148 ⟨[.ref a, .str x tx], []⟩ news 10 200 (fun r news' => news' = news ∧ ∃ t, r = .str j t) := by
  intro p loose mean mg mb dp un gd env outer A₀ base h₀ L m s R B F X N T hfe hke hd hu ret
  k_dflt ktr_enter
  k_steps
  rename Fr _ _ _ _ => lF
  with_unfolding_all refine For_turns lF ?_
  k_steps
  rename Fr _ _ _ _ => lF
  rename News _ _ _ _ => lN
  refine iter_listTurns (n := n) (by rfl) lF lN hl rfl rfl (fun I hI => ?_)
  show ItemsRest _ _ _ _ _ _ _ _ _ _ _ _ [.val (.ref T0), .val (.ref T1), .val (.ref T2), .val (.ref T3)] _ _
  k_with "my end" => refine ⟨_, _, _, _, rfl, by k_asm, by k_asm, fun p hp q hq => by rw [List.mem_singleton.mp hq]; exact Nat.ne_of_lt (hI p hp), ⟨hl, trivial⟩, ?_⟩
  k_steps
  · rename (Str.ofString "a" == Txt.lower x) = true => q
    rename News _ _ _ _ => eN
    rcases hj with ⟨e, e'⟩ | ⟨e, e'⟩ | ⟨e, e'⟩ | ⟨e, e'⟩
    · subst e'; exact ret _ _ _ _ (by assumption) (newsSub eN (subS subR)) ⟨rfl, _, rfl⟩
    · rw [e] at q; exact absurd q (by decide)
    · rw [e] at q; exact absurd q (by decide)
    · rw [e] at q; exact absurd q (by decide)
  · rename (Str.ofString "b" == Txt.lower x) = true => q
    rename News _ _ _ _ => eN
    rcases hj with ⟨e, e'⟩ | ⟨e, e'⟩ | ⟨e, e'⟩ | ⟨e, e'⟩
    · rw [e] at q; exact absurd q (by decide)
    · subst e'; exact ret _ _ _ _ (by assumption) (newsSub eN (subS subR)) ⟨rfl, _, rfl⟩
    · rw [e] at q; exact absurd q (by decide)
    · rw [e] at q; exact absurd q (by decide)
  · rename (Str.ofString "c" == Txt.lower x) = true => q
    rename News _ _ _ _ => eN
    rcases hj with ⟨e, e'⟩ | ⟨e, e'⟩ | ⟨e, e'⟩ | ⟨e, e'⟩
    · rw [e] at q; exact absurd q (by decide)
    · rw [e] at q; exact absurd q (by decide)
    · subst e'; exact ret _ _ _ _ (by assumption) (newsSub eN (subS subR)) ⟨rfl, _, rfl⟩
    · rw [e] at q; exact absurd q (by decide)
  · rename (Str.ofString "d" == Txt.lower x) = true => q
    rename News _ _ _ _ => eN
    rcases hj with ⟨e, e'⟩ | ⟨e, e'⟩ | ⟨e, e'⟩ | ⟨e, e'⟩
    · rw [e] at q; exact absurd q (by decide)
    · rw [e] at q; exact absurd q (by decide)
    · rw [e] at q; exact absurd q (by decide)
    · subst e'; exact ret _ _ _ _ (by assumption) (newsSub eN (subS subR)) ⟨rfl, _, rfl⟩
  · rename (Str.ofString "a" == Txt.lower x) = false => q0
    rename (Str.ofString "b" == Txt.lower x) = false => q1
    rename (Str.ofString "c" == Txt.lower x) = false => q2
    rename (Str.ofString "d" == Txt.lower x) = false => q3
    rcases hj with ⟨e, e'⟩ | ⟨e, e'⟩ | ⟨e, e'⟩ | ⟨e, e'⟩
    · rw [e] at q0; exact absurd q0 (by decide)
    · rw [e] at q1; exact absurd q1 (by decide)
    · rw [e] at q2; exact absurd q2 (by decide)
    · rw [e] at q3; exact absurd q3 (by decide)
end
section
open PySem PySem.W PyProof.Rows PySem.Calls PySem.Spec
theorem fm3 (x : Int) : 0 ≤ x.fmod 3 ∧ x.fmod 3 < 3 := by rw [Int.fmod_eq_emod_of_nonneg _ (by decide)]; omega
theorem fd9 {x : Int} (h0 : 0 ≤ x) (h1 : x < 27) : 0 ≤ x.fdiv 9 ∧ x.fdiv 9 < 3 := by rw [Int.fdiv_eq_ediv_of_nonneg _ (by decide)]; omega
theorem words_lo0 : ∀ n : Fin 27, Txt.item (Str.ofString "kKl") (((n : Nat) : Int).fmod 3) ++ ([Str.ofString "", Str.ofString "k", Str.ofString "l"] : List Str).getD ((((n : Nat) : Int).fdiv 3).fmod 3).toNat Str.empty = Str.ofString (lo n) := by decide +kernel
theorem words_sp0 : ∀ n : Fin 27, ([Str.ofString "", Str.ofString "u", Str.ofString "U"] : List Str).getD (((n : Nat) : Int).fdiv 9).toNat Str.empty = Str.ofString (sp n) := by decide +kernel
theorem sp_len0 : ∀ n : Fin 27, ((((Str.ofString (sp n)).length : Int) != 0) = decide (9 ≤ (n : Nat))) ∧ (Str.ofString (sp n)).length ≤ 16777216 := by decide +kernel
theorem words_lo {n : Int} (h0 : 0 ≤ n) (h27 : n < 27) : Txt.item (Str.ofString "kKl") (n.fmod 3) ++ ([Str.ofString "", Str.ofString "k", Str.ofString "l"] : List Str).getD ((n.fdiv 3).fmod 3).toNat Str.empty = Str.ofString (lo n.toNat) := by
  have := words_lo0 ⟨n.toNat, by omega⟩
  rw [show (((⟨n.toNat, by omega⟩ : Fin 27) : Nat) : Int) = n from Int.toNat_of_nonneg h0] at this
  exact this
theorem words_sp {n : Int} (h0 : 0 ≤ n) (h27 : n < 27) : ([Str.ofString "", Str.ofString "u", Str.ofString "U"] : List Str).getD (n.fdiv 9).toNat Str.empty = Str.ofString (sp n.toNat) := by
  have := words_sp0 ⟨n.toNat, by omega⟩
  rw [show (((⟨n.toNat, by omega⟩ : Fin 27) : Nat) : Int) = n from Int.toNat_of_nonneg h0] at this
  exact this
theorem sp_truth {n : Int} (h0 : 0 ≤ n) (h27 : n < 27) : ((((([Str.ofString "", Str.ofString "u", Str.ofString "U"] : List Str).getD (n.fdiv 9).toNat Str.empty).length : Int) != 0) = decide (9 ≤ n.toNat)) := by
  rw [words_sp h0 h27]; exact (sp_len0 ⟨n.toNat, by omega⟩).1
theorem sp_short {n : Int} (h0 : 0 ≤ n) (h27 : n < 27) : (([Str.ofString "", Str.ofString "u", Str.ofString "U"] : List Str).getD (n.fdiv 9).toNat Str.empty).length ≤ 16777216 := by
  rw [words_sp h0 h27]; exact (sp_len0 ⟨n.toNat, by omega⟩).2
local macro_rules | `(tactic| walk_at "subscriptTail") => `(tactic| (k_here; (with_reducible show wpAny _ _ (subscriptTail _ _ (Value.ref _) (Value.int _ _)) _ _ _); k_dflt (refine' KTb.item_tup ?ktbl ?ktbw ?ktb0 ?ktb1 ?ktbf ?_; (case ktbl => exact News.isTup (by k_asm) (by k_mem)); (case ktbw => repeat constructor); (case ktb0 => first | exact (fm3 _).1 | exact (fd9 (by assumption) (by assumption)).1); (case ktb1 => first | exact (fm3 _).2 | exact (fd9 (by assumption) (by assumption)).2); (case ktbf => first | exact Int.lt_trans (fm3 _).2 (by decide) | exact Int.lt_trans (fd9 (by assumption) (by assumption)).2 (by decide)); intro _ ktbLt)))
local macro_rules | `(tactic| walk_at "truthy str") => `(tactic| (refine KXt.truthy (sp_truth (by assumption) (by assumption)) (sp_short (by assumption) (by assumption)) ?_; intro _))
set_option maxHeartbeats 0 in
theorem words_spec (w : World) (news : List (Addr × Obj)) (n : Int) (h0 : 0 ≤ n) (h27 : n < 27) (tk : Nat) : Sp w 307 ⟨[.int n tk], []⟩ news 5 100
    (fun r news' => ∃ l vs, r = .ref l ∧ news' = (l, W.listOf (List.toArray vs) 0) :: news ∧ StrsAre vs (wordsOf n.toNat) ∧ ∀ p ∈ news, p.1 < l) := by
  intro p loose mean mg mb dp un gd env outer A₀ base h₀ L m s R B F X N T hfe hke hd hu ret
  k_dflt ktr_enter
  k_steps
  · rename Fr _ _ _ _ => eF
    rename News _ _ _ _ => eN
    rename (_ < _ ∧ _ < _ ∧ AllLt _ _) => eL
    rename 9 ≤ n.toNat => h9
    refine ret _ _ _ _ eF (newsSub eN (subC (subS (subS subR)))) ⟨_, [_, _], rfl, rfl, ?_, allLt_mem eL.2.2⟩
    rw [words_lo h0 h27, words_sp h0 h27, wordsOf, if_neg (by omega)]
    exact .cons _ _ (.cons _ _ .nil)
  · rename Fr _ _ _ _ => eF
    rename News _ _ _ _ => eN
    rename (_ < _ ∧ _ < _ ∧ AllLt _ _) => eL
    rename ¬ 9 ≤ n.toNat => h9
    refine ret _ _ _ _ eF (newsSub eN (subC (subS (subS subR)))) ⟨_, [_], rfl, rfl, ?_, allLt_mem eL.2.2⟩
    rw [words_lo h0 h27, wordsOf, if_pos (by omega)]
    exact .cons _ _ .nil
end
local macro_rules | `(tactic| k_mem) => `(tactic| first | assumption | exact List.Mem.head _ | (refine List.Mem.tail _ ?_; k_mem))
local macro_rules | `(tactic| k_all) => `(tactic| assumption)
section
open PySem PySem.W PyProof.Rows PySem.Calls PySem.Spec
set_option maxHeartbeats 0 in
theorem qn_le_s (w : World) (news : List (Addr × Obj)) (x y : Str) (a d tk t ty k : Nat) (hs : Int) (ha : (a, W.instObj 279 d) ∈ news) (hd : (d, dictOf [⟨hs, .str (Str.ofString "text") tk, .str x t⟩] k) ∈ news) :
    Sp w 248 ⟨[.ref a, .str y ty], []⟩ news 10 200 (fun r news' => news' = news ∧ r = .bool (!decide (y.cps.toList < x.cps.toList))) := by
  intro p loose mean mg mb dp un gd env outer A₀ base h₀ L m s R B F X N T hfe hke hd hu ret
  k_dflt ktr_enter
  k_steps
  all_goals exact ret _ _ _ _ (by assumption) (by assumption) ⟨rfl, rfl⟩
set_option maxHeartbeats 0 in
theorem qn_le_q (w : World) (news : List (Addr × Obj)) (x y : Str) (a d tk t k a' d' tk' t' k' : Nat) (hs hs' : Int) (ha : (a, W.instObj 279 d) ∈ news) (hd : (d, dictOf [⟨hs, .str (Str.ofString "text") tk, .str x t⟩] k) ∈ news)
    (ha' : (a', W.instObj 279 d') ∈ news) (hd' : (d', dictOf [⟨hs', .str (Str.ofString "text") tk', .str y t'⟩] k') ∈ news) :
    Sp w 248 ⟨[.ref a, .ref a'], []⟩ news 10 200 (fun r news' => news' = news ∧ r = .bool (!decide (y.cps.toList < x.cps.toList))) := by
  intro p loose mean mg mb dp un gd env outer A₀ base h₀ L m s R B F X N T hfe hke hd hu ret
  k_dflt ktr_enter
  k_steps
  all_goals exact ret _ _ _ _ (by assumption) (by assumption) ⟨rfl, rfl⟩
set_option maxHeartbeats 0 in
theorem qn_lt_s (w : World) (news : List (Addr × Obj)) (x y : Str) (a d tk t ty k : Nat) (hs : Int) (ha : (a, W.instObj 279 d) ∈ news) (hd : (d, dictOf [⟨hs, .str (Str.ofString "text") tk, .str x t⟩] k) ∈ news) :
    Sp w 255 ⟨[.ref a, .str y ty], []⟩ news 10 200 (fun r news' => news' = news ∧ r = .bool (decide (x.cps.toList < y.cps.toList))) := by
  intro p loose mean mg mb dp un gd env outer A₀ base h₀ L m s R B F X N T hfe hke hd hu ret
  k_dflt ktr_enter
  k_steps
  all_goals exact ret _ _ _ _ (by assumption) (by assumption) ⟨rfl, rfl⟩
set_option maxHeartbeats 0 in
theorem qn_lt_q (w : World) (news : List (Addr × Obj)) (x y : Str) (a d tk t k a' d' tk' t' k' : Nat) (hs hs' : Int) (ha : (a, W.instObj 279 d) ∈ news) (hd : (d, dictOf [⟨hs, .str (Str.ofString "text") tk, .str x t⟩] k) ∈ news)
    (ha' : (a', W.instObj 279 d') ∈ news) (hd' : (d', dictOf [⟨hs', .str (Str.ofString "text") tk', .str y t'⟩] k') ∈ news) :
    Sp w 255 ⟨[.ref a, .ref a'], []⟩ news 10 200 (fun r news' => news' = news ∧ r = .bool (decide (x.cps.toList < y.cps.toList))) := by
  intro p loose mean mg mb dp un gd env outer A₀ base h₀ L m s R B F X N T hfe hke hd hu ret
  k_dflt ktr_enter
  k_steps
  all_goals exact ret _ _ _ _ (by assumption) (by assumption) ⟨rfl, rfl⟩
set_option maxHeartbeats 0 in
theorem qn_ge_s (w : World) (news : List (Addr × Obj)) (x y : Str) (a d tk t ty k : Nat) (hs : Int) (ha : (a, W.instObj 279 d) ∈ news) (hd : (d, dictOf [⟨hs, .str (Str.ofString "text") tk, .str x t⟩] k) ∈ news) :
    Sp w 262 ⟨[.ref a, .str y ty], []⟩ news 10 200 (fun r news' => news' = news ∧ r = .bool (!decide (x.cps.toList < y.cps.toList))) := by
  intro p loose mean mg mb dp un gd env outer A₀ base h₀ L m s R B F X N T hfe hke hd hu ret
  k_dflt ktr_enter
  k_steps
  all_goals exact ret _ _ _ _ (by assumption) (by assumption) ⟨rfl, rfl⟩
set_option maxHeartbeats 0 in
theorem qn_ge_q (w : World) (news : List (Addr × Obj)) (x y : Str) (a d tk t k a' d' tk' t' k' : Nat) (hs hs' : Int) (ha : (a, W.instObj 279 d) ∈ news) (hd : (d, dictOf [⟨hs, .str (Str.ofString "text") tk, .str x t⟩] k) ∈ news)
    (ha' : (a', W.instObj 279 d') ∈ news) (hd' : (d', dictOf [⟨hs', .str (Str.ofString "text") tk', .str y t'⟩] k') ∈ news) :
    Sp w 262 ⟨[.ref a, .ref a'], []⟩ news 10 200 (fun r news' => news' = news ∧ r = .bool (!decide (x.cps.toList < y.cps.toList))) := by
  intro p loose mean mg mb dp un gd env outer A₀ base h₀ L m s R B F X N T hfe hke hd hu ret
  k_dflt ktr_enter
  k_steps
  all_goals exact ret _ _ _ _ (by assumption) (by assumption) ⟨rfl, rfl⟩
set_option maxHeartbeats 0 in
theorem qn_gt_s (w : World) (news : List (Addr × Obj)) (x y : Str) (a d tk t ty k : Nat) (hs : Int) (ha : (a, W.instObj 279 d) ∈ news) (hd : (d, dictOf [⟨hs, .str (Str.ofString "text") tk, .str x t⟩] k) ∈ news) :
    Sp w 269 ⟨[.ref a, .str y ty], []⟩ news 10 200 (fun r news' => news' = news ∧ r = .bool (decide (y.cps.toList < x.cps.toList))) := by
  intro p loose mean mg mb dp un gd env outer A₀ base h₀ L m s R B F X N T hfe hke hd hu ret
  k_dflt ktr_enter
  k_steps
  all_goals exact ret _ _ _ _ (by assumption) (by assumption) ⟨rfl, rfl⟩
set_option maxHeartbeats 0 in
theorem qn_gt_q (w : World) (news : List (Addr × Obj)) (x y : Str) (a d tk t k a' d' tk' t' k' : Nat) (hs hs' : Int) (ha : (a, W.instObj 279 d) ∈ news) (hd : (d, dictOf [⟨hs, .str (Str.ofString "text") tk, .str x t⟩] k) ∈ news)
    (ha' : (a', W.instObj 279 d') ∈ news) (hd' : (d', dictOf [⟨hs', .str (Str.ofString "text") tk', .str y t'⟩] k') ∈ news) :
    Sp w 269 ⟨[.ref a, .ref a'], []⟩ news 10 200 (fun r news' => news' = news ∧ r = .bool (decide (y.cps.toList < x.cps.toList))) := by
  intro p loose mean mg mb dp un gd env outer A₀ base h₀ L m s R B F X N T hfe hke hd hu ret
  k_dflt ktr_enter
  k_steps
  all_goals exact ret _ _ _ _ (by assumption) (by assumption) ⟨rfl, rfl⟩
end
local macro_rules | `(tactic| walk_at "ite") => `(tactic| first | refine ite_pos (by (first | omega | (simp only [beq_iff_eq, bne_iff_ne, ne_eq, decide_eq_true_eq, Bool.not_eq_true, List.length_cons]; omega))) ?_ | refine ite_neg (by (first | omega | (simp only [beq_iff_eq, bne_iff_ne, ne_eq, decide_eq_true_eq, Bool.not_eq_true, List.length_cons]; omega))) ?_)
local macro_rules | `(tactic| walk_at "call builtin:len") => `(tactic| (k_here; (with_reducible show wpAny _ _ (call (Value.builtin "len") [Value.ref _]) _ _ _); k_dflt (refine len_led (by k_asm) (by k_mem) (by ((try simp only [List.length_cons]); omega)) ?_); intro _ _))
local macro_rules | `(tactic| walk_at "subscriptTail") => `(tactic| (k_here; (with_reducible show wpAny _ _ (subscriptTail _ _ (Value.ref _) (Value.int _ _)) _ _ _); k_dflt (refine item_led (by k_asm) (by k_mem) (by first | decide | omega) (by first | decide | omega) (by first | rfl | assumption) ?_)))
local macro_rules | `(tactic| walk_at "exec Assign cons ListComp") => `(tactic| (k_here; k_dflt (refine LCg.Assign_ListComp_U (F₀ := by k_asm) (by rfl) (by with_unfolding_all rfl) (by with_unfolding_all rfl) (by decide) (by rfl) (by decide) (by rfl) (by rfl) (by rfl) ?_)))
local macro_rules | `(tactic| walk_at "eval ListComp") => `(tactic| (k_here; k_dflt (refine LCg.ListComp_U (F₀ := by k_asm) (by with_unfolding_all rfl) (by decide) (by rfl) (by decide) (by rfl) ?_)))
local macro_rules | `(tactic| walk_at "subscriptTail Name Slice ref ref") => `(tactic| (k_here; (with_reducible show wpAny _ _ (subscriptTail _ (PySem.Expr.Slice _ _ none _) (Value.ref _) (Value.ref _)) _ _ _); k_dflt (refine kmk_slice_lit (by k_asm) (by k_asm) (News.isList (by k_asm) (by k_mem)) (by kmk_part) (by kmk_part) pick_tail ?_ (by with_unfolding_all rfl) (by kmk_pure) (by (simp only [List.size_toArray, List.length_cons]; rw [sizeLine_eq]; omega))); intro D' h' F' N' l1; (try k_sweep)))
local macro_rules | `(tactic| walk_at "call ref") => `(tactic| (k_here; k_dflt (k_extra "rec")))
local macro_rules | `(tactic| walk_at "call builtin:max") => `(tactic| (k_here; (with_reducible show wpAny _ _ (call (Value.builtin _) [Value.ref _]) _ _ _); k_dflt (refine call_max_strs (by rfl) (by k_asm) (by k_asm) (by k_mem) (by assumption) ?_); intro t' h' k' F' N'; (try k_sweep)))
local macro_rules | `(tactic| walk_at "call builtin:min") => `(tactic| (k_here; (with_reducible show wpAny _ _ (call (Value.builtin _) [Value.ref _]) _ _ _); k_dflt (refine call_min_strs (by rfl) (by k_asm) (by k_asm) (by k_mem) (by assumption) ?_); intro t' h' k' F' N'; (try k_sweep)))
theorem reset1 : True := by
  k_with "rec" => fail "none"
  k_with "src" => fail "none"
  k_with "my end" => fail "none"
  k_with "eq" => fail "none"
  trivial
section
open PySem PySem.W PyProof.Rows PySem.Calls PySem.Spec
/-- the table of plain texts -/
def plainD (pl : Nat → Str) : List (PyData × PyData) := [(.str (Str.ofString "a"), .str (pl 0)), (.str (Str.ofString "b"), .str (pl 1)), (.str (Str.ofString "c"), .str (pl 2)), (.str (Str.ofString "d"), .str (pl 3))]
def PlainIn (w : World) (news : List (Addr × Obj)) (pd : Addr) (pl : Nat → Str) : Prop :=
  ∃ o kvs, (pd, o) ∈ news ∧ (pd == sysModules) = false ∧ o.IsDictOf (strKind PySem.Challenge.rw_ul0027_01.row.prog w) kvs ∧ PyProof.V.FlatPairs PyData.str kvs (plainD pl)
set_option maxHeartbeats 0 in
theorem worth_leaf (w : World) (news : List (Addr × Obj)) (x v : Str) (hlen : x.length = 1) (D : List (PyData × PyData)) (hlk : Spec.lookup (.str (Txt.lower x)) D = some (.str v)) (t : Nat) (pd : Addr) (o : Obj) (kvs : List (Str × Value))
    (h1 : (pd, o) ∈ news) (h2 : (pd == sysModules) = false) (h3 : o.IsDictOf (strKind PySem.Challenge.rw_ul0027_01.row.prog w) kvs) (h4 : PyProof.V.FlatPairs PyData.str kvs D) :
    Sp w 326 ⟨[.str x t, .ref pd], []⟩ news 10 200 (fun r news' => news' = news ∧ ∃ t, r = .str v t) := by
  intro p loose mean mg mb dp un gd env outer A₀ base h₀ L m s R B F X N T hfe hke hd hu ret
  k_dflt ktr_enter
  k_steps
  rename PyProof.V.Flat _ _ => hv
  rename News _ _ _ _ => eN
  exact ret _ _ _ _ (by assumption) (newsSub eN (subS subR)) ⟨rfl, _, rfl⟩
set_option maxHeartbeats 0 in
theorem worth_node (w : World) (news : List (Addr × Obj)) (pl : Nat → Str) (op : Bool) (g0 : G) (gs : List G) (nd t n : Nat) (vs : List Value) (pd : Addr)
    (hnd : (nd, W.listOf (List.toArray (.str (opS op) t :: vs)) n) ∈ news) (hvl : vs.length = gs.length + 1) (hsz : gs.length ≤ 1000) (d u : Nat)
    (hrec : ∀ (i : Nat) (v : Value) (x : Str), vs[i]? = some v → (worths pl (g0 :: gs))[i]? = some x → ∀ news', (∀ p ∈ news, p ∈ news') → Sp w 326 ⟨[v, .ref pd], []⟩ news' d u (fun r n' => n' = news' ∧ ∃ t, r = .str x t)) :
    Sp w 326 ⟨[.ref nd, .ref pd], []⟩ news (d + 10) (u + 200) (fun r news' => news' = news ∧ ∃ t, r = .str (best op (worths pl (g0 :: gs))) t) := by
  intro p loose mean mg mb dp un gd env outer A₀ base h₀ L m s R B F X N T hfe hke hd hu ret
  k_dflt ktr_enter
  k_steps
  rename Fr _ _ _ _ => cF
  rename News _ _ _ _ => cN
  refine LCg.CompSrc.ledger (by rfl) cF cN (.head _) (by rw [List.size_toArray, sizeLine_eq]; omega) (fun g1 => ?_)
  refine comp_strs (worths pl (g0 :: gs)) (.inr ⟨_, .head _, rfl, _, rfl⟩) (fun i x' hx' v I oI C oC D ys m₂ h tk E' hP hC hm F5 N5 => ?_) (fun ys hys => ?_) _ 0 [] ?_ .nil
  · have hv : vs[i]? = some v := by simpa using hP
    k_with "rec" => (refine Sp.use (hrec i v x' hv hx' _ ?sb) (by k_asm) (by k_asm) (by k_asm) (by k_asm) (by k_asm) (by exact rfl) (by exact rfl) (by exact rfl) (by exact rfl) (by dsimp only; omega) (by dsimp only; omega) ?_; (case sb => exact subS (subS (subS (subS (subS subR))))); intro r9 n9 h9 t9 F9 N9 P9; (obtain ⟨e1, q1, e2⟩ := P9); subst e1; subst e2; (try k_sweep))
    k_steps
    all_goals assumption
  · k_steps
    · rename (opS op == _) = true => q
      rename News _ _ _ _ => eN
      rw [opS_is] at q
      subst q
      exact ret _ _ _ _ (by assumption) (newsSub eN (subS (subS (subS subR)))) ⟨rfl, _, rfl⟩
    · rename (opS op == _) = false => q
      rename News _ _ _ _ => eN
      rw [opS_is] at q
      subst q
      exact ret _ _ _ _ (by assumption) (newsSub eN (subS (subS (subS subR)))) ⟨rfl, _, rfl⟩
  · rw [worths_len, List.size_toArray, hvl, Nat.zero_add]; rfl
theorem plain_lookup (pl : Nat → Str) : ∀ i : Fin 8, Spec.lookup (.str (Txt.lower (leafS i))) (plainD pl) = some (.str (pl (i % 4))) := by
  intro i
  rw [leaf_low]
  match i with
  | 0 => rfl
  | 1 => rfl
  | 2 => rfl
  | 3 => rfl
  | 4 => rfl
  | 5 => rfl
  | 6 => rfl
  | 7 => rfl
theorem PlainIn.mono {w : World} {news news' : List (Addr × Obj)} {pd : Addr} {pl : Nat → Str} (h : PlainIn w news pd pl) (hs : ∀ p ∈ news, p ∈ news') : PlainIn w news' pd pl := by
  obtain ⟨o, kvs, a, b, c, e⟩ := h
  exact ⟨o, kvs, hs _ a, b, c, e⟩
theorem worth_spec (w : World) (pl : Nat → Str) (g : G) (news : List (Addr × Obj)) (v : Value) (pd : Addr) (hv : GAt news v g) (hp : PlainIn w news pd pl) (hok : g.Ok) (hsz : g.size ≤ 1000) :
    Sp w 326 ⟨[v, .ref pd], []⟩ news (10 * g.size) (200 * g.size) (fun r n' => n' = news ∧ ∃ t, r = .str (g.worth pl) t) := by
  match g with
  | .leaf i =>
    unfold GAt at hv
    obtain ⟨t, rfl⟩ := hv
    unfold G.Ok at hok
    obtain ⟨o, kvs, h1, h2, h3, h4⟩ := hp
    unfold G.worth G.size
    exact worth_leaf w news _ _ (leaf_len ⟨i, hok⟩) _ (plain_lookup pl ⟨i, hok⟩) t pd o kvs h1 h2 h3 h4
  | .node op [] => unfold G.Ok at hok; exact absurd rfl hok.1
  | .node op (g0 :: gs) =>
    unfold GAt at hv
    obtain ⟨a, t, vs, n, rfl, hm, hps⟩ := hv
    unfold G.Ok at hok
    have hl := hps.len
    have h1 := sizes_len (g0 :: gs)
    unfold G.size at hsz
    simp only [List.length_cons] at hl h1
    unfold G.worth
    refine (worth_node w news pl op g0 gs a t n vs pd hm hl (by omega) (10 * sizes (g0 :: gs)) (200 * sizes (g0 :: gs)) ?_).weaken (by unfold G.size; omega) (by unfold G.size; omega)
    intro i v x hvi hx news' hsub
    obtain ⟨g', hg', hgv⟩ := hps.get hvi
    obtain ⟨g'', hg'', rfl⟩ := worths_get pl hx
    rw [hg'] at hg''
    obtain rfl := Option.some.inj hg''
    have hmem := List.mem_of_getElem? hg'
    have hs := sizes_mem hmem
    exact (worth_spec w pl g' news' v pd (hgv.mono hsub) (hp.mono hsub) (Oks_mem hok.2 hmem) (by omega)).weaken (by omega) (by omega)
termination_by g.size
decreasing_by
  have hs := sizes_mem hmem
  rw [node_size]
  omega
end
theorem reset2 : True := by
  k_with "rec" => fail "none"
  k_with "src" => fail "none"
  k_with "my end" => fail "none"
  k_with "eq" => fail "none"
  trivial
section
open PySem PySem.W PyProof.Rows PySem.Calls PySem.Spec
theorem add_strs {prog : Program} {w : World} {A : Around} {E : Value → Shared → Prop} {s : Shared} {x y : Str} {t u : Tok} {Q : Value → Shared → Prop} (hx : x.length ≤ 1000000) (hy : y.length ≤ 1000000) (h : ∀ t' tk, Q (.str (x ++ y) t') { s with toks := tk }) :
    wpAny (model prog w) A (binaryOp .Add (.str x t) (.str y u)) Q E s := PyProof.Rows.add_str h (by rw [sizeLine_eq]; omega)
theorem opS_len : ∀ o, (opS o).length = 1 := by decide
theorem writtens_len : ∀ gs, (writtens gs).length = gs.length
  | [] => by unfold writtens; rfl
  | _ :: gs => by unfold writtens; simp [writtens_len gs]
theorem writtens_get : ∀ {gs : List G} {i : Nat} {x : Str}, (writtens gs)[i]? = some x → ∃ g, gs[i]? = some g ∧ x = g.written
  | [], i, x, h => by unfold writtens at h; simp at h
  | g :: gs, 0, x, h => by unfold writtens at h; simp at h; exact ⟨g, rfl, h.symm⟩
  | g :: gs, i + 1, x, h => by unfold writtens at h; exact writtens_get (gs := gs) (by simpa using h)
theorem join_len (sep : Str) (ys : List Str) : (Str.join sep ys).length = (ys.map (·.length)).sum + (ys.length - 1) * sep.length := by
  rw [← StrLaws.glued_eq_join, size_glued]
mutual
theorem written_len : ∀ g : G, g.Ok → g.written.length + 2 ≤ 3 * g.size
  | .leaf i, h => by
    unfold G.Ok at h
    unfold G.written G.size
    have := leaf_len ⟨i, h⟩
    dsimp only at this
    omega
  | .node o ps, h => by
    unfold G.Ok at h
    have h1 := writtens_sum ps h.2
    have h2 : 0 < ps.length := List.length_pos_iff.mpr h.1
    unfold G.written G.size
    rw [strLen_append, strLen_append, join_len, opS_len, writtens_len]
    have e1 : (Str.ofString "(").length = 1 := by decide
    have e2 : (Str.ofString ")").length = 1 := by decide
    omega
theorem writtens_sum : ∀ gs : List G, Oks gs → ((writtens gs).map (·.length)).sum + 2 * gs.length ≤ 3 * sizes gs
  | [], _ => by unfold writtens; simp
  | g :: gs, h => by
    unfold Oks at h
    have h1 := written_len g h.1
    have h2 := writtens_sum gs h.2
    unfold writtens sizes
    simp only [List.map_cons, List.sum_cons, List.length_cons]
    omega
end
local macro_rules | `(tactic| walk_at "binaryOp Add str str") => `(tactic| (k_here; k_dflt (refine add_strs (by first | assumption | decide) (by first | assumption | decide) ?_); intro _ _))
local macro_rules | `(tactic| walk_at "call builtin:str.join") => `(tactic| (k_here; k_dflt (refine join_list (News.isList (by k_asm) (by k_mem)) (by assumption) (by assumption) ?_); intro _ _))
set_option maxHeartbeats 0 in
theorem written_leaf (w : World) (news : List (Addr × Obj)) (x : Str) (hlen : x.length = 1) (t : Nat) :
    Sp w 300 ⟨[.str x t], []⟩ news 10 200 (fun r news' => news' = news ∧ ∃ t, r = .str x t) := by
  intro p loose mean mg mb dp un gd env outer A₀ base h₀ L m s R B F X N T hfe hke hd hu ret
  k_dflt ktr_enter
  k_steps
  exact ret _ _ _ _ (by assumption) (by assumption) ⟨rfl, _, rfl⟩
set_option maxHeartbeats 0 in
theorem written_node (w : World) (news : List (Addr × Obj)) (op : Bool) (gs : List G) (nd t n : Nat) (vs : List Value)
    (hnd : (nd, W.listOf (List.toArray (.str (opS op) t :: vs)) n) ∈ news) (hvl : vs.length = gs.length) (hne : 0 < gs.length) (hsz : gs.length ≤ 1000)
    (hj : ((writtens gs).map (·.length)).sum + (writtens gs).length * (opS op).length ≤ 16777216) (hj1 : (Txt.join (opS op) (writtens gs)).length ≤ 1000000) (hj2 : (Str.ofString "(" ++ Txt.join (opS op) (writtens gs)).length ≤ 1000000) (d u : Nat)
    (hrec : ∀ (i : Nat) (v : Value) (x : Str), vs[i]? = some v → (writtens gs)[i]? = some x → ∀ news', (∀ p ∈ news, p ∈ news') → Sp w 300 ⟨[v], []⟩ news' d u (fun r n' => n' = news' ∧ ∃ t, r = .str x t)) :
    Sp w 300 ⟨[.ref nd], []⟩ news (d + 10) (u + 200) (fun r news' => news' = news ∧ ∃ t, r = .str (Str.ofString "(" ++ Txt.join (opS op) (writtens gs) ++ Str.ofString ")") t) := by
  intro p loose mean mg mb dp un gd env outer A₀ base h₀ L m s R B F X N T hfe hke hd hu ret
  k_dflt ktr_enter
  k_steps
  rename Fr _ _ _ _ => cF
  rename News _ _ _ _ => cN
  refine LCg.CompSrc.ledger (by rfl) cF cN (.head _) (by rw [List.size_toArray, sizeLine_eq]; omega) (fun g1 => ?_)
  refine comp_strs (writtens gs) (.inr ⟨_, .head _, rfl, _, rfl⟩) (fun i x' hx' v I oI C oC D ys m₂ h tk E' hP hC hm F5 N5 => ?_) (fun ys hys => ?_) _ 0 [] ?_ .nil
  · have hv : vs[i]? = some v := by simpa using hP
    k_with "rec" => (refine Sp.use (hrec i v x' hv hx' _ ?sb) (by k_asm) (by k_asm) (by k_asm) (by k_asm) (by k_asm) (by exact rfl) (by exact rfl) (by exact rfl) (by exact rfl) (by dsimp only; omega) (by dsimp only; omega) ?_; (case sb => exact subS (subS (subS (subS subR)))); intro r9 n9 h9 t9 F9 N9 P9; (obtain ⟨e1, q1, e2⟩ := P9); subst e1; subst e2; (try k_sweep))
    k_steps
    all_goals assumption
  · k_steps
    rename News _ _ _ _ => eN
    exact ret _ _ _ _ (by assumption) (newsSub eN (subS (subS subR))) ⟨rfl, _, rfl⟩
  · rw [writtens_len, List.size_toArray, hvl, Nat.zero_add]
theorem written_spec (w : World) (g : G) (news : List (Addr × Obj)) (v : Value) (hv : GAt news v g) (hok : g.Ok) (hsz : g.size ≤ 1000) :
    Sp w 300 ⟨[v], []⟩ news (10 * g.size) (200 * g.size) (fun r n' => n' = news ∧ ∃ t, r = .str g.written t) := by
  match g with
  | .leaf i =>
    unfold GAt at hv
    obtain ⟨t, rfl⟩ := hv
    unfold G.Ok at hok
    unfold G.written G.size
    exact written_leaf w news _ (leaf_len ⟨i, hok⟩) t
  | .node op gs =>
    unfold GAt at hv
    obtain ⟨a, t, vs, n, rfl, hm, hps⟩ := hv
    have hok' := hok
    unfold G.Ok at hok
    have hl := hps.len
    have h1 := sizes_len gs
    have h2 : 0 < gs.length := List.length_pos_iff.mpr hok.1
    have h3 := writtens_sum gs hok.2
    rw [node_size] at hsz ⊢
    have e1 : (Str.ofString "(").length = 1 := by decide
    have h4 : (Txt.join (opS op) (writtens gs)).length ≤ 100000 := by
      have e2 := size_glued (opS op) (writtens gs)
      show (Txt.join _ _).length ≤ _
      rw [show (Txt.join (opS op) (writtens gs)).length = _ from e2]
      rw [opS_len, writtens_len]; omega
    unfold G.written
    rw [← StrLaws.glued_eq_join]
    refine (written_node w news op gs a t n vs hm hl h2 (by omega) (by rw [opS_len, writtens_len]; omega) (by omega) (by rw [strLen_append]; omega) (10 * sizes gs) (200 * sizes gs) ?_).weaken (by omega) (by omega)
    intro i v x hvi hx news' hsub
    obtain ⟨g', hg', hgv⟩ := hps.get hvi
    obtain ⟨g'', hg'', rfl⟩ := writtens_get hx
    rw [hg'] at hg''
    obtain rfl := Option.some.inj hg''
    have hmem := List.mem_of_getElem? hg'
    have hs := sizes_mem hmem
    exact (written_spec w g' news' v (hgv.mono hsub) (Oks_mem hok.2 hmem) (by omega)).weaken (by omega) (by omega)
termination_by g.size
decreasing_by
  have hs := sizes_mem hmem
  rw [node_size]
  omega
end
local macro_rules | `(tactic| walk_at "newTuple") => `(tactic| (k_here; k_dflt (refine' kup_newTuple ?F ?N ?_ ?z; (case F => k_asm); (case N => k_asm); (case z => kmk_size)); intro D' h' F' N' l1; (try k_lt l1); (try k_sweep)))
local macro_rules | `(tactic| walk_at "loadName") => `(tactic| (k_here; k_dflt (refine' wpAny_loadName_local ?k1 ?k2 (Fr.ns ?F) ?e ?_; (case k1 => exact rfl); (case k2 => exact rfl); (case F => k_asm); (case e => first | rfl | assumption | (simp (decide := true) only [if_true, if_false]; assumption)))))
local macro_rules | `(tactic| walk_at "binaryOp Add ref ref") => `(tactic| (k_here; k_dflt (refine add_lists' (by k_asm) (by k_asm) (by k_mem) (by k_mem) (by (simp only [List.length_cons, List.length_nil]; omega)) ?_); intro D' h' F' N' l1; (try k_sweep)))
local macro_rules | `(tactic| walk_at "eval Name") => `(tactic| (k_here; k_dflt (refine' nameX_L ?F ?e ?_ ?k1 ?k2; (case k1 => exact rfl); (case k2 => exact rfl); (case F => k_asm); (case e => first | rfl | assumption | (simp (decide := true) only [if_true, if_false]; assumption)))))
local macro_rules | `(tactic| walk_at "eval Name") => `(tactic| (k_here; k_dflt (refine' nameX_C ?N ?c ?m ?e ?_ ?k1 ?k2; (case k1 => exact rfl); (case k2 => exact rfl); (case N => k_asm); (case c => exact rfl); (case m => k_mem); (case e => assumption))))
local macro_rules | `(tactic| walk_at "eval Name") => `(tactic| (k_here; k_dflt (refine' nameX_F ?N ?c ?m ?e ?_ ?k1 ?k2; (case k1 => exact rfl); (case k2 => exact rfl); (case N => k_asm); (case c => exact rfl); (case m => k_mem); (case e => assumption))))
theorem reset3 : True := by
  k_with "rec" => fail "none"
  k_with "src" => fail "none"
  k_with "my end" => fail "none"
  k_with "eq" => fail "none"
  trivial
section
open PySem PySem.W PyProof.Rows PySem.Calls PySem.Spec
theorem pick_ahead {v : Value} {l : List Value} {i : Nat} : (slicePick (v :: l).toArray (some 1) (some ((1 : Int) + (i : Int))) none).toList = l.take i := by
  rw [pick_run' (by decide) (by omega)]
  have e : ((1 : Int) + (i : Int)).toNat - (1 : Int).toNat = i := by omega
  rw [e]; rfl
local macro_rules | `(tactic| walk_at "subscriptTail Name Slice ref ref") => `(tactic| (k_here; (with_reducible show wpAny _ _ (subscriptTail _ (PySem.Expr.Slice _ (some _) none _) (Value.ref _) (Value.ref _)) _ _ _); k_dflt (refine kmk_slice_lit (by k_asm) (by k_asm) (News.isList (by k_asm) (by k_mem)) (by kmk_part) (by kmk_part) pick_ahead ?_ (by with_unfolding_all rfl) (by kmk_pure) (by (simp only [List.size_toArray, List.length_cons]; rw [sizeLine_eq]; omega))); intro D' h' F' N' l1; (try k_sweep)))
mutual
def G.asked (pl : Nat → Str) : G → Str → Str → List (Str × Str)
  | .leaf i, lo, hi => if lts lo hi = true then [(leafS i, pl (i % 4))] else []
  | .node o ps, lo, hi => askeds pl o lo hi [] ps
def askeds (pl : Nat → Str) (o : Bool) (lo hi : Str) : List Str → List G → List (Str × Str)
  | _, [] => []
  | ah, g :: gs => g.asked pl (if o then best true (lo :: ah) else lo) (if o then hi else best false (hi :: ah)) ++ askeds pl o lo hi (ah ++ [g.worth pl]) gs
end
theorem askeds_snoc (pl : Nat → Str) (o : Bool) (lo hi : Str) (g : G) : ∀ (gs : List G) (ah : List Str), askeds pl o lo hi ah (gs ++ [g]) =
    askeds pl o lo hi ah gs ++ g.asked pl (if o then best true (lo :: (ah ++ worths pl gs)) else lo) (if o then hi else best false (hi :: (ah ++ worths pl gs)))
  | [], ah => by simp only [List.nil_append, askeds, List.append_nil, worths]
  | g' :: gs, ah => by
    simp only [List.cons_append, askeds, worths]
    rw [askeds_snoc pl o lo hi g gs (ah ++ [g'.worth pl])]
    simp only [List.append_assoc, List.cons_append, List.nil_append]
mutual
theorem asked_len (pl : Nat → Str) : ∀ (g : G) (lo hi : Str), (g.asked pl lo hi).length ≤ g.size
  | .leaf i, lo, hi => by
    unfold G.asked G.size
    split
    · exact Nat.le_refl 1
    · exact Nat.zero_le 1
  | .node o ps, lo, hi => by
    unfold G.asked G.size
    have := askeds_len pl o lo hi ps []
    omega
theorem askeds_len (pl : Nat → Str) (o : Bool) (lo hi : Str) : ∀ (gs : List G) (ah : List Str), (askeds pl o lo hi ah gs).length ≤ sizes gs
  | [], ah => by unfold askeds sizes; exact Nat.le_refl 0
  | g :: gs, ah => by
    unfold askeds sizes
    rw [List.length_append]
    exact Nat.add_le_add (asked_len pl g _ _) (askeds_len pl o lo hi gs _)
end
theorem sizes_take : ∀ (gs : List G) (i : Nat), sizes (gs.take i) ≤ sizes gs
  | [], i => by simp
  | g :: gs, 0 => by simp [sizes]
  | g :: gs, i + 1 => by
    have := sizes_take gs i
    simp only [List.take_succ_cons, sizes]
    omega
abbrev tup2 (x : Str) (t : Tok) (y : Str) (u : Tok) : Obj := { cls := .type "tuple", data := .seq #[.str x t, .str y u] }
def PairsAt (news : List (Addr × Obj)) : List Value → List (Str × Str) → Prop
  | [], [] => True
  | v :: vs, e :: es => (∃ T t u, v = .ref T ∧ (T, tup2 e.1 t e.2 u) ∈ news) ∧ PairsAt news vs es
  | _, _ => False
theorem PairsAt.mono {news news' : List (Addr × Obj)} (hs : ∀ p ∈ news, p ∈ news') : ∀ {vs : List Value} {es : List (Str × Str)}, PairsAt news vs es → PairsAt news' vs es
  | [], [], _ => trivial
  | [], _ :: _, h => h.elim
  | _ :: _, [], h => h.elim
  | _ :: _, _ :: _, ⟨⟨T, t, u, a, b⟩, h⟩ => ⟨⟨T, t, u, a, hs _ b⟩, h.mono hs⟩
theorem PairsAt.append {news : List (Addr × Obj)} : ∀ {vs : List Value} {es : List (Str × Str)} {ws : List Value} {fs : List (Str × Str)}, PairsAt news vs es → PairsAt news ws fs → PairsAt news (vs ++ ws) (es ++ fs)
  | [], [], _, _, _, k => k
  | [], _ :: _, _, _, h, _ => h.elim
  | _ :: _, [], _, _, h, _ => h.elim
  | _ :: _, _ :: _, _, _, ⟨a, h⟩, k => ⟨a, h.append k⟩
theorem PairsAt.len {news : List (Addr × Obj)} : ∀ {vs : List Value} {es : List (Str × Str)}, PairsAt news vs es → vs.length = es.length
  | [], [], _ => rfl
  | [], _ :: _, h => h.elim
  | _ :: _, [], h => h.elim
  | _ :: _, _ :: _, ⟨_, h⟩ => by simp [h.len]
def AskPost (news : List (Addr × Obj)) (es : List (Str × Str)) (r : Value) (n' : List (Addr × Obj)) : Prop :=
  ∃ rl n tl vs, r = .ref rl ∧ n' = (rl, W.listOf (List.toArray vs) n) :: (tl ++ news) ∧ PairsAt tl vs es ∧ (∀ p ∈ tl, p.1 ≠ rl) ∧ (∀ q ∈ news, ∀ p ∈ tl, q.1 < p.1) ∧ ∀ q ∈ news, q.1 < rl
theorem sub_mid {α : Type} {a b c : α} {X Y : List α} : ∀ p ∈ c :: a :: (X ++ b :: Y), p ∈ a :: (X ++ b :: c :: Y) := by
  intro p hp
  simp only [List.mem_cons, List.mem_append] at hp ⊢
  rcases hp with h | h | h | h | h <;> simp [h]
theorem sub_mid2 {α : Type} {a b c : α} {X Y : List α} : ∀ p ∈ b :: c :: a :: (X ++ Y), p ∈ c :: a :: (X ++ b :: Y) := by
  intro p hp
  simp only [List.mem_cons, List.mem_append] at hp ⊢
  rcases hp with h | h | h | h | h <;> simp [h]
theorem subOf {h₀ h : Heap} {L : Addr} {l l' : List (Addr × Obj)} (_ : News h₀ L h l') (hs : ∀ p ∈ l, p ∈ l') : ∀ p ∈ l, p ∈ l' := hs
set_option maxHeartbeats 0 in
theorem asked_leaf (w : World) (news : List (Addr × Obj)) (x v lo hi : Str) (hlen : x.length = 1) (D : List (PyData × PyData)) (hlk : Spec.lookup (.str (Txt.lower x)) D = some (.str v)) (t tlo thi : Nat) (pd : Addr) (o : Obj) (kvs : List (Str × Value))
    (h1 : (pd, o) ∈ news) (h2 : (pd == sysModules) = false) (h3 : o.IsDictOf (strKind PySem.Challenge.rw_ul0027_01.row.prog w) kvs) (h4 : PyProof.V.FlatPairs PyData.str kvs D) :
    Sp w 331 ⟨[.str x t, .str lo tlo, .str hi thi, .ref pd], []⟩ news 10 200 (AskPost news (if lts lo hi = true then [(x, v)] else [])) := by
  intro p loose mean mg mb dp un gd env outer A₀ base h₀ L m s R B F X N T hfe hke hd hu ret
  k_dflt ktr_enter
  k_steps
  · rename lo.cps.toList < hi.cps.toList => q
    rename Fr _ _ _ _ => eF
    rename News _ _ _ _ => eN
    rename (_ < _ ∧ _ < _ ∧ AllLt _ _) => eL
    rename (_ < _ ∧ AllLt _ _) => eL2
    refine ret _ _ _ _ eF (newsSub eN (subC (subC (subS subR)))) ?_
    rw [if_pos (by unfold lts; exact decide_eq_true q)]
    refine ⟨_, _, [_], [_], rfl, rfl, ⟨⟨_, _, _, rfl, .head _⟩, trivial⟩, fun p hp => ?_, fun q hq p hp => ?_, allLt_mem eL.2.2⟩
    · rw [List.mem_singleton.mp hp]; exact Nat.ne_of_lt eL.1
    · rw [List.mem_singleton.mp hp]; exact allLt_mem eL2.2 _ hq
  · rename ¬ lo.cps.toList < hi.cps.toList => q
    rename Fr _ _ _ _ => eF
    rename News _ _ _ _ => eN
    rename (_ < _ ∧ AllLt _ _) => eL
    refine ret _ _ _ _ eF (newsSub eN (subC (subS subR))) ?_
    rw [if_neg (by unfold lts; simpa using q)]
    exact ⟨_, _, [], [], rfl, rfl, trivial, (fun p hp => nomatch hp), (fun q hq p hp => nomatch hp), allLt_mem eL.2⟩
set_option maxHeartbeats 900000 in
theorem asked_node (w : World) (news : List (Addr × Obj)) (pl : Nat → Str) (op : Bool) (gs : List G) (lo hi : Str) (nd t n tlo thi : Nat) (vs : List Value) (pd : Addr)
    (hnd : (nd, W.listOf (List.toArray (.str (opS op) t :: vs)) n) ∈ news) (hps : GsAt news vs gs) (hpl : PlainIn w news pd pl) (hok : Oks gs) (hne : 0 < gs.length) (hsz : sizes gs ≤ 1000) (d u : Nat) (hd1 : 10 * sizes gs ≤ d) (hu1 : 200 * sizes gs ≤ u)
    (hrec : ∀ (i : Nat) (v : Value) (g : G), vs[i]? = some v → gs[i]? = some g → ∀ news', (∀ p ∈ news, p ∈ news') → ∀ (lo' hi' : Str) (tl th : Nat), Sp w 331 ⟨[v, .str lo' tl, .str hi' th, .ref pd], []⟩ news' d u (AskPost news' (g.asked pl lo' hi'))) :
    Sp w 331 ⟨[.ref nd, .str lo tlo, .str hi thi, .ref pd], []⟩ news (d + 10) (u + 200) (AskPost news (askeds pl op lo hi [] gs)) := by
  intro p loose mean mg mb dp un gd env outer A₀ base h₀ L m s R B F X N T hfe hke hd hu ret
  have hvl := hps.len
  have hl1 := sizes_len gs
  k_dflt ktr_enter
  k_steps
  rename_i L1 _ _ _ _ _ _ _ _ hL o1 _ _ _ _ as1 _ hl _ _ _ _ _ _ _ _ _ _ hr eF eN _
  have e1 : ((Value.str (opS op) t :: vs).length : Int) = (gs.length : Int) + 1 := by simp [hvl]
  rw [e1] at hr
  refine iter_rangeJ (n := gs.length) (by rfl) hr ?small ?size eF eN (fun i m ns => m (Str.ofString "game") = some (.ref nd) ∧ m (Str.ofString "low") = some (.str lo tlo) ∧ m (Str.ofString "high") = some (.str hi thi) ∧ m (Str.ofString "asked") = some (.ref as1) ∧
    ∃ n acc tl, ns = (as1, W.listOf (List.toArray acc) n) :: (tl ++ (L1 + 1, o1) :: news) ∧ PairsAt tl acc (askeds pl op lo hi [] (gs.take i)) ∧ (∀ p ∈ tl, p.1 ≠ as1) ∧ (∀ q ∈ news, ∀ p ∈ tl, q.1 < p.1))
    ⟨rfl, rfl, rfl, rfl, 0, [], [], rfl, by simp only [List.take_zero, askeds]; trivial, (fun p hp => nomatch hp), (fun q hq p hp => nomatch hp)⟩ ?turn ?done
  case small => exact small_one (by omega) (by omega) (by omega) (by omega)
  case size => rw [rangeSize_one]; split <;> omega
  case done =>
    rintro h tk m' news' ⟨hg, hlo, hhi, has, n', acc, tl, rfl, hacc, htl, hfr⟩ F5 N5
    k_steps
    rename News h₀ _ _ _ => eN
    rename Fr h₀ _ _ _ => eF
    rw [List.take_length] at hacc
    refine ret _ _ _ _ (by assumption) eN ⟨as1, n', tl ++ [(L1 + 1, o1)], acc, rfl, by rw [List.append_assoc]; rfl, hacc.mono (fun p hp => List.mem_append_left _ hp), fun p hp => ?_, fun q hq p hp => ?_, allLt_mem hl.2⟩
    · rcases List.mem_append.mp hp with hp | hp
      · exact htl p hp
      · rw [List.mem_singleton.mp hp]; exact Nat.ne_of_lt hl.1
    · rcases List.mem_append.mp hp with hp | hp
      · exact hfr q hq p hp
      · rw [List.mem_singleton.mp hp]; exact Nat.lt_succ_of_lt (hL q hq)
  case turn =>
    rintro I hI i ti m₁ news₁ h tk oI hi' ⟨hg, hlo, hhi, has, n', acc, tl, rfl, hacc, htl, hfr⟩ hnI F5 N5
    have hc1 : (L1 + 1, o1) ∈ tl ++ (L1 + 1, o1) :: news := List.mem_append_right _ (.head _)
    rename o1.data = _ => hcd
    replace hcd : o1.data = .cell (some (.ref pd)) := hcd
    have hnd' : (nd, W.listOf (List.toArray (.str (opS op) t :: vs)) n) ∈ tl ++ (L1 + 1, o1) :: news := List.mem_append_right _ (.tail _ hnd)
    k_steps
    rename Fr _ _ _ _ => cF
    rename News _ _ _ _ => cN
    refine LCg.CompSrc.ledger (by rfl) cF cN (.head _) (by rw [List.size_toArray, List.length_take, sizeLine_eq]; omega) (fun g1 => ?_)
    have hvi : vs[i]? = some vs[i] := List.getElem?_eq_getElem (by omega)
    have hgi : gs[i]? = some gs[i] := List.getElem?_eq_getElem (by omega)
    have hvi' : (Value.str (opS op) t :: vs)[((1 : Int) + (i : Int)).toNat]? = some vs[i] := by
      rw [show ((1 : Int) + (i : Int)).toNat = i + 1 by omega]; exact hvi
    have hwl : (worths pl (gs.take i)).length = i := by rw [worths_len, List.length_take]; omega
    refine comp_strs (worths pl (gs.take i)) (.inr ⟨_, .head _, rfl, _, rfl⟩) (fun j x' hx' v I5 oI5 C oC D ys m₂ h tk E' hP hC hm F6 N6 => ?_) (fun ys hys => ?_) _ 0 [] ?_ .nil
    · have hj : j < i := by rw [← hwl]; exact (List.getElem?_eq_some_iff.mp hx').1
      have hv : vs[j]? = some v := by
        have h5 : (vs.take i)[j]? = some v := by simpa using hP
        rw [List.getElem?_take_of_lt hj] at h5
        exact h5
      obtain ⟨g5, hg5, rfl⟩ := worths_get pl hx'
      rw [List.getElem?_take_of_lt hj] at hg5
      obtain ⟨g6, hg6, hgv⟩ := hps.get hv
      rw [hg5] at hg6
      obtain rfl := Option.some.inj hg6
      have hmem := List.mem_of_getElem? hg5
      have hs5 := sizes_mem hmem
      have sb := subOf (l := news) N6 (subS (subS (subS (subS (subS (subS fun q hq => List.mem_append_right _ (subS subR q hq)))))))
      have hW := worth_spec w pl g5 _ v pd (GAt.mono sb g5 hgv) (hpl.mono sb) (Oks_mem hok hmem) (by omega)
      k_with "rec" => (refine Sp.use hW (by k_asm) (by k_asm) (by k_asm) (by k_asm) (by k_asm) (by exact rfl) (by exact rfl) (by exact rfl) (by exact rfl) (by dsimp only; omega) (by dsimp only; omega) ?_; intro r9 n9 h9 t9 F9 N9 P9; (obtain ⟨e1, q1, e2⟩ := P9); subst e1; subst e2; (try k_sweep))
      k_steps
      all_goals assumption
    · have hA1 : StrsAre ([.str lo tlo] ++ ys) (lo :: worths pl (gs.take i)) := .cons _ _ hys
      have hA2 : StrsAre ([.str hi thi] ++ ys) (hi :: worths pl (gs.take i)) := .cons _ _ hys
      have hyl := StrsAre.length hys
      have sb7 : ∀ q ∈ news, q ∈ (I, oI) :: (as1, W.listOf acc.toArray n') :: (tl ++ (L1 + 1, o1) :: news) := subS (subS fun q hq => List.mem_append_right _ (subS subR q hq))
      k_with "rec" => (refine Sp.use (hrec i vs[i] gs[i] hvi hgi ((I, oI) :: (as1, W.listOf acc.toArray n') :: (tl ++ (L1 + 1, o1) :: news)) sb7 _ _ _ _) (by k_asm) (by k_asm) (by k_asm) (newsSub (by k_asm) (subS (subS (subS (subS subR))))) (by k_asm) (by exact rfl) (by exact rfl) (by exact rfl) (by exact rfl) (by dsimp only; omega) (by dsimp only; omega) ?_; intro r9 n9 h9 t9 F9 N9 P9; (try k_sweep))
      have hz1 := askeds_len pl op lo hi (gs.take i) []
      have hz2 := sizes_take gs i
      have hz3 := sizes_mem (List.mem_of_getElem? hgi)
      k_steps
      all_goals
        rename AskPost _ _ _ _ => fP
        rename Fr _ _ _ _ => fF
        rename News _ _ _ _ => fN
        obtain ⟨rl, nn, tl9, vs9, rfl, rfl, hp9, q1, q2, q3⟩ := fP
        have hq : ∀ p ∈ (rl, W.listOf vs9.toArray nn) :: (tl9 ++ (I, oI) :: (tl ++ (L1 + 1, o1) :: news)), p.1 ≠ as1 := by
          intro p hp
          rcases List.mem_cons.mp hp with rfl | hp
          · exact Ne.symm (Nat.ne_of_lt (q3 _ (.tail _ (.head _))))
          · rcases List.mem_append.mp hp with hp | hp
            · exact Ne.symm (Nat.ne_of_lt (q2 _ (.tail _ (.head _)) p hp))
            · rcases List.mem_cons.mp hp with rfl | hp
              · exact fun e => hnI _ (.head _) e.symm
              · rcases List.mem_append.mp hp with hp | hp
                · exact htl p hp
                · rcases List.mem_cons.mp hp with rfl | hp
                  · exact Nat.ne_of_lt hl.1
                  · exact Nat.ne_of_lt (allLt_mem hl.2 p hp)
        have fN2 := newsSub fN (l' := (as1, W.listOf acc.toArray n') :: (rl, W.listOf vs9.toArray nn) :: (tl9 ++ (I, oI) :: (tl ++ (L1 + 1, o1) :: news))) sub_mid
        refine iadd_lists fF fN2 hq (.head _) ?hsz ?_
        case hsz =>
          have hz4 := hacc.len
          have hz5 := hp9.len
          have hz6 : vs9.length ≤ gs[i].size := by rw [hp9.len]; exact asked_len _ _ _ _
          omega
        intro h8 n8 F8 N8
        k_steps
        rename Fr _ _ _ _ => gF
        rename News _ _ _ _ => gN
        refine ⟨_, _, _, _, rfl, gF, newsSub gN (sub_mid2 (c := (as1, W.listOf (acc ++ vs9).toArray n8)) (X := tl9) (Y := tl ++ (L1 + 1, o1) :: news)), ?_, ?_⟩
        · intro p hp
          rcases List.mem_cons.mp hp with rfl | hp
          · exact hnI (as1, W.listOf acc.toArray n') (.head _)
          · rcases List.mem_cons.mp hp with rfl | hp
            · exact Ne.symm (Nat.ne_of_lt (q3 _ (.head _)))
            · rcases List.mem_append.mp hp with hp | hp
              · exact Ne.symm (Nat.ne_of_lt (q2 _ (.head _) p hp))
              · exact hnI _ (.tail _ hp)
        · have et : gs.take (i + 1) = gs.take i ++ [gs[i]] := by rw [List.take_add_one, hgi]; rfl
          refine ⟨by first | rfl | assumption, by first | rfl | assumption, by first | rfl | assumption, by first | rfl | assumption, n8, acc ++ vs9, (rl, W.listOf vs9.toArray nn) :: (tl9 ++ tl), by rw [List.cons_append, List.append_assoc], ?_, ?_, ?_⟩
          · rw [et, askeds_snoc, List.nil_append]
            rename (opS op == _) = _ => q
            rw [opS_is] at q
            subst q
            exact PairsAt.append (hacc.mono fun p hp => .tail _ (List.mem_append_right _ hp)) (hp9.mono fun p hp => .tail _ (List.mem_append_left _ hp))
          · intro p hp
            refine hq p ?_
            rcases List.mem_cons.mp hp with rfl | hp
            · exact .head _
            · rcases List.mem_append.mp hp with hp | hp
              · exact .tail _ (List.mem_append_left _ hp)
              · exact .tail _ (List.mem_append_right _ (.tail _ (List.mem_append_left _ hp)))
          · intro q8 hq8 p hp
            rcases List.mem_cons.mp hp with rfl | hp
            · exact q3 _ (sb7 _ hq8)
            · rcases List.mem_append.mp hp with hp | hp
              · exact q2 _ (sb7 _ hq8) p hp
              · exact hfr _ hq8 p hp
    · rw [worths_len, List.size_toArray, List.length_take, List.length_take, hvl, Nat.zero_add]
theorem asked_spec (w : World) (pl : Nat → Str) (g : G) (news : List (Addr × Obj)) (v : Value) (lo hi : Str) (tlo thi : Nat) (pd : Addr) (hv : GAt news v g) (hp : PlainIn w news pd pl) (hok : g.Ok) (hsz : g.size ≤ 1000) :
    Sp w 331 ⟨[v, .str lo tlo, .str hi thi, .ref pd], []⟩ news (10 * g.size) (200 * g.size) (AskPost news (g.asked pl lo hi)) := by
  match g with
  | .leaf i =>
    unfold GAt at hv
    obtain ⟨t, rfl⟩ := hv
    unfold G.Ok at hok
    obtain ⟨o, kvs, h1, h2, h3, h4⟩ := hp
    unfold G.asked G.size
    exact asked_leaf w news _ _ lo hi (leaf_len ⟨i, hok⟩) _ (plain_lookup pl ⟨i, hok⟩) t tlo thi pd o kvs h1 h2 h3 h4
  | .node op gs =>
    unfold GAt at hv
    obtain ⟨a, t, vs, n, rfl, hm, hps⟩ := hv
    unfold G.Ok at hok
    unfold G.size at hsz
    unfold G.asked
    refine (asked_node w news pl op gs lo hi a t n tlo thi vs pd hm hps hp hok.2 (List.length_pos_iff.mpr hok.1) (by omega) (10 * sizes gs) (200 * sizes gs) (Nat.le_refl _) (Nat.le_refl _) ?_).weaken (by unfold G.size; omega) (by unfold G.size; omega)
    intro i v g' hvi hg' news' hsub lo' hi' tl th
    obtain ⟨g'', hg'', hgv⟩ := hps.get hvi
    rw [hg'] at hg''
    obtain rfl := Option.some.inj hg''
    have hmem := List.mem_of_getElem? hg'
    have hs := sizes_mem hmem
    exact (asked_spec w pl g' news' v lo' hi' tl th pd (hgv.mono hsub) (hp.mono hsub) (Oks_mem hok.2 hmem) (by omega)).weaken (by omega) (by omega)
termination_by g.size
decreasing_by
  have hs := sizes_mem hmem
  rw [node_size]
  omega
end
section
open PySem PySem.W PyProof.Rows PySem.Calls PySem.Spec
/-! the plain law: the search finds the worth, and asks what is to be asked -/
theorem lts_irr (x : Str) : lts x x = false := by unfold lts; exact decide_eq_false (List.lt_irrefl _)
theorem lts_tr {x y z : Str} (h : lts x y = true) (k : lts y z = true) : lts x z = true := by
  unfold lts at *
  exact decide_eq_true (List.lt_trans (of_decide_eq_true h) (of_decide_eq_true k))
theorem lts_co {x z : Str} (y : Str) (h : lts x z = true) : lts x y = true ∨ lts y z = true := by
  unfold lts at *
  by_cases q : x.cps.toList < y.cps.toList
  · exact .inl (decide_eq_true q)
  · exact .inr (decide_eq_true (List.lt_of_le_of_lt (List.not_lt.mp q) (of_decide_eq_true h)))
theorem gts_tr {o : Bool} {x y z : Str} (h : gts o x y = true) (k : gts o y z = true) : gts o x z = true := by
  cases o <;> simp only [gts] at *
  · exact lts_tr k h
  · exact lts_tr h k
theorem gts_co {o : Bool} {x z : Str} (y : Str) (h : gts o x z = true) : gts o x y = true ∨ gts o y z = true := by
  cases o <;> simp only [gts] at *
  · exact (lts_co y h).symm
  · exact lts_co y h
theorem bet_mono {o : Bool} {c t : Str} (h : ¬ gts o c t = true) (w : Str) : ¬ gts o (bet o c w) t = true := by
  unfold bet
  split
  · rename_i q; exact fun k => h (gts_tr q k)
  · exact h
theorem fold_mono {o : Bool} {t : Str} : ∀ (ws : List Str) {c : Str}, ¬ gts o c t = true → ¬ gts o (ws.foldl (bet o) c) t = true
  | [], _, h => h
  | w :: ws, _, h => fold_mono ws (bet_mono h w)
theorem best_snoc (o : Bool) (x : Str) (ah : List Str) (v : Str) : best o (x :: (ah ++ [v])) = bet o (best o (x :: ah)) v := by
  show (ah ++ [v]).foldl (bet o) x = bet o (ah.foldl (bet o) x) v
  rw [List.foldl_append]; rfl
/-- the search, plainly -/
def own (o : Bool) (lo hi : Str) : Str := if o then lo else hi
def oth (o : Bool) (lo hi : Str) : Str := if o then hi else lo
mutual
def G.srch (pl : Nat → Str) : G → Str → Str → Str × List (Str × Str)
  | .leaf i, _, _ => (pl (i % 4), [(leafS i, pl (i % 4))])
  | .node o ps, lo, hi => srchs pl o (oth o lo hi) (own o lo hi) ps
def srchs (pl : Nat → Str) (o : Bool) (t : Str) : Str → List G → Str × List (Str × Str)
  | b, [] => (b, [])
  | b, g :: gs =>
    if gts o (bet o b (g.srch pl (own o b t) (oth o b t)).1) t = true then
      ((srchs pl o t (bet o b (g.srch pl (own o b t) (oth o b t)).1) gs).1, (g.srch pl (own o b t) (oth o b t)).2 ++ (srchs pl o t (bet o b (g.srch pl (own o b t) (oth o b t)).1) gs).2)
    else (bet o b (g.srch pl (own o b t) (oth o b t)).1, (g.srch pl (own o b t) (oth o b t)).2)
end
theorem own_gts (o : Bool) (lo hi : Str) : gts o (own o lo hi) (oth o lo hi) = lts lo hi := by cases o <;> rfl
theorem win_lts (o : Bool) (b t : Str) : lts (own o b t) (oth o b t) = gts o b t := by cases o <;> rfl
theorem ask_win (pl : Nat → Str) (o : Bool) (lo hi : Str) (ah : List Str) (g : G) (gs : List G) :
    askeds pl o lo hi ah (g :: gs) = g.asked pl (own o (best o (own o lo hi :: ah)) (oth o lo hi)) (oth o (best o (own o lo hi :: ah)) (oth o lo hi)) ++ askeds pl o lo hi (ah ++ [g.worth pl]) gs := by
  cases o <;> simp only [askeds, own, oth, if_true, if_false, Bool.false_eq_true]
mutual
theorem asked_none (pl : Nat → Str) : ∀ (g : G) (lo hi : Str), ¬ lts lo hi = true → g.asked pl lo hi = []
  | .leaf i, lo, hi, h => by unfold G.asked; rw [if_neg h]
  | .node o ps, lo, hi, h => by
    unfold G.asked
    exact askeds_none pl o lo hi ps [] (by rw [← own_gts o] at h; exact h)
theorem askeds_none (pl : Nat → Str) (o : Bool) (lo hi : Str) : ∀ (gs : List G) (ah : List Str), ¬ gts o (best o (own o lo hi :: ah)) (oth o lo hi) = true → askeds pl o lo hi ah gs = []
  | [], ah, _ => by unfold askeds; rfl
  | g :: gs, ah, h => by
    rw [ask_win, asked_none pl g _ _ (by rw [win_lts]; exact h), askeds_none pl o lo hi gs _ (by rw [best_snoc]; exact bet_mono h _)]
    rfl
end
def Good (pl : Nat → Str) (g : G) : Prop := ∀ lo hi, lts lo hi = true →
  (¬ lts lo (g.worth pl) = true → ¬ lts lo (g.srch pl lo hi).1 = true) ∧ (¬ lts (g.worth pl) hi = true → ¬ lts (g.srch pl lo hi).1 hi = true) ∧
  (lts lo (g.worth pl) = true → lts (g.worth pl) hi = true → (g.srch pl lo hi).1 = g.worth pl) ∧ (g.srch pl lo hi).2 = g.asked pl lo hi
theorem good_win {pl : Nat → Str} {g : G} (h : Good pl g) (o : Bool) (b t : Str) (hb : gts o b t = true) :
    (¬ gts o b (g.worth pl) = true → ¬ gts o b (g.srch pl (own o b t) (oth o b t)).1 = true) ∧ (¬ gts o (g.worth pl) t = true → ¬ gts o (g.srch pl (own o b t) (oth o b t)).1 t = true) ∧
    (gts o b (g.worth pl) = true → gts o (g.worth pl) t = true → (g.srch pl (own o b t) (oth o b t)).1 = g.worth pl) ∧ (g.srch pl (own o b t) (oth o b t)).2 = g.asked pl (own o b t) (oth o b t) := by
  have k := h (own o b t) (oth o b t) (by rw [win_lts]; exact hb)
  cases o
  · exact ⟨k.2.1, k.1, fun a c => k.2.2.1 c a, k.2.2.2⟩
  · exact k
theorem srchs_good {pl : Nat → Str} (o : Bool) (lo hi : Str) : ∀ (gs : List G) (ah : List Str), (∀ g ∈ gs, Good pl g) → gts o (best o (own o lo hi :: ah)) (oth o lo hi) = true →
    (srchs pl o (oth o lo hi) (best o (own o lo hi :: ah)) gs).2 = askeds pl o lo hi ah gs ∧
    (gts o ((worths pl gs).foldl (bet o) (best o (own o lo hi :: ah))) (oth o lo hi) = true → (srchs pl o (oth o lo hi) (best o (own o lo hi :: ah)) gs).1 = (worths pl gs).foldl (bet o) (best o (own o lo hi :: ah))) ∧
    (¬ gts o ((worths pl gs).foldl (bet o) (best o (own o lo hi :: ah))) (oth o lo hi) = true → ¬ gts o (srchs pl o (oth o lo hi) (best o (own o lo hi :: ah)) gs).1 (oth o lo hi) = true)
  | [], ah, _, h => by
    unfold srchs askeds worths
    exact ⟨rfl, fun _ => rfl, fun k => absurd h k⟩
  | g :: gs, ah, hg, h => by
    have k := good_win (hg g (.head _)) o _ _ h
    rw [ask_win]
    unfold srchs worths
    rw [List.foldl_cons]
    generalize hB : best o (own o lo hi :: ah) = b at *
    generalize hT : oth o lo hi = t at *
    have hB' : best o (own o lo hi :: (ah ++ [g.worth pl])) = bet o b (g.worth pl) := by rw [best_snoc, hB]
    rw [k.2.2.2]
    by_cases hv : gts o (g.worth pl) t = true
    · have e : bet o b (g.srch pl (own o b t) (oth o b t)).1 = bet o b (g.worth pl) ∧ gts o (bet o b (g.worth pl)) t = true := by
        by_cases q : gts o b (g.worth pl) = true
        · rw [k.2.2.1 q hv]
          refine ⟨rfl, ?_⟩
          unfold bet; rw [if_pos q]; exact hv
        · unfold bet
          rw [if_neg q, if_neg (k.1 q)]
          exact ⟨rfl, h⟩
      rw [e.1, if_pos e.2]
      have ih := srchs_good o lo hi gs (ah ++ [g.worth pl]) (fun g' h' => hg g' (.tail _ h')) (by rw [hB', hT]; exact e.2)
      rw [hB', hT] at ih
      exact ⟨by rw [ih.1], ih.2.1, ih.2.2⟩
    · have q1 := k.2.1 hv
      have q2 : gts o b (g.srch pl (own o b t) (oth o b t)).1 = true := (gts_co _ h).resolve_right q1
      have q3 : gts o b (g.worth pl) = true := (gts_co _ h).resolve_right hv
      have e1 : bet o b (g.srch pl (own o b t) (oth o b t)).1 = (g.srch pl (own o b t) (oth o b t)).1 := by unfold bet; rw [if_pos q2]
      have e2 : bet o b (g.worth pl) = g.worth pl := by unfold bet; rw [if_pos q3]
      have e3 : ¬ gts o ((worths pl gs).foldl (bet o) (g.worth pl)) t = true := fold_mono _ hv
      rw [e1, if_neg q1, e2, askeds_none pl o lo hi gs _ (by rw [hB', hT, e2]; exact hv), List.append_nil]
      exact ⟨rfl, fun a => absurd a e3, fun _ => q1⟩
theorem fold_same {o : Bool} {a : Str} : ∀ (ws : List Str) {c : Str}, ¬ gts o a c = true → gts o a (ws.foldl (bet o) c) = true → ws.foldl (bet o) a = ws.foldl (bet o) c
  | [], _, h, k => absurd k h
  | w :: ws, c, h, k => by
    rw [List.foldl_cons, List.foldl_cons]
    rw [List.foldl_cons] at k
    by_cases q : gts o a w = true
    · have q2 : gts o c w = true := (gts_co c q).resolve_left h
      have e1 : bet o a w = w := by unfold bet; rw [if_pos q]
      have e2 : bet o c w = w := by unfold bet; rw [if_pos q2]
      rw [e1, e2]
    · have e1 : bet o a w = a := by unfold bet; rw [if_neg q]
      rw [e1]
      refine fold_same ws ?_ k
      unfold bet
      split
      · exact q
      · exact h
theorem fold_stay {o : Bool} {a : Str} : ∀ (ws : List Str) {c : Str}, ¬ gts o a c = true → ¬ gts o a (ws.foldl (bet o) c) = true → ws.foldl (bet o) a = a
  | [], _, _, _ => rfl
  | w :: ws, c, h, k => by
    rw [List.foldl_cons]
    rw [List.foldl_cons] at k
    by_cases q : gts o a w = true
    · exfalso
      have q2 : gts o c w = true := (gts_co c q).resolve_left h
      have e2 : bet o c w = w := by unfold bet; rw [if_pos q2]
      rw [e2] at k
      have : ∀ (us : List Str) {d : Str}, gts o a d = true → gts o a (us.foldl (bet o) d) = true := by
        intro us
        induction us with
        | nil => exact fun h => h
        | cons u us ih =>
          intro d hd
          rw [List.foldl_cons]
          refine ih ?_
          unfold bet
          split
          · rename_i z; exact gts_tr hd z
          · exact hd
      exact k (this ws q)
    · have e1 : bet o a w = a := by unfold bet; rw [if_neg q]
      rw [e1]
      refine fold_stay ws ?_ k
      unfold bet
      split
      · exact q
      · exact h
theorem fold_own {o : Bool} (a w : Str) (ws : List Str) : (gts o a (best o (w :: ws)) = true → (w :: ws).foldl (bet o) a = best o (w :: ws)) ∧ (¬ gts o a (best o (w :: ws)) = true → (w :: ws).foldl (bet o) a = a) := by
  show (gts o a (ws.foldl (bet o) w) = true → ws.foldl (bet o) (bet o a w) = ws.foldl (bet o) w) ∧ (¬ gts o a (ws.foldl (bet o) w) = true → ws.foldl (bet o) (bet o a w) = a)
  by_cases q : gts o a w = true
  · have e1 : bet o a w = w := by unfold bet; rw [if_pos q]
    rw [e1]
    refine ⟨fun _ => rfl, fun k => absurd ?_ k⟩
    have : ∀ (us : List Str) {d : Str}, gts o a d = true → gts o a (us.foldl (bet o) d) = true := by
      intro us
      induction us with
      | nil => exact fun h => h
      | cons u us ih =>
        intro d hd
        rw [List.foldl_cons]
        refine ih ?_
        unfold bet
        split
        · rename_i z; exact gts_tr hd z
        · exact hd
    exact this ws q
  · have e1 : bet o a w = a := by unfold bet; rw [if_neg q]
    rw [e1]
    exact ⟨fun k => fold_same ws q k, fun k => fold_stay ws q k⟩
theorem node_good {pl : Nat → Str} (o : Bool) (g0 : G) (gs : List G) (h : ∀ g ∈ g0 :: gs, Good pl g) : Good pl (.node o (g0 :: gs)) := by
  intro lo hi hlt
  have k := srchs_good o lo hi (g0 :: gs) [] h (by show gts o (own o lo hi) _ = true; rw [own_gts]; exact hlt)
  have f := fold_own (o := o) (own o lo hi) (g0.worth pl) (worths pl gs)
  have eW : worths pl (g0 :: gs) = g0.worth pl :: worths pl gs := by conv => lhs; unfold worths
  rw [eW] at k
  have e0 : best o (own o lo hi :: []) = own o lo hi := rfl
  rw [e0] at k
  unfold G.worth G.srch G.asked
  rw [eW]
  generalize hV : best o (g0.worth pl :: worths pl gs) = V at *
  generalize hR : srchs pl o (oth o lo hi) (own o lo hi) (g0 :: gs) = R at *
  have h0 : gts o (own o lo hi) (oth o lo hi) = true := by rw [own_gts]; exact hlt
  have A : ¬ gts o (own o lo hi) V = true → ¬ gts o (own o lo hi) R.1 = true := fun a => by
    have e := f.2 a
    rw [k.2.1 (by rw [e]; exact h0), e]
    cases o <;> (unfold gts; dsimp only; rw [lts_irr]; exact Bool.false_ne_true)
  have C : gts o (own o lo hi) V = true → gts o V (oth o lo hi) = true → R.1 = V := fun a b => by
    have e := f.1 a
    rw [k.2.1 (by rw [e]; exact b), e]
  have D : ¬ gts o V (oth o lo hi) = true → ¬ gts o R.1 (oth o lo hi) = true := fun b => by
    have a : gts o (own o lo hi) V = true := (gts_co V h0).resolve_right b
    exact k.2.2 (by rw [f.1 a]; exact b)
  cases o
  · exact ⟨D, A, fun a b => C b a, k.1⟩
  · exact ⟨A, D, C, k.1⟩
mutual
theorem all_good (pl : Nat → Str) : ∀ g : G, g.Ok → Good pl g
  | .leaf i, _ => by
    intro lo hi h
    unfold G.worth G.srch G.asked
    exact ⟨fun a => a, fun a => a, fun _ _ => rfl, (if_pos h).symm⟩
  | .node o [], h => by unfold G.Ok at h; exact absurd rfl h.1
  | .node o (g :: gs), h => by
    unfold G.Ok at h
    exact node_good o g gs (alls_good pl (g :: gs) h.2)
theorem alls_good (pl : Nat → Str) : ∀ gs : List G, Oks gs → ∀ g ∈ gs, Good pl g
  | [], _, _, h => nomatch h
  | g :: gs, k, g', h => by
    unfold Oks at k
    rcases List.mem_cons.mp h with e | h
    · rw [e]; exact all_good pl g k.1
    · exact alls_good pl gs k.2 g' h
end
theorem best_mem (o : Bool) : ∀ (ws : List Str) (x : Str), best o (x :: ws) ∈ x :: ws
  | [], x => .head _
  | w :: ws, x => by
    show ws.foldl (bet o) (bet o x w) ∈ _
    have h : ws.foldl (bet o) (bet o x w) ∈ bet o x w :: ws := best_mem o ws (bet o x w)
    rcases List.mem_cons.mp h with e | h
    · rw [e]
      unfold bet
      split
      · exact .tail _ (.head _)
      · exact .head _
    · exact .tail _ (.tail _ h)
mutual
theorem worth_in (pl : Nat → Str) (P : Str → Prop) (hp : ∀ i, P (pl i)) : ∀ g : G, g.Ok → P (g.worth pl)
  | .leaf i, _ => by unfold G.worth; exact hp _
  | .node o [], h => by unfold G.Ok at h; exact absurd rfl h.1
  | .node o (g :: gs), h => by
    unfold G.Ok at h
    have k := worths_in pl P hp (g :: gs) h.2
    unfold G.worth
    have eW : worths pl (g :: gs) = g.worth pl :: worths pl gs := by conv => lhs; unfold worths
    rw [eW] at k ⊢
    exact k _ (best_mem _ _ _)
theorem worths_in (pl : Nat → Str) (P : Str → Prop) (hp : ∀ i, P (pl i)) : ∀ gs : List G, Oks gs → ∀ x ∈ worths pl gs, P x
  | [], _, _, h => by unfold worths at h; nomatch h
  | g :: gs, k, x, h => by
    unfold Oks at k
    unfold worths at h
    rcases List.mem_cons.mp h with e | h
    · rw [e]; exact worth_in pl P hp g k.1
    · exact worths_in pl P hp gs k.2 x h
end
theorem plain_law (pl : Nat → Str) (hp : ∀ i, lts Str.empty (pl i) = true ∧ lts (pl i) (Str.ofString "~") = true) (g : G) (hg : g.Ok) :
    (g.srch pl Str.empty (Str.ofString "~")).1 = g.worth pl ∧ (g.srch pl Str.empty (Str.ofString "~")).2 = g.asked pl Str.empty (Str.ofString "~") := by
  have k := worth_in pl (fun x => lts Str.empty x = true ∧ lts x (Str.ofString "~") = true) hp g hg
  have h := all_good pl g hg Str.empty (Str.ofString "~") (lts_tr k.1 k.2)
  exact ⟨h.2.2.1 k.1 k.2, h.2.2.2⟩
theorem plain_between : ∀ n : Fin 27, lts Str.empty (plainOf n) = true ∧ lts (plainOf n) (Str.ofString "~") = true := by decide +kernel
end
section
open PySem PySem.W PyProof.Rows PySem.Calls PySem.Spec
def opI (o : Bool) : Int := if o then 18 else 19
def tilde : Str := Str.ofString "~"
/-! the read tree -/
mutual
def TAt (news : List (Addr × Obj)) : Value → G → Prop
  | v, .leaf i => ∃ a t n, v = .ref a ∧ (a, W.listOf (List.toArray [.int (256 + (i : Int)) t]) n) ∈ news
  | v, .node o ps => ∃ a t vs n, v = .ref a ∧ (a, W.listOf (List.toArray (.int (opI o) t :: vs)) n) ∈ news ∧ TsAt news vs ps
def TsAt (news : List (Addr × Obj)) : List Value → List G → Prop
  | [], [] => True
  | v :: vs, g :: gs => TAt news v g ∧ TsAt news vs gs
  | _, _ => False
end
mutual
theorem TAt.mono {news news' : List (Addr × Obj)} (hs : ∀ p ∈ news, p ∈ news') : ∀ (g : G) {v : Value}, TAt news v g → TAt news' v g
  | .leaf i, v, h => by
    unfold TAt at h ⊢
    obtain ⟨a, t, n, e, hm⟩ := h
    exact ⟨a, t, n, e, hs _ hm⟩
  | .node o ps, v, h => by
    unfold TAt at h ⊢
    obtain ⟨a, t, vs, n, e, hm, hp⟩ := h
    exact ⟨a, t, vs, n, e, hs _ hm, TsAt.mono hs ps hp⟩
theorem TsAt.mono {news news' : List (Addr × Obj)} (hs : ∀ p ∈ news, p ∈ news') : ∀ (gs : List G) {vs : List Value}, TsAt news vs gs → TsAt news' vs gs
  | [], [], _ => by unfold TsAt; trivial
  | [], _ :: _, h => by unfold TsAt at h; exact h.elim
  | _ :: _, [], h => by unfold TsAt at h; exact h.elim
  | g :: gs, v :: vs, h => by
    unfold TsAt at h ⊢
    exact ⟨TAt.mono hs g h.1, TsAt.mono hs gs h.2⟩
end
theorem TsAt.one {news : List (Addr × Obj)} {vs : List Value} {g : G} (h : TsAt news vs [g]) : ∃ v, vs = [v] ∧ TAt news v g := by
  match vs, h with
  | [], h => unfold TsAt at h; exact h.elim
  | [v], h => unfold TsAt at h; exact ⟨v, rfl, h.1⟩
  | _ :: _ :: _, h => unfold TsAt at h; exact absurd h.2 (by unfold TsAt; exact id)
theorem TsAt.len {news : List (Addr × Obj)} : ∀ {gs : List G} {vs : List Value}, TsAt news vs gs → vs.length = gs.length
  | [], [], _ => rfl
  | [], _ :: _, h => by unfold TsAt at h; exact h.elim
  | _ :: _, [], h => by unfold TsAt at h; exact h.elim
  | _ :: gs, _ :: vs, h => by unfold TsAt at h; simp [TsAt.len h.2]
theorem TsAt.get {news : List (Addr × Obj)} : ∀ {gs : List G} {vs : List Value}, TsAt news vs gs → ∀ {i : Nat} {v : Value}, vs[i]? = some v → ∃ g, gs[i]? = some g ∧ TAt news v g
  | [], [], _, i, v, e => by simp at e
  | [], _ :: _, h, _, _, _ => by unfold TsAt at h; exact h.elim
  | _ :: _, [], h, _, _, _ => by unfold TsAt at h; exact h.elim
  | g :: gs, w :: vs, h, 0, v, e => by
    unfold TsAt at h
    simp only [List.getElem?_cons_zero, Option.some.injEq] at e
    subst e
    exact ⟨g, rfl, h.1⟩
  | g :: gs, w :: vs, h, i + 1, v, e => by
    unfold TsAt at h
    exact TsAt.get h.2 e
/-- a name object of the ledger, its text within the bounds -/
def QAt (news : List (Addr × Obj)) (v : Value) (x : Str) : Prop :=
  (∃ a d tk t k hs, v = .ref a ∧ (a, W.instObj 279 d) ∈ news ∧ (d, dictOf [⟨hs, .str (Str.ofString "text") tk, .str x t⟩] k) ∈ news) ∧ lts Str.empty x = true ∧ lts x tilde = true
def BAt (news : List (Addr × Obj)) (z : Str) (v : Value) (x : Str) : Prop := (∃ t, v = .str x t ∧ x = z) ∨ QAt news v x
theorem QAt.mono {news news' : List (Addr × Obj)} {v : Value} {x : Str} (h : QAt news v x) (hs : ∀ p ∈ news, p ∈ news') : QAt news' v x := by
  obtain ⟨⟨a, d, tk, t, k, hh, e, h1, h2⟩, h3⟩ := h
  exact ⟨⟨a, d, tk, t, k, hh, e, hs _ h1, hs _ h2⟩, h3⟩
theorem BAt.mono {news news' : List (Addr × Obj)} {z : Str} {v : Value} {x : Str} (h : BAt news z v x) (hs : ∀ p ∈ news, p ∈ news') : BAt news' z v x := h.imp id fun h => h.mono hs
section
variable {w : World} {p : Program} {loose : List Str} {mean : ExcName → Option Value} {mg mb : Str → Option Value} {A : Around} {env : Env} {outer : List Env} {A₀ : Around} {base h₀ : Heap} {L : Addr} {m : Str → Option Value} {s : Shared} {news : List (Addr × Obj)} {Q E : Value → Shared → Prop} {v b : Value} {x y z : Str}
set_option maxHeartbeats 0 in
theorem qgt (B : Below A₀ base outer h₀) (F : Fr h₀ L s.heap m) (X : (frag.heap_1 w.params).In h₀) (N : News h₀ L s.heap news) (T : Top p loose mean mg mb h₀) (hh : A.handled = none) (hA : A.frames = some (env :: outer)) (hf : env.frame = some L) (hke : env.scope.kind = .function)
    (hd' : A.depth + 10 ≤ 990) (hu : A.units + 200 ≤ 9890) (hx : QAt news v x) (hy : BAt news z b y) (h : ∀ h' tk', Fr h₀ L h' m → News h₀ L h' news → Q (.bool (lts y x)) { s with heap := h', toks := tk' }) :
    wpAny (model PySem.Challenge.rw_ul0027_01.row.prog w) A (compareOp .Gt v b) Q E s := by
  obtain ⟨⟨a, d, tk, t, k, hs, rfl, h1, h2⟩, h3, h4⟩ := hx
  rcases hy with ⟨ty, rfl, hz⟩ | ⟨⟨a', d', tk', t', k', hs', rfl, h1', h2'⟩, h3', h4'⟩
  · refine cmp_ofGt (cmp_K (by rw [cLine_is]; omega) F X (InstAt.of_news N h1 h2) (by k_typeOf) (by k_is) (by k_is) (by k_is) ?_)
    refine Sp.use (qn_gt_s w news x y a d tk t ty k hs h1 h2) B F X N T hh hA hf hke hd' hu ?_
    rintro r n' h' t5 F' N' ⟨rfl, rfl⟩
    exact h h' t5 F' N'
  · refine cmp_ofGt (cmp_K (by rw [cLine_is]; omega) F X (InstAt.of_news N h1 h2) (InstAt.type (InstAt.of_news N h1' h2')) (by k_is) (by k_is) (by k_is) ?_)
    refine Sp.use (qn_gt_q w news x y a d tk t k a' d' tk' t' k' hs hs' h1 h2 h1' h2') B F X N T hh hA hf hke hd' hu ?_
    rintro r n' h' t5 F' N' ⟨rfl, rfl⟩
    exact h h' t5 F' N'
set_option maxHeartbeats 0 in
theorem qlt (B : Below A₀ base outer h₀) (F : Fr h₀ L s.heap m) (X : (frag.heap_1 w.params).In h₀) (N : News h₀ L s.heap news) (T : Top p loose mean mg mb h₀) (hh : A.handled = none) (hA : A.frames = some (env :: outer)) (hf : env.frame = some L) (hke : env.scope.kind = .function)
    (hd' : A.depth + 10 ≤ 990) (hu : A.units + 200 ≤ 9890) (hx : QAt news v x) (hy : BAt news z b y) (h : ∀ h' tk', Fr h₀ L h' m → News h₀ L h' news → Q (.bool (lts x y)) { s with heap := h', toks := tk' }) :
    wpAny (model PySem.Challenge.rw_ul0027_01.row.prog w) A (compareOp .Lt v b) Q E s := by
  obtain ⟨⟨a, d, tk, t, k, hs, rfl, h1, h2⟩, h3, h4⟩ := hx
  rcases hy with ⟨ty, rfl, hz⟩ | ⟨⟨a', d', tk', t', k', hs', rfl, h1', h2'⟩, h3', h4'⟩
  · refine cmp_ofLt (cmp_K (by rw [cLine_is]; omega) F X (InstAt.of_news N h1 h2) (by k_typeOf) (by k_is) (by k_is) (by k_is) ?_)
    refine Sp.use (qn_lt_s w news x y a d tk t ty k hs h1 h2) B F X N T hh hA hf hke hd' hu ?_
    rintro r n' h' t5 F' N' ⟨rfl, rfl⟩
    exact h h' t5 F' N'
  · refine cmp_ofLt (cmp_K (by rw [cLine_is]; omega) F X (InstAt.of_news N h1 h2) (InstAt.type (InstAt.of_news N h1' h2')) (by k_is) (by k_is) (by k_is) ?_)
    refine Sp.use (qn_lt_q w news x y a d tk t k a' d' tk' t' k' hs hs' h1 h2 h1' h2') B F X N T hh hA hf hke hd' hu ?_
    rintro r n' h' t5 F' N' ⟨rfl, rfl⟩
    exact h h' t5 F' N'
set_option maxHeartbeats 0 in
theorem qge (B : Below A₀ base outer h₀) (F : Fr h₀ L s.heap m) (X : (frag.heap_1 w.params).In h₀) (N : News h₀ L s.heap news) (T : Top p loose mean mg mb h₀) (hh : A.handled = none) (hA : A.frames = some (env :: outer)) (hf : env.frame = some L) (hke : env.scope.kind = .function)
    (hd' : A.depth + 10 ≤ 990) (hu : A.units + 200 ≤ 9890) (hx : QAt news v x) (hy : BAt news z b y) (h : ∀ h' tk', Fr h₀ L h' m → News h₀ L h' news → Q (.bool (!lts x y)) { s with heap := h', toks := tk' }) :
    wpAny (model PySem.Challenge.rw_ul0027_01.row.prog w) A (compareOp .GtE v b) Q E s := by
  obtain ⟨⟨a, d, tk, t, k, hs, rfl, h1, h2⟩, h3, h4⟩ := hx
  rcases hy with ⟨ty, rfl, hz⟩ | ⟨⟨a', d', tk', t', k', hs', rfl, h1', h2'⟩, h3', h4'⟩
  · refine cmp_ofGtE (cmp_K (by rw [cLine_is]; omega) F X (InstAt.of_news N h1 h2) (by k_typeOf) (by k_is) (by k_is) (by k_is) ?_)
    refine Sp.use (qn_ge_s w news x y a d tk t ty k hs h1 h2) B F X N T hh hA hf hke hd' hu ?_
    rintro r n' h' t5 F' N' ⟨rfl, rfl⟩
    exact h h' t5 F' N'
  · refine cmp_ofGtE (cmp_K (by rw [cLine_is]; omega) F X (InstAt.of_news N h1 h2) (InstAt.type (InstAt.of_news N h1' h2')) (by k_is) (by k_is) (by k_is) ?_)
    refine Sp.use (qn_ge_q w news x y a d tk t k a' d' tk' t' k' hs hs' h1 h2 h1' h2') B F X N T hh hA hf hke hd' hu ?_
    rintro r n' h' t5 F' N' ⟨rfl, rfl⟩
    exact h h' t5 F' N'
set_option maxHeartbeats 0 in
theorem qle (B : Below A₀ base outer h₀) (F : Fr h₀ L s.heap m) (X : (frag.heap_1 w.params).In h₀) (N : News h₀ L s.heap news) (T : Top p loose mean mg mb h₀) (hh : A.handled = none) (hA : A.frames = some (env :: outer)) (hf : env.frame = some L) (hke : env.scope.kind = .function)
    (hd' : A.depth + 10 ≤ 990) (hu : A.units + 200 ≤ 9890) (hx : QAt news v x) (hy : BAt news z b y) (h : ∀ h' tk', Fr h₀ L h' m → News h₀ L h' news → Q (.bool (!lts y x)) { s with heap := h', toks := tk' }) :
    wpAny (model PySem.Challenge.rw_ul0027_01.row.prog w) A (compareOp .LtE v b) Q E s := by
  obtain ⟨⟨a, d, tk, t, k, hs, rfl, h1, h2⟩, h3, h4⟩ := hx
  rcases hy with ⟨ty, rfl, hz⟩ | ⟨⟨a', d', tk', t', k', hs', rfl, h1', h2'⟩, h3', h4'⟩
  · refine cmp_ofLtE (cmp_K (by rw [cLine_is]; omega) F X (InstAt.of_news N h1 h2) (by k_typeOf) (by k_is) (by k_is) (by k_is) ?_)
    refine Sp.use (qn_le_s w news x y a d tk t ty k hs h1 h2) B F X N T hh hA hf hke hd' hu ?_
    rintro r n' h' t5 F' N' ⟨rfl, rfl⟩
    exact h h' t5 F' N'
  · refine cmp_ofLtE (cmp_K (by rw [cLine_is]; omega) F X (InstAt.of_news N h1 h2) (InstAt.type (InstAt.of_news N h1' h2')) (by k_is) (by k_is) (by k_is) ?_)
    refine Sp.use (qn_le_q w news x y a d tk t k a' d' tk' t' k' hs hs' h1 h2 h1' h2') B F X N T hh hA hf hke hd' hu ?_
    rintro r n' h' t5 F' N' ⟨rfl, rfl⟩
    exact h h' t5 F' N'
end
end
theorem reset4 : True := by
  k_with "rec" => fail "none"
  k_with "src" => fail "none"
  k_with "my end" => fail "none"
  k_with "eq" => fail "none"
  trivial
section
open PySem PySem.W PyProof.Rows PySem.Calls PySem.Spec
theorem Sp.use2 {w : World} {f : Addr} {pos : List Value} {kw : List (Str × Value)} {news : List (Addr × Obj)} {d u : Nat} {Post : Value → List (Addr × Obj) → Prop} (S : Sp w f ⟨pos, kw⟩ news d u Post)
    {p : Program} {loose : List Str} {mean : ExcName → Option Value} {mg mb : Str → Option Value} {A : Around} {env : Env} {outer : List Env} {A₀ : Around} {base h₀ : Heap} {L : Addr} {m : Str → Option Value} {s : Shared} {Q E : Value → Shared → Prop}
    (F : Fr h₀ L s.heap m) (N : News h₀ L s.heap news) (hh : A.handled = none) (hA : A.frames = some (env :: outer)) (hf : env.frame = some L) (hke : env.scope.kind = .function) (B : Below A₀ base outer h₀) (X : (frag.heap_1 w.params).In h₀) (T : Top p loose mean mg mb h₀)
    (hd : A.depth + d ≤ 990) (hu : A.units + u ≤ 9890)
    (ret : ∀ r news' h' tk', Fr h₀ L h' m → News h₀ L h' news' → Post r news' → Q r { s with heap := h', toks := tk' }) :
    wpAny (model PySem.Challenge.rw_ul0027_01.row.prog w) A (call (.ref f) pos kw) Q E s := Sp.use S B F X N T hh hA hf hke hd hu ret
section
variable {prog : Program} {w : World} {A : Around} {E : Value → Shared → Prop} {s : Shared} {h₀ : Heap} {L : Addr} {m : Str → Option Value} {news : List (Addr × Obj)} {x y a b : Str} {t u : Tok} {Q : Value → Shared → Prop}
theorem split_1 (hF : Fr h₀ L s.heap m) (hN : News h₀ L s.heap news) (hy : (y.length == 0) = false) (hs : Txt.split x y = [a]) (hx : x.length ≤ 1000)
    (h : ∀ D ta h' k, Fr h₀ L h' m → News h₀ L h' ((D, W.listOf #[.str a ta] 0) :: news) → (∀ p ∈ news, p.1 < D) → Q (.ref D) { s with heap := h', toks := k }) : wpAny (model prog w) A (call (.builtin "str.split") [.str x t, .str y u]) Q E s := by
  refine KSpl.split1 hF hN hy ?_ (by rw [sizeLine_eq]; omega)
  intro D l h' k e a' F' N' l1
  rw [hs] at e
  match l, e with
  | [(c, tc)], e =>
    obtain rfl : c = a := by simpa using e
    exact h D tc h' k F' N' l1
theorem split_2 (hF : Fr h₀ L s.heap m) (hN : News h₀ L s.heap news) (hy : (y.length == 0) = false) (hs : Txt.split x y = [a, b]) (hx : x.length ≤ 1000)
    (h : ∀ D ta tb h' k, Fr h₀ L h' m → News h₀ L h' ((D, W.listOf #[.str a ta, .str b tb] 0) :: news) → (∀ p ∈ news, p.1 < D) → Q (.ref D) { s with heap := h', toks := k }) : wpAny (model prog w) A (call (.builtin "str.split") [.str x t, .str y u]) Q E s := by
  refine KSpl.split1 hF hN hy ?_ (by rw [sizeLine_eq]; omega)
  intro D l h' k e a' F' N' l1
  rw [hs] at e
  match l, e with
  | [(c, tc), (d, td)], e =>
    obtain ⟨rfl, rfl⟩ : c = a ∧ d = b := by simpa using e
    exact h D tc td h' k F' N' l1
end
local macro_rules | `(tactic| walk_at "call builtin:str.split") => `(tactic| (k_here; k_dflt (refine split_1 (by k_asm) (by k_asm) (by decide) (by assumption) (by assumption) ?_); intro D' t1' h' k' F' N' l1; (try k_lt l1); (try k_sweep)))
local macro_rules | `(tactic| walk_at "call builtin:str.split") => `(tactic| (k_here; k_dflt (refine split_2 (by k_asm) (by k_asm) (by decide) (by assumption) (by assumption) ?_); intro D' t1' t2' h' k' F' N' l1; (try k_lt l1); (try k_sweep)))
theorem sub_rot3 {α : Type} {a b c d : α} {Y : List α} : ∀ p ∈ d :: a :: b :: c :: Y, p ∈ a :: b :: c :: d :: Y := by
  intro p hp
  simp only [List.mem_cons] at hp ⊢
  rcases hp with h | h | h | h | h <;> simp [h]
theorem leaf_item (c : Nat) : Txt.item (Str.ofString "abcdABCD") (256 + (c : Int) - 256) = leafS c := by
  unfold leafS
  congr 1
  omega
local macro_rules | `(tactic| walk_at "convS str") => `(tactic| (k_here; k_dflt (refine SB.convS_str (hsz := ?hsz) ?_); (case hsz => (rw [sizeLine_eq]; omega)); intro _ _))
def TableIn (news : List (Addr × Obj)) (tb : Addr) (jn : Nat → Str) : Prop :=
  ∃ dx l hs tk k n T0 T1 T2 T3 a0 a1 a2 a3 b0 b1 b2 b3, (tb, W.instObj 201 dx) ∈ news ∧ (dx, dictOf [⟨hs, .str (Str.ofString "_headers") tk, .ref l⟩] k) ∈ news ∧ (l, W.listOf #[.ref T0, .ref T1, .ref T2, .ref T3] n) ∈ news ∧
    (T0, tup2 (Str.ofString "a") a0 (jn 0) b0) ∈ news ∧ (T1, tup2 (Str.ofString "b") a1 (jn 1) b1) ∈ news ∧ (T2, tup2 (Str.ofString "c") a2 (jn 2) b2) ∈ news ∧ (T3, tup2 (Str.ofString "d") a3 (jn 3) b3) ∈ news
def LogIn (news : List (Addr × Obj)) (lg D : Addr) : Prop :=
  ∃ dl hs tk k, (lg, W.instObj 201 dl) ∈ news ∧ (dl, dictOf [⟨hs, .str (Str.ofString "_headers") tk, .ref D⟩] k) ∈ news
def SrchPost (news kp : List (Addr × Obj)) (D : Addr) (acc : List Value) (x : Str) (es : List (Str × Str)) (r : Value) (n' : List (Addr × Obj)) : Prop :=
  ∃ n tl vs, n' = (D, W.listOf (acc ++ vs).toArray n) :: (tl ++ news) ∧ PairsAt tl vs es ∧ (∀ p ∈ tl, p.1 ≠ D) ∧ (∀ q ∈ news, ∀ p ∈ tl, q.1 < p.1) ∧ QAt (tl ++ kp) r x
set_option maxHeartbeats 0 in
theorem srch_leaf1 (w : World) (news kp : List (Addr × Obj)) (c : Nat) (hc : c < 8) (lowv highv : Value) (nd tb lg D t n n0 : Nat) (acc : List Value) (x j : Str)
    (hj : ∀ t, Sp w 148 ⟨[.ref tb, .str (Txt.item (Str.ofString "abcdABCD") (256 + (c : Int) - 256)) t], []⟩ ((D, W.listOf acc.toArray n0) :: news) 10 200 (fun r n' => n' = (D, W.listOf acc.toArray n0) :: news ∧ ∃ t, r = .str j t))
    (hnd : (nd, W.listOf (List.toArray [.int (256 + (c : Int)) t]) n) ∈ news) (tx tk k dl tk' k' : Nat) (hs hs' : Int) (dx l : Addr) (htb : (tb, W.instObj 201 dx) ∈ news) (htd : (dx, dictOf [⟨hs, .str (Str.ofString "_headers") tk, .ref l⟩] k) ∈ news)
    (hlg : (lg, W.instObj 201 dl) ∈ news) (hld : (dl, dictOf [⟨hs', .str (Str.ofString "_headers") tk', .ref D⟩] k') ∈ news) (hD : ∀ p ∈ news, p.1 ≠ D) (hsp : Txt.split j (Str.ofString " ") = [x]) (hjl : j.length ≤ 1000) (hxc : ∀ c ∈ x.cps.toList, 32 ≤ c ∧ c < 127) (hxl : x.length ≤ 1000) (hxq : lts Str.empty x = true ∧ lts x tilde = true) (haz : acc.length ≤ 1000) :
    Sp w 321 ⟨[.ref nd, lowv, highv, .ref tb, .ref lg], []⟩ ((D, W.listOf acc.toArray n0) :: news) 20 400 (SrchPost news kp D acc x [(leafS c, x)]) := by
  intro p loose mean mg mb dp un gd env outer A₀ base h₀ L m s R B F X N T hfe hke hd hu ret
  k_dflt ktr_enter
  k_with "rec" => (refine Sp.use2 (hj _) (by k_asm) (by k_asm) (by exact rfl) (by exact rfl) (by exact rfl) (by exact rfl) (by k_asm) (by k_asm) (by k_asm) (by dsimp only; omega) (by dsimp only; omega) ?_; intro r9 n9 h9 t9 F9 N9 P9; (obtain ⟨e1, q1, e2⟩ := P9); subst e1; subst e2; (try k_sweep))
  have hk1 : ∀ c' ∈ (Txt.item (Str.ofString "abcdABCD") (256 + (c : Int) - 256)).cps.toList, 32 ≤ c' ∧ c' < 127 := by rw [leaf_item]; exact leaf_clean ⟨c, hc⟩
  have hk2 : (Txt.item (Str.ofString "abcdABCD") (256 + (c : Int) - 256)).length ≤ 1000 := by rw [leaf_item, leaf_len ⟨c, hc⟩]; decide
  have haz' : acc.toArray.size ≤ 1000 := haz
  k_with "rec" => ((show wpAny _ _ (call (Value.ref 198) _ _) _ _ _); (refine' Sp.use2 (add_spec w (_ :: _ :: _ :: news) _ x hk1 hk2 hxc hxl _ _ _ _ _ _ _ _ _ acc.toArray haz' ?m1 ?m2 ?m3) ?a1 (newsSub ?a2 sub_rot3) ?a3 ?a4 ?a5 ?a6 ?a7 ?a8 ?a9 ?b1 ?b2 ?b3); (case a1 => k_asm); (case a2 => k_asm); (case a3 => exact rfl); (case a4 => exact rfl); (case a5 => exact rfl); (case a6 => exact rfl); (case a7 => k_asm); (case a8 => k_asm); (case a9 => k_asm); (case m1 => k_mem); (case m2 => k_mem); (case m3 => (intro p hp; rcases List.mem_cons.mp hp with rfl | hp; (exact Ne.symm (Nat.ne_of_lt (by dsimp only; omega))); rcases List.mem_cons.mp hp with rfl | hp; (exact Ne.symm (Nat.ne_of_lt (by dsimp only; omega))); rcases List.mem_cons.mp hp with rfl | hp; (exact Ne.symm (Nat.ne_of_lt (by dsimp only; omega))); exact hD _ hp)); (case b1 => (dsimp only; omega)); (case b2 => (dsimp only; omega)); intro r9 n9 h9 t9 F9 N9 P9; (obtain ⟨e1, T9, t91, t92, e2, q1, q2⟩ := P9); subst e1; subst e2; (try k_sweep))
  k_steps
  rename Fr _ _ _ _ => eF
  rename News _ _ _ _ => eN
  refine ret _ _ _ _ eF eN ⟨n0 + 1, [_, _, _, _], [.ref _], (by rw [List.push_toArray, leaf_item]; rfl), ⟨⟨_, _, _, rfl, .head _⟩, trivial⟩, ?ne, ?lt, ⟨_, _, _, _, _, _, rfl, .tail _ (.head _), .tail _ (.tail _ (.head _))⟩, hxq⟩
  case lt =>
    rename (_ < _ ∧ AllLt _ news) => e1
    rename (_ < _ ∧ _ < _ ∧ AllLt _ news) => e2
    intro q hq p hp
    have f1 := allLt_mem e1.2 q hq
    have f2 := allLt_mem e2.2.2 q hq
    rcases List.mem_cons.mp hp with rfl | hp
    · exact q2 q (.tail _ (.tail _ (.tail _ hq)))
    · rcases List.mem_cons.mp hp with rfl | hp
      · exact Nat.lt_trans f2 (by assumption)
      · rcases List.mem_cons.mp hp with rfl | hp
        · exact f2
        · rw [List.mem_singleton.mp hp]
          exact f1
  intro p hp
  rcases List.mem_cons.mp hp with rfl | hp
  · exact Ne.symm (Nat.ne_of_lt q1)
  · rcases List.mem_cons.mp hp with rfl | hp
    · exact Ne.symm (Nat.ne_of_lt (by dsimp only; omega))
    · rcases List.mem_cons.mp hp with rfl | hp
      · exact Ne.symm (Nat.ne_of_lt (by dsimp only; omega))
      · rw [List.mem_singleton.mp hp]
        exact Ne.symm (Nat.ne_of_lt (by dsimp only; omega))
set_option maxHeartbeats 0 in
theorem srch_leaf2 (w : World) (news kp : List (Addr × Obj)) (c : Nat) (hc : c < 8) (lowv highv : Value) (nd tb lg D t n n0 : Nat) (acc : List Value) (x1 x2 j : Str)
    (hj : ∀ t, Sp w 148 ⟨[.ref tb, .str (Txt.item (Str.ofString "abcdABCD") (256 + (c : Int) - 256)) t], []⟩ ((D, W.listOf acc.toArray n0) :: news) 10 200 (fun r n' => n' = (D, W.listOf acc.toArray n0) :: news ∧ ∃ t, r = .str j t))
    (hnd : (nd, W.listOf (List.toArray [.int (256 + (c : Int)) t]) n) ∈ news) (tx tk k dl tk' k' : Nat) (hs hs' : Int) (dx l : Addr) (htb : (tb, W.instObj 201 dx) ∈ news) (htd : (dx, dictOf [⟨hs, .str (Str.ofString "_headers") tk, .ref l⟩] k) ∈ news)
    (hlg : (lg, W.instObj 201 dl) ∈ news) (hld : (dl, dictOf [⟨hs', .str (Str.ofString "_headers") tk', .ref D⟩] k') ∈ news) (hD : ∀ p ∈ news, p.1 ≠ D) (hsp : Txt.split j (Str.ofString " ") = [x1, x2]) (hx2a : x2.length ≤ 1000) (hx1a : x1.length ≤ 1000) (hx2b : 0 < x2.length) (hjl : j.length ≤ 1000) (hxc : ∀ c ∈ (Str.ofString "{" ++ x1 ++ Str.ofString "}" ++ x2).cps.toList, 32 ≤ c ∧ c < 127) (hxl : (Str.ofString "{" ++ x1 ++ Str.ofString "}" ++ x2).length ≤ 1000) (hxq : lts Str.empty (Str.ofString "{" ++ x1 ++ Str.ofString "}" ++ x2) = true ∧ lts (Str.ofString "{" ++ x1 ++ Str.ofString "}" ++ x2) tilde = true) (haz : acc.length ≤ 1000) :
    Sp w 321 ⟨[.ref nd, lowv, highv, .ref tb, .ref lg], []⟩ ((D, W.listOf acc.toArray n0) :: news) 20 400 (SrchPost news kp D acc (Str.ofString "{" ++ x1 ++ Str.ofString "}" ++ x2) [(leafS c, (Str.ofString "{" ++ x1 ++ Str.ofString "}" ++ x2))]) := by
  intro p loose mean mg mb dp un gd env outer A₀ base h₀ L m s R B F X N T hfe hke hd hu ret
  k_dflt ktr_enter
  k_with "rec" => (refine Sp.use2 (hj _) (by k_asm) (by k_asm) (by exact rfl) (by exact rfl) (by exact rfl) (by exact rfl) (by k_asm) (by k_asm) (by k_asm) (by dsimp only; omega) (by dsimp only; omega) ?_; intro r9 n9 h9 t9 F9 N9 P9; (obtain ⟨e1, q1, e2⟩ := P9); subst e1; subst e2; (try k_sweep))
  have hk1 : ∀ c' ∈ (Txt.item (Str.ofString "abcdABCD") (256 + (c : Int) - 256)).cps.toList, 32 ≤ c' ∧ c' < 127 := by rw [leaf_item]; exact leaf_clean ⟨c, hc⟩
  have hk2 : (Txt.item (Str.ofString "abcdABCD") (256 + (c : Int) - 256)).length ≤ 1000 := by rw [leaf_item, leaf_len ⟨c, hc⟩]; decide
  have haz' : acc.toArray.size ≤ 1000 := haz
  k_with "rec" => ((show wpAny _ _ (call (Value.ref 198) _ _) _ _ _); (refine' Sp.use2 (add_spec w (_ :: _ :: _ :: news) _ (Str.ofString "{" ++ x1 ++ Str.ofString "}" ++ x2) hk1 hk2 hxc hxl _ _ _ _ _ _ _ _ _ acc.toArray haz' ?m1 ?m2 ?m3) ?a1 (newsSub ?a2 sub_rot3) ?a3 ?a4 ?a5 ?a6 ?a7 ?a8 ?a9 ?b1 ?b2 ?b3); (case a1 => k_asm); (case a2 => k_asm); (case a3 => exact rfl); (case a4 => exact rfl); (case a5 => exact rfl); (case a6 => exact rfl); (case a7 => k_asm); (case a8 => k_asm); (case a9 => k_asm); (case m1 => k_mem); (case m2 => k_mem); (case m3 => (intro p hp; rcases List.mem_cons.mp hp with rfl | hp; (exact Ne.symm (Nat.ne_of_lt (by dsimp only; omega))); rcases List.mem_cons.mp hp with rfl | hp; (exact Ne.symm (Nat.ne_of_lt (by dsimp only; omega))); rcases List.mem_cons.mp hp with rfl | hp; (exact Ne.symm (Nat.ne_of_lt (by dsimp only; omega))); exact hD _ hp)); (case b1 => (dsimp only; omega)); (case b2 => (dsimp only; omega)); intro r9 n9 h9 t9 F9 N9 P9; (obtain ⟨e1, T9, t91, t92, e2, q1, q2⟩ := P9); subst e1; subst e2; (try k_sweep))
  k_steps
  rename Fr _ _ _ _ => eF
  rename News _ _ _ _ => eN
  refine ret _ _ _ _ eF eN ⟨n0 + 1, [_, _, _, _], [.ref _], (by rw [List.push_toArray, leaf_item]; rfl), ⟨⟨_, _, _, rfl, .head _⟩, trivial⟩, ?ne, ?lt, ⟨_, _, _, _, _, _, rfl, .tail _ (.head _), .tail _ (.tail _ (.head _))⟩, hxq⟩
  case lt =>
    rename (_ < _ ∧ AllLt _ news) => e1
    rename (_ < _ ∧ _ < _ ∧ AllLt _ news) => e2
    intro q hq p hp
    have f1 := allLt_mem e1.2 q hq
    have f2 := allLt_mem e2.2.2 q hq
    rcases List.mem_cons.mp hp with rfl | hp
    · exact q2 q (.tail _ (.tail _ (.tail _ hq)))
    · rcases List.mem_cons.mp hp with rfl | hp
      · exact Nat.lt_trans f2 (by assumption)
      · rcases List.mem_cons.mp hp with rfl | hp
        · exact f2
        · rw [List.mem_singleton.mp hp]
          exact f1
  intro p hp
  rcases List.mem_cons.mp hp with rfl | hp
  · exact Ne.symm (Nat.ne_of_lt q1)
  · rcases List.mem_cons.mp hp with rfl | hp
    · exact Ne.symm (Nat.ne_of_lt (by dsimp only; omega))
    · rcases List.mem_cons.mp hp with rfl | hp
      · exact Ne.symm (Nat.ne_of_lt (by dsimp only; omega))
      · rw [List.mem_singleton.mp hp]
        exact Ne.symm (Nat.ne_of_lt (by dsimp only; omega))
end
section
open PySem PySem.W PyProof.Rows PySem.Calls PySem.Spec
section
variable {prog : Program} {w : World} {A : Around} {E : Value → Shared → Prop} {s : Shared} {h₀ : Heap} {env : Env} {x : Str} {body : List Stmt} {Q : Flow → Shared → Prop}
def TurnB (h₀ : Heap) (L : Addr) (I : Addr) (o : Obj) (Jn : (Str → Option Value) → List (Addr × Obj) → Prop) (Fin : (Str → Option Value) → List (Addr × Obj) → Prop) (s : Shared) (f : Flow) (s' : Shared) : Prop :=
  match f with
  | .ret _ => False
  | .brk => ∃ h' tk' m' ns, s' = { s with heap := h', toks := tk' } ∧ Fr h₀ L h' m' ∧ News h₀ L h' ns ∧ Fin m' ns
  | _ => ∃ h' tk' m' news', s' = { s with heap := h', toks := tk' } ∧ Fr h₀ L h' m' ∧ News h₀ L h' ((I, o) :: news') ∧ (∀ p ∈ news', p.1 ≠ I) ∧ Jn m' news'
theorem iter_listB {ax n : Nat} {vs : List Value} {m₀ : Str → Option Value} {news : List (Addr × Obj)}
    (hh : A.handled = none) (hm : (ax, W.listOf vs.toArray n) ∈ news) (F : Fr h₀ env.locals s.heap m₀) (N : News h₀ env.locals s.heap news)
    (J : Nat → (Str → Option Value) → List (Addr × Obj) → Prop) (Fin : (Str → Option Value) → List (Addr × Obj) → Prop) (hJk : ∀ i m ns, J i m ns → (ax, W.listOf vs.toArray n) ∈ ns) (hJ0 : J 0 m₀ news) (hJF : ∀ m ns, J vs.length m ns → Fin m ns)
    (turn : ∀ I, (∀ p ∈ news, p.1 < I) → ∀ i v m₁ news₁ h tk o, vs[i]? = some v → J i m₁ news₁ → (∀ p ∈ news₁, p.1 ≠ I) → Fr h₀ env.locals h (fun y => if y = x then some v else m₁ y) → News h₀ env.locals h ((I, o) :: news₁) →
      wpAny (model prog w) A (execs body env) (TurnB h₀ env.locals I o (J (i + 1)) Fin { s with heap := h, toks := tk }) (fun _ _ => False) { s with heap := h, toks := tk })
    (fin : ∀ h tk m' ns, Fin m' ns → Fr h₀ env.locals h m' → News h₀ env.locals h ns → Q .next { s with heap := h, toks := tk }) :
    wpAny (model prog w) A (pyIter (.ref ax)) (fun it s₂ => LoopAtV prog w A h₀ env x body Q E it s₂) E s := by
  refine iter_listJ hh hm F N J hJk hJ0 (fun I hI i v m₁ news₁ h tk o hv hJ hne F₁ N₁ => wpAny_mono (turn I hI i v m₁ news₁ h tk o hv hJ hne F₁ N₁) (fun f s₃ p => ?_) fun _ _ e => e.elim) (fun h tk m' news' hJ F' N' => fin h tk m' news' (hJF _ _ hJ) F' N')
  cases f with
  | ret v => exact p.elim
  | brk =>
    obtain ⟨h', tk', m', ns, rfl, F', N', hF⟩ := p
    exact fin h' tk' m' ns hF F' N'
  | next => exact p
  | cont => exact p
end
mutual
theorem srch_len (pl : Nat → Str) : ∀ (g : G) (lo hi : Str), (g.srch pl lo hi).2.length ≤ g.size
  | .leaf i, lo, hi => by unfold G.srch G.size; exact Nat.le_refl 1
  | .node o ps, lo, hi => by
    unfold G.srch G.size
    have := srchs_len pl o (oth o lo hi) (own o lo hi) ps
    omega
theorem srchs_len (pl : Nat → Str) (o : Bool) (t : Str) : ∀ (b : Str) (gs : List G), (srchs pl o t b gs).2.length ≤ sizes gs
  | b, [] => by unfold srchs sizes; exact Nat.le_refl 0
  | b, g :: gs => by
    have h1 := srch_len pl g (own o b t) (oth o b t)
    have h2 := srchs_len pl o t (bet o b (g.srch pl (own o b t) (oth o b t)).1) gs
    unfold srchs sizes
    split
    · dsimp only
      rw [List.length_append]
      omega
    · dsimp only
      omega
end
theorem sizes_snoc : ∀ (gs : List G) (g : G), sizes (gs ++ [g]) = sizes gs + g.size
  | [], g => by simp only [List.nil_append, sizes]; omega
  | a :: gs, g => by
    have := sizes_snoc gs g
    simp only [List.cons_append, sizes]
    omega
theorem take_snoc {gs : List G} {i : Nat} {g : G} (h : gs[i]? = some g) : gs.take (i + 1) = gs.take i ++ [g] := by rw [List.take_add_one, h]; rfl
theorem drop_cons {gs : List G} {i : Nat} {g : G} (h : gs[i]? = some g) : gs.drop i = g :: gs.drop (i + 1) := by
  obtain ⟨hi, rfl⟩ := List.getElem?_eq_some_iff.mp h
  exact List.drop_eq_getElem_cons hi
theorem srchs_step {pl : Nat → Str} {o : Bool} {t b : Str} {g : G} {gs : List G} {R : Str × List (Str × Str)} {es : List (Str × Str)} (hR : R = ((srchs pl o t b (g :: gs)).1, es ++ (srchs pl o t b (g :: gs)).2))
    (hc : gts o (bet o b (g.srch pl (own o b t) (oth o b t)).1) t = true) :
    R = ((srchs pl o t (bet o b (g.srch pl (own o b t) (oth o b t)).1) gs).1, (es ++ (g.srch pl (own o b t) (oth o b t)).2) ++ (srchs pl o t (bet o b (g.srch pl (own o b t) (oth o b t)).1) gs).2) := by
  rw [hR, srchs, if_pos hc, List.append_assoc]
theorem srchs_cut {pl : Nat → Str} {o : Bool} {t b : Str} {g : G} {gs : List G} {R : Str × List (Str × Str)} {es : List (Str × Str)} (hR : R = ((srchs pl o t b (g :: gs)).1, es ++ (srchs pl o t b (g :: gs)).2))
    (hc : ¬ gts o (bet o b (g.srch pl (own o b t) (oth o b t)).1) t = true) :
    R = (bet o b (g.srch pl (own o b t) (oth o b t)).1, es ++ (g.srch pl (own o b t) (oth o b t)).2) := by
  rw [hR, srchs, if_neg hc]
theorem stay_max {news : List (Addr × Obj)} {bv fv : Value} {b y : Str} (h : BAt news Str.empty bv b) (q : QAt news fv y) (n : ¬ lts b y = true) : QAt news bv b := by
  rcases h with ⟨t, rfl, rfl⟩ | h
  · exact absurd q.2.1 n
  · exact h
theorem stay_min {news : List (Addr × Obj)} {bv fv : Value} {b y : Str} (h : BAt news tilde bv b) (q : QAt news fv y) (n : ¬ lts y b = true) : QAt news bv b := by
  rcases h with ⟨t, rfl, rfl⟩ | h
  · exact absurd q.2.2 n
  · exact h
/-! the leaf, over the figures -/
theorem fig_one : ∀ n : Fin 27, (n : Nat) < 9 → Txt.split (joined n) (Str.ofString " ") = [plainOf n] := by decide +kernel
theorem fig_two : ∀ n : Fin 27, 9 ≤ (n : Nat) → Txt.split (joined n) (Str.ofString " ") = [Str.ofString (sp n), Str.ofString (lo n)] ∧ plainOf n = Str.ofString "{" ++ Str.ofString (sp n) ++ Str.ofString "}" ++ Str.ofString (lo n) ∧ (Str.ofString (sp n)).length ≤ 1000 ∧ (Str.ofString (lo n)).length ≤ 1000 ∧ 0 < (Str.ofString (lo n)).length := by decide +kernel
theorem fig_all : ∀ n : Fin 27, (joined n).length ≤ 1000 ∧ (∀ c ∈ (plainOf n).cps.toList, 32 ≤ c ∧ c < 127) ∧ (plainOf n).length ≤ 1000 := by decide +kernel
theorem leaf_low4 (c : Nat) (hc : c < 8) : (Txt.lower (leafS c) = Str.ofString "a" ∧ c % 4 = 0) ∨ (Txt.lower (leafS c) = Str.ofString "b" ∧ c % 4 = 1) ∨ (Txt.lower (leafS c) = Str.ofString "c" ∧ c % 4 = 2) ∨ (Txt.lower (leafS c) = Str.ofString "d" ∧ c % 4 = 3) := by
  have : ∀ c : Fin 8, (Txt.lower (leafS c) = Str.ofString "a" ∧ (c : Nat) % 4 = 0) ∨ (Txt.lower (leafS c) = Str.ofString "b" ∧ (c : Nat) % 4 = 1) ∨ (Txt.lower (leafS c) = Str.ofString "c" ∧ (c : Nat) % 4 = 2) ∨ (Txt.lower (leafS c) = Str.ofString "d" ∧ (c : Nat) % 4 = 3) := by decide +kernel
  exact this ⟨c, hc⟩
theorem leaf_lowc : ∀ i : Fin 8, (∀ c ∈ (Txt.lower (leafS i)).cps.toList, 32 ≤ c ∧ c < 127) ∧ (Txt.lower (leafS i)).length ≤ 1000 := by decide +kernel
theorem TableIn.mono {news news' : List (Addr × Obj)} {tb : Addr} {jn : Nat → Str} (h : TableIn news tb jn) (hs : ∀ p ∈ news, p ∈ news') : TableIn news' tb jn := by
  obtain ⟨dx, l, hs', tk, k, n, T0, T1, T2, T3, a0, a1, a2, a3, b0, b1, b2, b3, h1, h2, h3, h4, h5, h6, h7⟩ := h
  exact ⟨dx, l, hs', tk, k, n, T0, T1, T2, T3, a0, a1, a2, a3, b0, b1, b2, b3, hs _ h1, hs _ h2, hs _ h3, hs _ h4, hs _ h5, hs _ h6, hs _ h7⟩
theorem LogIn.mono {news news' : List (Addr × Obj)} {lg D : Addr} (h : LogIn news lg D) (hs : ∀ p ∈ news, p ∈ news') : LogIn news' lg D := by
  obtain ⟨dl, hs', tk, k, h1, h2⟩ := h
  exact ⟨dl, hs', tk, k, hs _ h1, hs _ h2⟩
theorem srch_leaf (w : World) (news kp : List (Addr × Obj)) (fig : Nat → Nat) (hfig : ∀ i, fig i < 27) (c : Nat) (hc : c < 8) (lowv highv : Value) (nd tb lg D t n n0 : Nat) (acc : List Value)
    (htb : TableIn news tb (fun i => joined (fig i))) (hlog : LogIn news lg D) (hnd : (nd, W.listOf (List.toArray [.int (256 + (c : Int)) t]) n) ∈ news) (hD : ∀ p ∈ news, p.1 ≠ D) (haz : acc.length ≤ 1000) :
    Sp w 321 ⟨[.ref nd, lowv, highv, .ref tb, .ref lg], []⟩ ((D, W.listOf acc.toArray n0) :: news) 20 400 (SrchPost news kp D acc (plainOf (fig (c % 4))) [(leafS c, plainOf (fig (c % 4)))]) := by
  obtain ⟨dx, l, hs, tk, k, n1, T0, T1, T2, T3, a0, a1, a2, a3, b0, b1, b2, b3, h1, h2, h3, h4, h5, h6, h7⟩ := htb
  obtain ⟨dl, hs', tk', k', l1, l2⟩ := hlog
  have hj : ∀ t, Sp w 148 ⟨[.ref tb, .str (Txt.item (Str.ofString "abcdABCD") (256 + (c : Int) - 256)) t], []⟩ ((D, W.listOf acc.toArray n0) :: news) 10 200 (fun r n' => n' = (D, W.listOf acc.toArray n0) :: news ∧ ∃ t, r = .str (joined (fig (c % 4))) t) := by
    intro t5
    rw [leaf_item]
    refine get_spec w _ (leafS c) _ (leaf_lowc ⟨c, hc⟩).1 (leaf_lowc ⟨c, hc⟩).2 (by rw [leaf_len ⟨c, hc⟩]; decide) t5 tk n1 k tb dx l T0 T1 T2 T3 a0 a1 a2 a3 b0 b1 b2 b3 _ _ _ _ hs (.tail _ h1) (.tail _ h2) (.tail _ h3) (.tail _ h4) (.tail _ h5) (.tail _ h6) (.tail _ h7) ?_
    rcases leaf_low4 c hc with ⟨e, m⟩ | ⟨e, m⟩ | ⟨e, m⟩ | ⟨e, m⟩
    · exact .inl ⟨e, by rw [m]⟩
    · exact .inr (.inl ⟨e, by rw [m]⟩)
    · exact .inr (.inr (.inl ⟨e, by rw [m]⟩))
    · exact .inr (.inr (.inr ⟨e, by rw [m]⟩))
  generalize hN : fig (c % 4) = N at hj ⊢
  have hN27 : N < 27 := hN ▸ hfig _
  have fa := fig_all ⟨N, hN27⟩
  have fb := plain_between ⟨N, hN27⟩
  by_cases h9 : N < 9
  · exact srch_leaf1 w news kp c hc lowv highv nd tb lg D t n n0 acc (plainOf N) (joined N) hj hnd 0 tk k dl tk' k' hs hs' dx l h1 h2 l1 l2 hD (fig_one ⟨N, hN27⟩ h9) fa.1 fa.2.1 fa.2.2 fb haz
  · have f2 := fig_two ⟨N, hN27⟩ (Nat.le_of_not_lt h9)
    have f3 : plainOf N = _ := f2.2.1
    have fa2 := fa.2.1
    have fa3 := fa.2.2
    dsimp only at fa2 fa3 fb
    rw [f3] at fa2 fa3 fb ⊢
    exact srch_leaf2 w news kp c hc lowv highv nd tb lg D t n n0 acc (Str.ofString (sp N)) (Str.ofString (lo N)) (joined N) hj hnd 0 tk k dl tk' k' hs hs' dx l h1 h2 l1 l2 hD f2.1 f2.2.2.2.1 f2.2.2.1 f2.2.2.2.2 fa.1 fa2 fa3 fb haz
/-! the loop of a group -/
def NodeFin (news kp : List (Addr × Obj)) (D : Addr) (acc : List Value) (R : Str × List (Str × Str)) (m : Str → Option Value) (ns : List (Addr × Obj)) : Prop :=
  ∃ bv n5 acc3 tl3, m (Str.ofString "best") = some bv ∧ ns = (D, W.listOf (acc ++ acc3).toArray n5) :: (tl3 ++ news) ∧ PairsAt tl3 acc3 R.2 ∧ (∀ p ∈ tl3, p.1 ≠ D) ∧ (∀ q ∈ news, ∀ p ∈ tl3, q.1 < p.1) ∧ QAt (tl3 ++ kp) bv R.1
def NodeJ (pl : Nat → Str) (o : Bool) (t z : Str) (news kp : List (Addr × Obj)) (D S : Addr) (oS : Obj) (acc : List Value) (gs : List G) (R : Str × List (Str × Str)) (nd tb lg : Addr) (lowv highv : Value) (i : Nat) (m : Str → Option Value) (ns : List (Addr × Obj)) : Prop :=
  m (Str.ofString "node") = some (.ref nd) ∧ m (Str.ofString "low") = some lowv ∧ m (Str.ofString "high") = some highv ∧ m (Str.ofString "table") = some (.ref tb) ∧ m (Str.ofString "log") = some (.ref lg) ∧
    ∃ bv b5 n5 acc2 tl es, m (Str.ofString "best") = some bv ∧ ns = (D, W.listOf (acc ++ acc2).toArray n5) :: (tl ++ (S, oS) :: news) ∧ PairsAt tl acc2 es ∧ (∀ p ∈ tl, p.1 ≠ D) ∧ (∀ q ∈ news, ∀ p ∈ tl, q.1 < p.1) ∧ es.length ≤ sizes (gs.take i) ∧ BAt (tl ++ kp) z bv b5 ∧ (0 < i → QAt (tl ++ kp) bv b5) ∧
      R = ((srchs pl o t b5 (gs.drop i)).1, es ++ (srchs pl o t b5 (gs.drop i)).2)
theorem node_fin {pl : Nat → Str} {o : Bool} {t z : Str} {news kp : List (Addr × Obj)} {D S : Addr} {oS : Obj} {acc : List Value} {gs : List G} {R : Str × List (Str × Str)} {nd tb lg : Addr} {lowv highv : Value} {m : Str → Option Value} {ns : List (Addr × Obj)} (hSD : S ≠ D) (hS : ∀ q ∈ news, q.1 < S) (hne : 0 < gs.length)
    (h : NodeJ pl o t z news kp D S oS acc gs R nd tb lg lowv highv gs.length m ns) : NodeFin news kp D acc R m ns := by
  obtain ⟨-, -, -, -, -, bv, b5, n5, acc2, tl, es, hb, rfl, hp, htl, hfr, -, -, hq, hR⟩ := h
  rw [List.drop_length, srchs, List.append_nil] at hR
  subst hR
  refine ⟨bv, n5, acc2, tl ++ [(S, oS)], hb, by rw [List.append_assoc]; rfl, hp.mono fun p hp => List.mem_append_left _ hp, fun p hp => ?_, fun q hq p hp => ?_, (hq hne).mono fun p hp => ?_⟩
  · rcases List.mem_append.mp hp with hp | hp
    · exact htl p hp
    · rw [List.mem_singleton.mp hp]; exact hSD
  · rcases List.mem_append.mp hp with hp | hp
    · exact hfr q hq p hp
    · rw [List.mem_singleton.mp hp]; exact hS q hq
  · rcases List.mem_append.mp hp with hp | hp
    · exact List.mem_append_left _ (List.mem_append_left _ hp)
    · exact List.mem_append_right _ hp
theorem node_brk {pl : Nat → Str} {o : Bool} {t : Str} {news kp : List (Addr × Obj)} {D S I : Addr} {oS oI : Obj} {acc acc2 vs9 : List Value} {g : G} {gs : List G} {R : Str × List (Str × Str)} {m : Str → Option Value} {b5 : Str} {es : List (Str × Str)} {tl tl9 : List (Addr × Obj)} {n6 : Nat} {bv : Value}
    (hSD : S ≠ D) (hID : I ≠ D) (hR : R = ((srchs pl o t b5 (g :: gs)).1, es ++ (srchs pl o t b5 (g :: gs)).2)) (hp : PairsAt tl acc2 es) (hp9 : PairsAt tl9 vs9 (g.srch pl (own o b5 t) (oth o b5 t)).2) (htl : ∀ p ∈ tl, p.1 ≠ D) (hn9 : ∀ p ∈ tl9, p.1 ≠ D) (hS : ∀ q ∈ news, q.1 < S) (hI : ∀ q ∈ news, q.1 < I) (hfr : ∀ q ∈ news, ∀ p ∈ tl, q.1 < p.1) (hfr9 : ∀ q ∈ (I, oI) :: (tl ++ (S, oS) :: news), ∀ p ∈ tl9, q.1 < p.1)
    (hc : ¬ gts o (bet o b5 (g.srch pl (own o b5 t) (oth o b5 t)).1) t = true) (hb : m (Str.ofString "best") = some bv) (hQ : QAt (tl9 ++ (tl ++ kp)) bv (bet o b5 (g.srch pl (own o b5 t) (oth o b5 t)).1)) :
    NodeFin news kp D acc R m ((D, W.listOf (acc ++ acc2 ++ vs9).toArray n6) :: (tl9 ++ (I, oI) :: (tl ++ (S, oS) :: news))) := by
  obtain rfl := srchs_cut hR hc
  refine ⟨bv, n6, acc2 ++ vs9, tl9 ++ (I, oI) :: (tl ++ [(S, oS)]), hb, by simp only [List.append_assoc, List.cons_append, List.nil_append], ?_, fun p hp => ?_, fun q hq p hp => ?_, hQ.mono fun p hp => ?_⟩
  · exact (hp.mono fun p hp => List.mem_append_right _ (.tail _ (List.mem_append_left _ hp))).append (hp9.mono fun p hp => List.mem_append_left _ hp)
  · rcases List.mem_append.mp hp with hp | hp
    · exact hn9 p hp
    · rcases List.mem_cons.mp hp with rfl | hp
      · exact hID
      · rcases List.mem_append.mp hp with hp | hp
        · exact htl p hp
        · rw [List.mem_singleton.mp hp]; exact hSD
  · rcases List.mem_append.mp hp with hp | hp
    · exact hfr9 q (.tail _ (List.mem_append_right _ (.tail _ hq))) p hp
    · rcases List.mem_cons.mp hp with rfl | hp
      · exact hI q hq
      · rcases List.mem_append.mp hp with hp | hp
        · exact hfr q hq p hp
        · rw [List.mem_singleton.mp hp]; exact hS q hq
  · rcases List.mem_append.mp hp with hp | hp
    · exact List.mem_append_left _ (List.mem_append_left _ hp)
    · rcases List.mem_append.mp hp with hp | hp
      · exact List.mem_append_left _ (List.mem_append_right _ (.tail _ (List.mem_append_left _ hp)))
      · exact List.mem_append_right _ hp
theorem node_next {pl : Nat → Str} {o : Bool} {t z : Str} {news kp : List (Addr × Obj)} {D S : Addr} {oS : Obj} {acc acc2 vs9 : List Value} {gs : List G} {R : Str × List (Str × Str)} {m : Str → Option Value} {b5 : Str} {es : List (Str × Str)} {tl tl9 : List (Addr × Obj)} {n6 i : Nat} {bv : Value} {g : G} {nd tb lg : Addr} {lowv highv : Value}
    (hg : gs[i]? = some g) (hR : R = ((srchs pl o t b5 (gs.drop i)).1, es ++ (srchs pl o t b5 (gs.drop i)).2)) (hp : PairsAt tl acc2 es) (hp9 : PairsAt tl9 vs9 (g.srch pl (own o b5 t) (oth o b5 t)).2) (htl : ∀ p ∈ tl, p.1 ≠ D) (hn9 : ∀ p ∈ tl9, p.1 ≠ D) (hfr : ∀ q ∈ news, ∀ p ∈ tl, q.1 < p.1) (hfr9 : ∀ q ∈ news, ∀ p ∈ tl9, q.1 < p.1) (hes : es.length ≤ sizes (gs.take i))
    (hc : gts o (bet o b5 (g.srch pl (own o b5 t) (oth o b5 t)).1) t = true) (hm1 : m (Str.ofString "node") = some (.ref nd)) (hm2 : m (Str.ofString "low") = some lowv) (hm3 : m (Str.ofString "high") = some highv) (hm4 : m (Str.ofString "table") = some (.ref tb)) (hm5 : m (Str.ofString "log") = some (.ref lg)) (hb : m (Str.ofString "best") = some bv)
    (hQ : QAt (tl9 ++ (tl ++ kp)) bv (bet o b5 (g.srch pl (own o b5 t) (oth o b5 t)).1)) :
    NodeJ pl o t z news kp D S oS acc gs R nd tb lg lowv highv (i + 1) m ((D, W.listOf (acc ++ acc2 ++ vs9).toArray n6) :: (tl9 ++ (tl ++ (S, oS) :: news))) := by
  rw [drop_cons hg] at hR
  have h9 := srch_len pl g (own o b5 t) (oth o b5 t)
  refine ⟨hm1, hm2, hm3, hm4, hm5, bv, _, n6, acc2 ++ vs9, tl9 ++ tl, _, hb, by simp only [List.append_assoc], (hp.mono fun p hp => List.mem_append_right _ hp).append (hp9.mono fun p hp => List.mem_append_left _ hp), fun p hp => ?_, fun q hq p hp => ?_, ?_, .inr (by rw [List.append_assoc]; exact hQ), fun _ => by rw [List.append_assoc]; exact hQ, srchs_step hR hc⟩
  · rcases List.mem_append.mp hp with hp | hp
    · exact hn9 p hp
    · exact htl p hp
  · rcases List.mem_append.mp hp with hp | hp
    · exact hfr9 q hq p hp
    · exact hfr q hq p hp
  · rw [take_snoc hg, sizes_snoc, List.length_append]
    omega
theorem sub_swap {α : Type} {a b : α} {Y : List α} : ∀ p ∈ b :: a :: Y, p ∈ a :: b :: Y := by
  intro p hp
  simp only [List.mem_cons] at hp ⊢
  rcases hp with h | h | h <;> simp [h]
theorem For_V {prog : Program} {w : World} {A : Around} {E : Value → Shared → Prop} {s : Shared} {h₀ : Heap} {env : Env} {m : Str → Option Value} {Q : Flow → Shared → Prop} {x : Str} {px pos : Pos} {iter : PySem.Expr} {body : List Stmt} (_F : Fr h₀ env.locals s.heap m) (hx : env.kindOf x = some .local)
    (hp : (env.scope.kind == .class || (env.scope.kind == .module && env.locals != env.globals)) = false)
    (h : wpAny (model prog w) A (eval iter env) (fun xv s₁ => wpAny (model prog w) A (pyIter xv) (fun it s₂ => LoopAtV prog w A h₀ env x body Q E it s₂) E s₁) E s)
    (hs : ∀ x, foldedSetIterable iter env x = pure x := by intro _; rfl) (hE : PassesOwn (model prog w) A env E := by passes_own) :
    wpAny (model prog w) A (exec (.For (.Name x px) iter body [] pos) env) Q E s := For_invV h₀ hx hp h hs hE
theorem sub_app2 {α : Type} {l l' tl : List α} (h : ∀ p ∈ l, p ∈ l') : ∀ p ∈ tl ++ l, p ∈ tl ++ l' := fun p hp => by
  rcases List.mem_append.mp hp with hp | hp
  · exact List.mem_append_left _ hp
  · exact List.mem_append_right _ (h p hp)
theorem ne_node {I D S : Addr} {oI oS : Obj} {tl news : List (Addr × Obj)} (hID : I ≠ D) (htl : ∀ p ∈ tl, p.1 ≠ D) (hSD : S ≠ D) (hD : ∀ p ∈ news, p.1 ≠ D) : ∀ p ∈ (I, oI) :: (tl ++ (S, oS) :: news), p.1 ≠ D := fun p hp => by
  rcases List.mem_cons.mp hp with rfl | hp
  · exact hID
  · rcases List.mem_append.mp hp with hp | hp
    · exact htl p hp
    · rcases List.mem_cons.mp hp with rfl | hp
      · exact hSD
      · exact hD p hp
theorem sub_mid3 {α : Type} {b c : α} {X Y : List α} : ∀ p ∈ b :: c :: (X ++ Y), p ∈ c :: (X ++ b :: Y) := by
  intro p hp
  simp only [List.mem_cons, List.mem_append] at hp ⊢
  rcases hp with h | h | h | h <;> simp [h]
theorem ne_next {I D : Addr} {oD oD' oI : Obj} {tl9 X : List (Addr × Obj)} (h : ∀ p ∈ (D, oD) :: X, p.1 ≠ I) (h9 : ∀ q ∈ (I, oI) :: X, ∀ p ∈ tl9, q.1 < p.1) : ∀ p ∈ (D, oD') :: (tl9 ++ X), p.1 ≠ I := fun p hp => by
  rcases List.mem_cons.mp hp with rfl | hp
  · exact h (D, oD) (.head _)
  · rcases List.mem_append.mp hp with hp | hp
    · exact Ne.symm (Nat.ne_of_lt (h9 _ (.head _) p hp))
    · exact h p (.tail _ hp)
end
local macro_rules | `(tactic| walk_at "exec For") => `(tactic| (k_here; k_dflt (refine For_V (by k_asm) (by rfl) (by rfl) ?_)))
theorem reset5 : True := by
  k_with "rec" => fail "none"
  k_with "src" => fail "none"
  k_with "my end" => fail "none"
  k_with "eq" => fail "none"
  trivial
section
open PySem PySem.W PyProof.Rows PySem.Calls PySem.Spec
local macro_rules | `(tactic| walk_at "compareOp Gt") => `(tactic| (k_here; k_dflt (k_extra "cmpa")))
local macro_rules | `(tactic| walk_at "compareOp GtE") => `(tactic| (k_here; k_dflt (k_extra "cmpb")))
local macro_rules | `(tactic| walk_at "compareOp GtE ref") => `(tactic| (k_here; k_dflt (k_extra "cmpb")))
set_option maxHeartbeats 0 in
theorem srch_node_max (w : World) (news kp : List (Addr × Obj)) (hkp : ∀ p ∈ kp, p ∈ news) (pl : Nat → Str) (gs : List G) (lo hi : Str) (lowv highv : Value) (nd tb lg D t n n0 : Nat) (vs acc : List Value)
    (hnd : (nd, W.listOf (List.toArray (.int 18 t :: vs)) n) ∈ news) (hvl : vs.length = gs.length) (hne : 0 < gs.length) (hD : ∀ p ∈ news, p.1 ≠ D) (hlow : BAt kp Str.empty lowv lo) (hhigh : BAt kp tilde highv hi)
    (haz : acc.length + sizes gs ≤ 1000) (d u : Nat)
    (hrec : ∀ (i : Nat) (v : Value) (g : G), vs[i]? = some v → gs[i]? = some g → ∀ news' kp', (∀ p ∈ news, p ∈ news') → (∀ p ∈ kp', p ∈ news') → (∀ p ∈ news', p.1 ≠ D) → ∀ (lv hv : Value) (lo' hi' : Str), BAt kp' Str.empty lv lo' → BAt kp' tilde hv hi' → ∀ (acc' : List Value) (n' : Nat), acc'.length + g.size ≤ 1000 →
      Sp w 321 ⟨[v, lv, hv, .ref tb, .ref lg], []⟩ ((D, W.listOf acc'.toArray n') :: news') d u (SrchPost news' kp' D acc' (g.srch pl lo' hi').1 (g.srch pl lo' hi').2)) :
    Sp w 321 ⟨[.ref nd, lowv, highv, .ref tb, .ref lg], []⟩ ((D, W.listOf acc.toArray n0) :: news) (d + 15) (u + 300) (SrchPost news kp D acc (srchs pl true (oth true lo hi) (own true lo hi) gs).1 (srchs pl true (oth true lo hi) (own true lo hi) gs).2) := by
  intro p loose mean mg mb dp un gd env outer A₀ base h₀ L m s R B F X N T hfe hke hd hu ret
  have hl1 := sizes_len gs
  k_dflt ktr_enter
  k_steps
  rename_i S hS eF eN l5
  have hSD : S ≠ D := Ne.symm (Nat.ne_of_lt (l5 _ (.head _)))
  refine iter_listB (by rfl) (.tail _ (.head _)) eF (newsSub eN sub_swap) (NodeJ pl true (oth true lo hi) Str.empty news kp D S (W.listOf vs.toArray 0) acc gs (srchs pl true (oth true lo hi) (own true lo hi) gs) nd tb lg lowv highv) (NodeFin news kp D acc (srchs pl true (oth true lo hi) (own true lo hi) gs)) ?hJk ?hJ0 ?hJF ?turn ?fin
  case hJk =>
    rintro i m5 ns ⟨-, -, -, -, -, bv, b5, n5, acc2, tl, es, -, rfl, -⟩
    exact .tail _ (List.mem_append_right _ (.head _))
  case hJ0 => exact ⟨rfl, rfl, rfl, rfl, rfl, lowv, own true lo hi, n0, [], [], [], rfl, by rw [List.append_nil]; rfl, trivial, (fun p hp => nomatch hp), (fun q hq p hp => nomatch hp), Nat.zero_le _, hlow, (fun h => absurd h (Nat.lt_irrefl 0)), rfl⟩
  case hJF =>
    intro m5 ns hJ
    rw [hvl] at hJ
    exact node_fin hSD (fun q hq => l5 q (.tail _ hq)) hne hJ
  case fin =>
    rintro h tk m5 ns ⟨bv, n5, acc3, tl3, hb, rfl, hp, htl, hfr, hQ⟩ F5 N5
    k_steps
    rename Fr _ _ _ _ => gF
    rename News _ _ _ _ => gN
    exact ret _ _ _ _ gF gN ⟨n5, tl3, acc3, rfl, hp, htl, hfr, hQ⟩
  case turn =>
    rintro I hI i v m₁ news₁ h tk oI hv ⟨hm1, hm2, hm3, hm4, hm5, bv, b5, n5, acc2, tl, es, hbest, rfl, hpa, htl, hfr, hes, hB, hq, hR⟩ hnI F5 N5
    have hil : i < gs.length := by rw [← hvl]; exact (List.getElem?_eq_some_iff.mp hv).1
    have hgi : gs[i]? = some gs[i] := List.getElem?_eq_getElem hil
    have hnd' : (nd, W.listOf (List.toArray (.int 18 t :: vs)) n) ∈ tl ++ (S, W.listOf vs.toArray 0) :: news := List.mem_append_right _ (.tail _ hnd)
    have hR9 : srchs pl true (oth true lo hi) (own true lo hi) gs = ((srchs pl true (oth true lo hi) b5 (gs[i] :: gs.drop (i + 1))).1, es ++ (srchs pl true (oth true lo hi) b5 (gs[i] :: gs.drop (i + 1))).2) := by rw [← drop_cons hgi]; exact hR
    have hID : I ≠ D := fun e => hnI _ (.head _) e.symm
    have sb : ∀ p ∈ news, p ∈ (I, oI) :: (tl ++ (S, W.listOf vs.toArray 0) :: news) := subS fun q hq => List.mem_append_right _ (.tail _ hq)
    have skp : ∀ p ∈ tl ++ kp, p ∈ (I, oI) :: (tl ++ (S, W.listOf vs.toArray 0) :: news) := fun p hp => .tail _ (sub_app2 (subS hkp) p hp)
    have hD9 : ∀ p ∈ (I, oI) :: (tl ++ (S, W.listOf vs.toArray 0) :: news), p.1 ≠ D := ne_node hID htl hSD hD
    have hO : BAt (tl ++ kp) tilde highv hi := hhigh.mono fun p hp => List.mem_append_right _ hp
    have hsz : (acc ++ acc2).length + gs[i].size ≤ 1000 := by
      have h1 := hpa.len
      have h2 := sizes_take gs (i + 1)
      rw [take_snoc hgi, sizes_snoc] at h2
      rw [List.length_append]
      omega
    have hS9 := hrec i v gs[i] hv hgi ((I, oI) :: (tl ++ (S, W.listOf vs.toArray 0) :: news)) (tl ++ kp) sb skp hD9 bv highv b5 hi hB hO (acc ++ acc2) n5 hsz
    k_with "rec" => ((refine' Sp.use2 hS9 ?a1 (newsSub ?a2 sub_swap) ?a3 ?a4 ?a5 ?a6 ?a7 ?a8 ?a9 ?b1 ?b2 ?b3); (case a1 => k_asm); (case a2 => k_asm); (case a3 => exact rfl); (case a4 => exact rfl); (case a5 => exact rfl); (case a6 => exact rfl); (case a7 => k_asm); (case a8 => k_asm); (case a9 => k_asm); (case b1 => (dsimp only; omega)); (case b2 => (dsimp only; omega)); intro r9 n9 h9 t9 F9 N9 P9; (try k_sweep))
    k_steps
    rename SrchPost _ _ _ _ _ _ _ _ => P9
    rename Fr _ _ _ _ => F9
    rename News _ _ _ _ => N9
    obtain ⟨n6, tl9, vs9, rfl, hp9, hn9, hfr9, hQ9⟩ := P9
    have s10 : ∀ p ∈ tl9 ++ (tl ++ kp), p ∈ (D, W.listOf (acc ++ acc2 ++ vs9).toArray n6) :: (tl9 ++ (I, oI) :: (tl ++ (S, W.listOf vs.toArray 0) :: news)) := subS (sub_app2 skp)
    have hB9 : BAt (tl9 ++ (tl ++ kp)) Str.empty bv b5 := hB.mono fun p hp => List.mem_append_right _ hp
    have hO9 : BAt (tl9 ++ (tl ++ kp)) tilde highv hi := hO.mono fun p hp => List.mem_append_right _ hp
    generalize hy : (gs[i].srch pl b5 hi).1 = y at hQ9
    refine' qgt ?B F9 ?X N9 ?T rfl rfl rfl rfl ?d1 ?d2 (hQ9.mono s10) (hB9.mono s10) ?_
    case B => k_asm
    case X => k_asm
    case T => k_asm
    case d1 => (dsimp only; omega)
    case d2 => (dsimp only; omega)
    intro h11 t11 F11 N11
    k_steps
    · rename lts b5 y = true => q
      have hb9 : bet true b5 y = y := by exact if_pos q
      have hQ12 : QAt (tl9 ++ (tl ++ kp)) r9 (bet true b5 y) := by rw [hb9]; exact hQ9
      clear hb9
      generalize hz : bet true b5 y = z5 at hQ12
      rename Fr _ _ _ _ => F12
      rename News _ _ _ _ => N12
      refine' qge ?B F12 ?X N12 ?T rfl rfl rfl rfl ?d1 ?d2 (hQ12.mono s10) (hO9.mono s10) ?_
      case B => k_asm
      case X => k_asm
      case T => k_asm
      case d1 => (dsimp only; omega)
      case d2 => (dsimp only; omega)
      intro h13 t13 F13 N13
      k_steps
      · rename lts z5 hi = true => c9
        subst hz hy
        exact ⟨h13, t13, _, _, rfl, F13, newsSub N13 sub_mid3, ne_next hnI hfr9, node_next hgi hR hpa hp9 htl hn9 hfr (fun q hq => hfr9 q (sb q hq)) hes c9 (by first | rfl | assumption) (by first | rfl | assumption) (by first | rfl | assumption) (by first | rfl | assumption) (by first | rfl | assumption) (by first | rfl | assumption) hQ12⟩
      · rename lts z5 hi = false => c9
        subst hz hy
        exact ⟨h13, t13, _, _, rfl, F13, N13, node_brk hSD hID hR9 hpa hp9 htl hn9 (fun q hq => l5 q (.tail _ hq)) (fun q hq => hI q (.tail _ (.tail _ hq))) hfr hfr9 (fun c => by rw [show lts (bet true b5 (gs[i].srch pl b5 hi).1) hi = true from c] at c9; cases c9) (by first | rfl | assumption) hQ12⟩
    · rename lts b5 y = false => q
      have hb9 : bet true b5 y = b5 := by exact if_neg (by intro c; rw [show lts b5 y = true from c] at q; cases q)
      have hQ12 : QAt (tl9 ++ (tl ++ kp)) bv (bet true b5 y) := by rw [hb9]; exact stay_max hB9 hQ9 (by rw [q]; decide)
      clear hb9
      generalize hz : bet true b5 y = z5 at hQ12
      rename Fr _ _ _ _ => F12
      rename News _ _ _ _ => N12
      refine' qge ?B F12 ?X N12 ?T rfl rfl rfl rfl ?d1 ?d2 (hQ12.mono s10) (hO9.mono s10) ?_
      case B => k_asm
      case X => k_asm
      case T => k_asm
      case d1 => (dsimp only; omega)
      case d2 => (dsimp only; omega)
      intro h13 t13 F13 N13
      k_steps
      · rename lts z5 hi = true => c9
        subst hz hy
        exact ⟨h13, t13, _, _, rfl, F13, newsSub N13 sub_mid3, ne_next hnI hfr9, node_next hgi hR hpa hp9 htl hn9 hfr (fun q hq => hfr9 q (sb q hq)) hes c9 (by first | rfl | assumption) (by first | rfl | assumption) (by first | rfl | assumption) (by first | rfl | assumption) (by first | rfl | assumption) (by first | rfl | assumption) hQ12⟩
      · rename lts z5 hi = false => c9
        subst hz hy
        exact ⟨h13, t13, _, _, rfl, F13, N13, node_brk hSD hID hR9 hpa hp9 htl hn9 (fun q hq => l5 q (.tail _ hq)) (fun q hq => hI q (.tail _ (.tail _ hq))) hfr hfr9 (fun c => by rw [show lts (bet true b5 (gs[i].srch pl b5 hi).1) hi = true from c] at c9; cases c9) (by first | rfl | assumption) hQ12⟩
end
theorem reset6 : True := by
  k_with "rec" => fail "none"
  k_with "src" => fail "none"
  k_with "my end" => fail "none"
  k_with "eq" => fail "none"
  trivial
section
open PySem PySem.W PyProof.Rows PySem.Calls PySem.Spec
local macro_rules | `(tactic| walk_at "compareOp Lt") => `(tactic| (k_here; k_dflt (k_extra "cmpa")))
local macro_rules | `(tactic| walk_at "compareOp LtE") => `(tactic| (k_here; k_dflt (k_extra "cmpb")))
local macro_rules | `(tactic| walk_at "compareOp LtE ref") => `(tactic| (k_here; k_dflt (k_extra "cmpb")))
set_option maxHeartbeats 0 in
theorem srch_node_min (w : World) (news kp : List (Addr × Obj)) (hkp : ∀ p ∈ kp, p ∈ news) (pl : Nat → Str) (gs : List G) (lo hi : Str) (lowv highv : Value) (nd tb lg D t n n0 : Nat) (vs acc : List Value)
    (hnd : (nd, W.listOf (List.toArray (.int 19 t :: vs)) n) ∈ news) (hvl : vs.length = gs.length) (hne : 0 < gs.length) (hD : ∀ p ∈ news, p.1 ≠ D) (hlow : BAt kp Str.empty lowv lo) (hhigh : BAt kp tilde highv hi)
    (haz : acc.length + sizes gs ≤ 1000) (d u : Nat)
    (hrec : ∀ (i : Nat) (v : Value) (g : G), vs[i]? = some v → gs[i]? = some g → ∀ news' kp', (∀ p ∈ news, p ∈ news') → (∀ p ∈ kp', p ∈ news') → (∀ p ∈ news', p.1 ≠ D) → ∀ (lv hv : Value) (lo' hi' : Str), BAt kp' Str.empty lv lo' → BAt kp' tilde hv hi' → ∀ (acc' : List Value) (n' : Nat), acc'.length + g.size ≤ 1000 →
      Sp w 321 ⟨[v, lv, hv, .ref tb, .ref lg], []⟩ ((D, W.listOf acc'.toArray n') :: news') d u (SrchPost news' kp' D acc' (g.srch pl lo' hi').1 (g.srch pl lo' hi').2)) :
    Sp w 321 ⟨[.ref nd, lowv, highv, .ref tb, .ref lg], []⟩ ((D, W.listOf acc.toArray n0) :: news) (d + 15) (u + 300) (SrchPost news kp D acc (srchs pl false (oth false lo hi) (own false lo hi) gs).1 (srchs pl false (oth false lo hi) (own false lo hi) gs).2) := by
  intro p loose mean mg mb dp un gd env outer A₀ base h₀ L m s R B F X N T hfe hke hd hu ret
  have hl1 := sizes_len gs
  k_dflt ktr_enter
  k_steps
  rename_i S hS eF eN l5
  have hSD : S ≠ D := Ne.symm (Nat.ne_of_lt (l5 _ (.head _)))
  refine iter_listB (by rfl) (.tail _ (.head _)) eF (newsSub eN sub_swap) (NodeJ pl false (oth false lo hi) tilde news kp D S (W.listOf vs.toArray 0) acc gs (srchs pl false (oth false lo hi) (own false lo hi) gs) nd tb lg lowv highv) (NodeFin news kp D acc (srchs pl false (oth false lo hi) (own false lo hi) gs)) ?hJk ?hJ0 ?hJF ?turn ?fin
  case hJk =>
    rintro i m5 ns ⟨-, -, -, -, -, bv, b5, n5, acc2, tl, es, -, rfl, -⟩
    exact .tail _ (List.mem_append_right _ (.head _))
  case hJ0 => exact ⟨rfl, rfl, rfl, rfl, rfl, highv, own false lo hi, n0, [], [], [], rfl, by rw [List.append_nil]; rfl, trivial, (fun p hp => nomatch hp), (fun q hq p hp => nomatch hp), Nat.zero_le _, hhigh, (fun h => absurd h (Nat.lt_irrefl 0)), rfl⟩
  case hJF =>
    intro m5 ns hJ
    rw [hvl] at hJ
    exact node_fin hSD (fun q hq => l5 q (.tail _ hq)) hne hJ
  case fin =>
    rintro h tk m5 ns ⟨bv, n5, acc3, tl3, hb, rfl, hp, htl, hfr, hQ⟩ F5 N5
    k_steps
    rename Fr _ _ _ _ => gF
    rename News _ _ _ _ => gN
    exact ret _ _ _ _ gF gN ⟨n5, tl3, acc3, rfl, hp, htl, hfr, hQ⟩
  case turn =>
    rintro I hI i v m₁ news₁ h tk oI hv ⟨hm1, hm2, hm3, hm4, hm5, bv, b5, n5, acc2, tl, es, hbest, rfl, hpa, htl, hfr, hes, hB, hq, hR⟩ hnI F5 N5
    have hil : i < gs.length := by rw [← hvl]; exact (List.getElem?_eq_some_iff.mp hv).1
    have hgi : gs[i]? = some gs[i] := List.getElem?_eq_getElem hil
    have hnd' : (nd, W.listOf (List.toArray (.int 19 t :: vs)) n) ∈ tl ++ (S, W.listOf vs.toArray 0) :: news := List.mem_append_right _ (.tail _ hnd)
    have hR9 : srchs pl false (oth false lo hi) (own false lo hi) gs = ((srchs pl false (oth false lo hi) b5 (gs[i] :: gs.drop (i + 1))).1, es ++ (srchs pl false (oth false lo hi) b5 (gs[i] :: gs.drop (i + 1))).2) := by rw [← drop_cons hgi]; exact hR
    have hID : I ≠ D := fun e => hnI _ (.head _) e.symm
    have sb : ∀ p ∈ news, p ∈ (I, oI) :: (tl ++ (S, W.listOf vs.toArray 0) :: news) := subS fun q hq => List.mem_append_right _ (.tail _ hq)
    have skp : ∀ p ∈ tl ++ kp, p ∈ (I, oI) :: (tl ++ (S, W.listOf vs.toArray 0) :: news) := fun p hp => .tail _ (sub_app2 (subS hkp) p hp)
    have hD9 : ∀ p ∈ (I, oI) :: (tl ++ (S, W.listOf vs.toArray 0) :: news), p.1 ≠ D := ne_node hID htl hSD hD
    have hO : BAt (tl ++ kp) Str.empty lowv lo := hlow.mono fun p hp => List.mem_append_right _ hp
    have hsz : (acc ++ acc2).length + gs[i].size ≤ 1000 := by
      have h1 := hpa.len
      have h2 := sizes_take gs (i + 1)
      rw [take_snoc hgi, sizes_snoc] at h2
      rw [List.length_append]
      omega
    have hS9 := hrec i v gs[i] hv hgi ((I, oI) :: (tl ++ (S, W.listOf vs.toArray 0) :: news)) (tl ++ kp) sb skp hD9 lowv bv lo b5 hO hB (acc ++ acc2) n5 hsz
    k_with "rec" => ((refine' Sp.use2 hS9 ?a1 (newsSub ?a2 sub_swap) ?a3 ?a4 ?a5 ?a6 ?a7 ?a8 ?a9 ?b1 ?b2 ?b3); (case a1 => k_asm); (case a2 => k_asm); (case a3 => exact rfl); (case a4 => exact rfl); (case a5 => exact rfl); (case a6 => exact rfl); (case a7 => k_asm); (case a8 => k_asm); (case a9 => k_asm); (case b1 => (dsimp only; omega)); (case b2 => (dsimp only; omega)); intro r9 n9 h9 t9 F9 N9 P9; (try k_sweep))
    k_steps
    rename SrchPost _ _ _ _ _ _ _ _ => P9
    rename Fr _ _ _ _ => F9
    rename News _ _ _ _ => N9
    obtain ⟨n6, tl9, vs9, rfl, hp9, hn9, hfr9, hQ9⟩ := P9
    have s10 : ∀ p ∈ tl9 ++ (tl ++ kp), p ∈ (D, W.listOf (acc ++ acc2 ++ vs9).toArray n6) :: (tl9 ++ (I, oI) :: (tl ++ (S, W.listOf vs.toArray 0) :: news)) := subS (sub_app2 skp)
    have hB9 : BAt (tl9 ++ (tl ++ kp)) tilde bv b5 := hB.mono fun p hp => List.mem_append_right _ hp
    have hO9 : BAt (tl9 ++ (tl ++ kp)) Str.empty lowv lo := hO.mono fun p hp => List.mem_append_right _ hp
    generalize hy : (gs[i].srch pl lo b5).1 = y at hQ9
    refine' qlt ?B F9 ?X N9 ?T rfl rfl rfl rfl ?d1 ?d2 (hQ9.mono s10) (hB9.mono s10) ?_
    case B => k_asm
    case X => k_asm
    case T => k_asm
    case d1 => (dsimp only; omega)
    case d2 => (dsimp only; omega)
    intro h11 t11 F11 N11
    k_steps
    · rename lts y b5 = true => q
      have hb9 : bet false b5 y = y := by exact if_pos q
      have hQ12 : QAt (tl9 ++ (tl ++ kp)) r9 (bet false b5 y) := by rw [hb9]; exact hQ9
      clear hb9
      generalize hz : bet false b5 y = z5 at hQ12
      rename Fr _ _ _ _ => F12
      rename News _ _ _ _ => N12
      refine' qle ?B F12 ?X N12 ?T rfl rfl rfl rfl ?d1 ?d2 (hQ12.mono s10) (hO9.mono s10) ?_
      case B => k_asm
      case X => k_asm
      case T => k_asm
      case d1 => (dsimp only; omega)
      case d2 => (dsimp only; omega)
      intro h13 t13 F13 N13
      k_steps
      · rename lts lo z5 = true => c9
        subst hz hy
        exact ⟨h13, t13, _, _, rfl, F13, newsSub N13 sub_mid3, ne_next hnI hfr9, node_next hgi hR hpa hp9 htl hn9 hfr (fun q hq => hfr9 q (sb q hq)) hes c9 (by first | rfl | assumption) (by first | rfl | assumption) (by first | rfl | assumption) (by first | rfl | assumption) (by first | rfl | assumption) (by first | rfl | assumption) hQ12⟩
      · rename lts lo z5 = false => c9
        subst hz hy
        exact ⟨h13, t13, _, _, rfl, F13, N13, node_brk hSD hID hR9 hpa hp9 htl hn9 (fun q hq => l5 q (.tail _ hq)) (fun q hq => hI q (.tail _ (.tail _ hq))) hfr hfr9 (fun c => by rw [show lts lo (bet false b5 (gs[i].srch pl lo b5).1) = true from c] at c9; cases c9) (by first | rfl | assumption) hQ12⟩
    · rename lts y b5 = false => q
      have hb9 : bet false b5 y = b5 := by exact if_neg (by intro c; rw [show lts y b5 = true from c] at q; cases q)
      have hQ12 : QAt (tl9 ++ (tl ++ kp)) bv (bet false b5 y) := by rw [hb9]; exact stay_min hB9 hQ9 (by rw [q]; decide)
      clear hb9
      generalize hz : bet false b5 y = z5 at hQ12
      rename Fr _ _ _ _ => F12
      rename News _ _ _ _ => N12
      refine' qle ?B F12 ?X N12 ?T rfl rfl rfl rfl ?d1 ?d2 (hQ12.mono s10) (hO9.mono s10) ?_
      case B => k_asm
      case X => k_asm
      case T => k_asm
      case d1 => (dsimp only; omega)
      case d2 => (dsimp only; omega)
      intro h13 t13 F13 N13
      k_steps
      · rename lts lo z5 = true => c9
        subst hz hy
        exact ⟨h13, t13, _, _, rfl, F13, newsSub N13 sub_mid3, ne_next hnI hfr9, node_next hgi hR hpa hp9 htl hn9 hfr (fun q hq => hfr9 q (sb q hq)) hes c9 (by first | rfl | assumption) (by first | rfl | assumption) (by first | rfl | assumption) (by first | rfl | assumption) (by first | rfl | assumption) (by first | rfl | assumption) hQ12⟩
      · rename lts lo z5 = false => c9
        subst hz hy
        exact ⟨h13, t13, _, _, rfl, F13, N13, node_brk hSD hID hR9 hpa hp9 htl hn9 (fun q hq => l5 q (.tail _ hq)) (fun q hq => hI q (.tail _ (.tail _ hq))) hfr hfr9 (fun c => by rw [show lts lo (bet false b5 (gs[i].srch pl lo b5).1) = true from c] at c9; cases c9) (by first | rfl | assumption) hQ12⟩
end
section
open PySem PySem.W PyProof.Rows PySem.Calls PySem.Spec
theorem TsAt.len' {news : List (Addr × Obj)} {vs : List Value} {gs : List G} (h : TsAt news vs gs) : vs.length = gs.length := TsAt.len h
theorem srch_spec (w : World) (fig : Nat → Nat) (hfig : ∀ i, fig i < 27) (g : G) (news kp : List (Addr × Obj)) (hkp : ∀ p ∈ kp, p ∈ news) (v lowv highv : Value) (lo hi : Str) (tb lg D n0 : Nat) (acc : List Value) (hv : TAt news v g)
    (htb : TableIn news tb (fun i => joined (fig i))) (hlog : LogIn news lg D) (hD : ∀ p ∈ news, p.1 ≠ D) (hlow : BAt kp Str.empty lowv lo) (hhigh : BAt kp tilde highv hi) (hok : g.Ok) (hsz : acc.length + g.size ≤ 1000) :
    Sp w 321 ⟨[v, lowv, highv, .ref tb, .ref lg], []⟩ ((D, W.listOf acc.toArray n0) :: news) (20 * g.size) (400 * g.size) (SrchPost news kp D acc (g.srch (fun i => plainOf (fig i)) lo hi).1 (g.srch (fun i => plainOf (fig i)) lo hi).2) := by
  match g with
  | .leaf i =>
    unfold TAt at hv
    obtain ⟨a, t, n, rfl, hm⟩ := hv
    unfold G.Ok at hok
    unfold G.size at hsz
    unfold G.srch G.size
    exact srch_leaf w news kp fig hfig i hok lowv highv a tb lg D t n n0 acc htb hlog hm hD (by omega)
  | .node op gs =>
    unfold TAt at hv
    obtain ⟨a, t, vs, n, rfl, hm, hts⟩ := hv
    unfold G.Ok at hok
    unfold G.size at hsz
    unfold G.srch
    have hrec : ∀ (i : Nat) (v : Value) (g : G), vs[i]? = some v → gs[i]? = some g → ∀ news' kp', (∀ p ∈ news, p ∈ news') → (∀ p ∈ kp', p ∈ news') → (∀ p ∈ news', p.1 ≠ D) → ∀ (lv hv : Value) (lo' hi' : Str), BAt kp' Str.empty lv lo' → BAt kp' tilde hv hi' → ∀ (acc' : List Value) (n' : Nat), acc'.length + g.size ≤ 1000 →
        Sp w 321 ⟨[v, lv, hv, .ref tb, .ref lg], []⟩ ((D, W.listOf acc'.toArray n') :: news') (20 * sizes gs) (400 * sizes gs) (SrchPost news' kp' D acc' (g.srch (fun i => plainOf (fig i)) lo' hi').1 (g.srch (fun i => plainOf (fig i)) lo' hi').2) := by
      intro i v g' hvi hg' news' kp' hsub hkp' hD' lv hv lo' hi' hl hh acc' n' hz
      obtain ⟨g'', hg'', hgv⟩ := hts.get hvi
      rw [hg'] at hg''
      obtain rfl := Option.some.inj hg''
      have hmem := List.mem_of_getElem? hg'
      have hs := sizes_mem hmem
      exact (srch_spec w fig hfig g' news' kp' hkp' v lv hv lo' hi' tb lg D n' acc' (hgv.mono hsub) (htb.mono hsub) (hlog.mono hsub) hD' hl hh (Oks_mem hok.2 hmem) hz).weaken (by omega) (by omega)
    cases op with
    | true => exact (srch_node_max w news kp hkp _ gs lo hi lowv highv a tb lg D t n n0 vs acc hm hts.len (List.length_pos_iff.mpr hok.1) hD hlow hhigh (by omega) _ _ hrec).weaken (by unfold G.size; omega) (by unfold G.size; omega)
    | false => exact (srch_node_min w news kp hkp _ gs lo hi lowv highv a tb lg D t n n0 vs acc hm hts.len (List.length_pos_iff.mpr hok.1) hD hlow hhigh (by omega) _ _ hrec).weaken (by unfold G.size; omega) (by unfold G.size; omega)
termination_by g.size
decreasing_by
  have hs := sizes_mem hmem
  rw [node_size]
  omega
end
theorem reset7 : True := by
  k_with "rec" => fail "none"
  k_with "src" => fail "none"
  k_with "my end" => fail "none"
  k_with "eq" => fail "none"
  trivial
section
open PySem PySem.W PyProof.Rows PySem.Calls PySem.Spec
/-- a contract that also reads the heap from before -/
def SpH (pre : Heap → Prop) (w : World) (f : Addr) (args : Args) (news : List (Addr × Obj)) (d u : Nat) (Post : Value → List (Addr × Obj) → Prop) : Prop :=
  ∀ (p : Program) (loose : List Str) (mean : ExcName → Option Value) (mg mb : Str → Option Value) (dp un : Nat) (gd : Option (List Code)) (env : Env) (outer : List Env) (A₀ : Around) (base h₀ : Heap) (L : Addr) (m : Str → Option Value) (s : Shared) (R : Result → Shared → Prop),
    pre h₀ → Below A₀ base outer h₀ → Fr h₀ L s.heap m → (frag.heap_1 w.params).In h₀ → News h₀ L s.heap news → Top p loose mean mg mb h₀ → env.frame = some L → env.scope.kind = .function →
    dp + d ≤ 990 → un + u ≤ 9890 →
    (∀ r news' h' tk', Fr h₀ L h' m → News h₀ L h' news' → Post r news' → R (.ok (.ret r)) { s with heap := h', toks := tk' }) →
    codeAny (model PySem.Challenge.rw_ul0027_01.row.prog w) { handled := none, depth := dp, frames := some (env :: outer), guards := gd, units := un } (.call (.ref f) args) R s
theorem pick_60 {l : List Value} : (slicePick l.toArray none (some 60) none).toList = l.take 60 := pick_upto (by decide)
local macro_rules | `(tactic| walk_at "subscriptTail Name Slice ref ref") => `(tactic| (k_here; (with_reducible show wpAny _ _ (subscriptTail _ (PySem.Expr.Slice none (some _) none _) (Value.ref _) (Value.ref _)) _ _ _); k_dflt (refine kmk_slice_lit (by k_asm) (by k_asm) (Fr.lst (by k_asm) (by assumption)) (by kmk_part) (by kmk_part) pick_60 ?_ (by with_unfolding_all rfl) (by kmk_pure) (by (rw [List.size_toArray, sizeLine_eq]; first | omega | (rw [List.length_take]; omega)))); intro D' h' F' N' l1; (try k_sweep)))
local macro_rules | `(tactic| walk_at "subscriptTail") => `(tactic| (k_here; (with_reducible show wpAny _ _ (subscriptTail _ (PySem.Expr.Slice none (some _) none _) (Value.ref _) (Value.ref _)) _ _ _); k_dflt (refine kmk_slice_lit (by k_asm) (by k_asm) (Fr.lst (by k_asm) (by assumption)) (by kmk_part) (by kmk_part) pick_60 ?_ (by with_unfolding_all rfl) (by kmk_pure) (by (rw [List.size_toArray, sizeLine_eq]; first | omega | (rw [List.length_take]; omega)))); intro D' h' F' N' l1; (try k_sweep)))
theorem itemsRest_ind {prog : Program} {w : World} {A : Around} {E : Value → Shared → Prop} {h₀ : Heap} {env : Env} {target : PySem.Expr} {body : List Stmt} {Q : Flow → Shared → Prop} {s : Shared} {ws : List (Addr × String)} {keep : List (Addr × Obj)} (J : Nat → (Str → Option Value) → List (Addr × Obj) → Prop) (P : Itm → Prop)
    (step : ∀ a r m ns, P a → J (r.length + 1) m ns → (∀ m' n', J r.length m' n' → ItemsRest prog w A E h₀ env target body Q s ws keep r m' n') → ItemsRest prog w A E h₀ env target body Q s ws keep (a :: r) m ns)
    (fin : ∀ m ns, J 0 m ns → ItemsRest prog w A E h₀ env target body Q s ws keep [] m ns) : ∀ (r : List Itm) (m : Str → Option Value) (ns : List (Addr × Obj)), (∀ a ∈ r, P a) → J r.length m ns → ItemsRest prog w A E h₀ env target body Q s ws keep r m ns
  | [], m, ns, _, hJ => fin m ns hJ
  | a :: r, m, ns, hP, hJ => step a r m ns (hP a (.head _)) hJ fun m' n' hJ' => itemsRest_ind J P step fin r m' n' (fun b hb => hP b (.tail _ hb)) hJ'
theorem enum_ints : ∀ (vs : List Value) (zs : List Int) (i : Nat), IntsAre vs zs → ∀ a ∈ enumItems i vs, ∃ (k : Nat) (x : Int) (tx : Tok), a = .pair (fun t => .int (k : Int) t) (.int x tx)
  | [], _, _, _, _, h => nomatch h
  | _ :: vs, _, i, .cons n t h, a, ha => by
    rcases List.mem_cons.mp ha with rfl | ha
    · exact ⟨i, n, t, rfl⟩
    · exact enum_ints vs _ (i + 1) h a ha
theorem fm6 (k : Nat) : 0 ≤ (k : Int).fmod 6 ∧ (k : Int).fmod 6 < 6 := by rw [Int.fmod_eq_emod_of_nonneg _ (by decide)]; omega
def Bnd (k : Nat) (c : Int) : Prop := 0 ≤ c ∧ c + (k : Int) * 1000000000 ≤ 62000000000
theorem num_start {k : Nat} (h : k ≤ 60) : ∀ c ∈ ([1680, 1683, 4, 3360, 100271745, 498690] : List Int), Bnd k c := by
  intro c hc
  unfold Bnd
  simp only [List.mem_cons, List.not_mem_nil, or_false] at hc
  omega
theorem bnd_get {k : Nat} {l : List Int} (h : ∀ c ∈ l, Bnd k c) (hk : k ≤ 60) (i : Nat) : Bnd k (l.getD i 0) := by
  rw [List.getD_eq_getElem?_getD]
  cases e : l[i]? with
  | none => exact ⟨by simp, by simp; omega⟩
  | some c => exact h c (List.mem_of_getElem? e)
theorem bnd_new {k : Nat} {l : List Int} (h : ∀ c ∈ l, Bnd (k + 1) c) (hk : k + 1 ≤ 60) (i : Nat) (x : Int) {c : Int} (hc : c ∈ l) (b : Prop) [Decidable b] : Bnd k (if b then l.getD i 0 + x.fmod (10 ^ Int.toNat 9) else c) := by
  have h1 := bnd_get h hk i
  have h2 := h c hc
  have e : (10 : Int) ^ Int.toNat 9 = 1000000000 := by decide
  rw [e]
  have h3 : 0 ≤ x.fmod 1000000000 ∧ x.fmod 1000000000 < 1000000000 := by
    rw [Int.fmod_eq_emod_of_nonneg _ (by decide)]; omega
  unfold Bnd at *
  split <;> omega
def NumJ (C S : Addr) (oS : Obj) (news : List (Addr × Obj)) (k : Nat) (m : Str → Option Value) (ns : List (Addr × Obj)) : Prop :=
  m (Str.ofString "codes") = some (.ref C) ∧ ∃ n c0 c1 c2 c3 c4 c5 t0 t1 t2 t3 t4 t5, ns = (S, oS) :: (C, W.listOf #[.int c0 t0, .int c1 t1, .int c2 t2, .int c3 t3, .int c4 t4, .int c5 t5] n) :: news ∧ (∀ c ∈ [c0, c1, c2, c3, c4, c5], Bnd k c) ∧ k ≤ 60
local macro_rules | `(tactic| walk_at "exec For Tuple Call cons nil") => `(tactic| (k_here; k_dflt ((rename Fr _ _ _ _ => lF'); (with_unfolding_all refine For_turns lF' ?_))))
local macro_rules | `(tactic| walk_at "exec For Tuple Call") => `(tactic| (k_here; k_dflt ((rename Fr _ _ _ _ => lF'); (with_unfolding_all refine For_turns lF' ?_))))
def NumPost (news : List (Addr × Obj)) (r : Value) (n' : List (Addr × Obj)) : Prop :=
  ∃ C n c0 c1 c2 c3 c4 c5 t0 t1 t2 t3 t4 t5, r = .ref C ∧ n' = (C, W.listOf #[.int c0 t0, .int c1 t1, .int c2 t2, .int c3 t3, .int c4 t4, .int c5 t5] n) :: news ∧ (∀ p ∈ news, p.1 < C) ∧ ∀ c ∈ [c0, c1, c2, c3, c4, c5], Bnd 0 c
set_option maxHeartbeats 0 in
theorem num_spec (w : World) (news : List (Addr × Obj)) (a : Addr) (vs : List Value) (zs : List Int) (hI : IntsAre vs zs) (hlen : vs.length ≤ 16777216) :
    SpH (fun h => h.IsList a vs.toArray) w 290 ⟨[.ref a], []⟩ news 10 300 (NumPost news) := by
  intro p loose mean mg mb dp un gd env outer A₀ base h₀ L m s R hpre B F X N T hfe hke hd hu ret
  k_dflt ktr_enter
  rename Fr h₀ _ _ _ => FG
  have hg := Fr.lst FG hpre
  k_steps
  rename Fr _ _ _ _ => eF
  rename News _ _ _ _ => eN
  refine ktu_enum (vs := vs.take 60) (by rfl) eF eN (.head _) rfl rfl rfl (fun I hI9 => ?_)
  rename (∀ p ∈ news, p.1 < _) => lC
  rename (∀ p ∈ (_ :: news), p.1 < _) => lS
  have hz60 : (vs.take 60).length ≤ 60 := by rw [List.length_take]; omega
  refine itemsRest_ind (NumJ _ _ (W.listOf (vs.take 60).toArray 0) news) (fun a => ∃ (k : Nat) (x : Int) (tx : Tok), a = .pair (fun t => .int (k : Int) t) (.int x tx)) ?step ?fin _ _ _ (enum_ints _ _ 0 (hI.take 60)) ⟨rfl, 0, _, _, _, _, _, _, _, _, _, _, _, _, rfl, num_start (by rw [enumItems_length]; exact hz60), by rw [enumItems_length]; exact hz60⟩
  case fin =>
    rintro m5 ns ⟨hm, n, c0, c1, c2, c3, c4, c5, t0, t1, t2, t3, t4, t5, rfl, hbd, -⟩
    k_steps
    rename Fr h₀ _ _ _ => gF
    rename News h₀ _ _ _ => gN
    exact ret _ _ _ _ gF (newsSub gN (subS subR)) ⟨_, n, c0, c1, c2, c3, c4, c5, t0, t1, t2, t3, t4, t5, rfl, rfl, lC, hbd⟩
  case step =>
    rintro it r m5 ns ⟨k, x, tx, rfl⟩ ⟨hm, n, c0, c1, c2, c3, c4, c5, t0, t1, t2, t3, t4, t5, rfl, hbd, hk60⟩ ih
    k_steps
    rename Fr _ _ _ _ => gF
    rename News _ _ _ _ => gN
    refine kif_setItem (l := [(c0, t0), (c1, t1), (c2, t2), (c3, t3), (c4, t4), (c5, t5)]) (N := 6) gF gN (.tail ?e1 (.tail ?e2 (.tail ?e3 (.head ?e4)))) rfl rfl rfl (by decide) (fm6 k).1 (fm6 k).2 ?_
    case e1 => exact Ne.symm (Nat.ne_of_lt (Nat.lt_succ_of_lt (hI9 _ (.tail _ (.head _)))))
    case e2 => exact Ne.symm (Nat.ne_of_lt (hI9 _ (.tail _ (.head _))))
    case e3 => exact Ne.symm (Nat.ne_of_lt (lS _ (.head _)))
    case e4 => exact fun p hp => Nat.ne_of_lt (lC p hp)
    intro h8 F8 N8
    k_steps
    refine ⟨_, _, _, _, rfl, F8, N8, ?_, ⟨⟨.head _, trivial⟩, ih _ _ ⟨by first | rfl | assumption, n, _, _, _, _, _, _, _, _, _, _, _, _, rfl, ?bd, by omega⟩⟩⟩
    case bd =>
      intro c hc
      rcases List.mem_cons.mp hc with rfl | hc
      · exact bnd_new hbd hk60 _ x (by simp) _
      · rcases List.mem_cons.mp hc with rfl | hc
        · exact bnd_new hbd hk60 _ x (by simp) _
        · rcases List.mem_cons.mp hc with rfl | hc
          · exact bnd_new hbd hk60 _ x (by simp) _
          · rcases List.mem_cons.mp hc with rfl | hc
            · exact bnd_new hbd hk60 _ x (by simp) _
            · rcases List.mem_cons.mp hc with rfl | hc
              · exact bnd_new hbd hk60 _ x (by simp) _
              · rw [List.mem_singleton.mp hc]
                exact bnd_new hbd hk60 _ x (by simp) _
    intro p hp q hq
    have hlt : p.1 < I := by
      rcases List.mem_cons.mp hp with rfl | hp
      · exact hI9 _ (.head _)
      · rcases List.mem_cons.mp hp with rfl | hp
        · have q5 := hI9 _ (List.Mem.tail _ (List.Mem.head _))
          exact q5
        · exact hI9 _ (.tail _ (.tail _ hp))
    rcases List.mem_cons.mp hq with rfl | hq
    · exact Nat.ne_of_lt (Nat.lt_succ_of_lt hlt)
    · rw [List.mem_singleton.mp hq]; exact Nat.ne_of_lt hlt
end
section
open PySem PySem.W PyProof.Rows PySem.Calls PySem.Spec
/-! the reading, plainly: a pile of groups under the signs -/
def idxOf (c : Nat) : Option Nat := if 97 ≤ c ∧ c ≤ 100 then some (c - 97) else if 65 ≤ c ∧ c ≤ 68 then some (c - 65 + 4) else none
abbrev Pile := List (Int × List G)
def putIn (g : G) : Pile → Pile
  | [] => []
  | (k, ps) :: r => (k, ps ++ [g]) :: r
def topKind (k : Int) : Pile → Pile
  | [] => []
  | (_, ps) :: r => (k, ps) :: r
def closeTop : Pile → Pile
  | (k, ps) :: (k', ps') :: r => if k = 18 then (k', ps' ++ [.node true ps]) :: r else if k = 19 then (k', ps' ++ [.node false ps]) :: r else []
  | _ => []
def signStep (S : Pile) (c : Nat) : Pile :=
  if S = [] then [] else
  if c = 40 then (0, []) :: S else if c = 41 then closeTop S else if c = 124 then topKind 18 S else if c = 38 then topKind 19 S else
  match idxOf c with
  | some i => putIn (.leaf i) S
  | none => []
theorem sign_open (k : Int) (ps : List G) (r : Pile) : signStep ((k, ps) :: r) 40 = (0, []) :: (k, ps) :: r := by unfold signStep; simp
theorem sign_close (o : Bool) (k' : Int) (ps ps' : List G) (r : Pile) : signStep ((opI o, ps) :: (k', ps') :: r) 41 = (k', ps' ++ [.node o ps]) :: r := by
  unfold signStep
  cases o <;> simp [closeTop, opI]
theorem sign_op (o : Bool) (k : Int) (ps : List G) (r : Pile) : signStep ((k, ps) :: r) (if o then 124 else 38) = (opI o, ps) :: r := by
  unfold signStep
  cases o <;> simp [topKind, opI]
theorem sign_leaf : ∀ (i : Fin 8), ∃ c, (leafS i).cps.toList = [c] ∧ idxOf c = some i.1 ∧ c ≠ 40 ∧ c ≠ 41 ∧ c ≠ 124 ∧ c ≠ 38 := by
  intro i
  have : ∀ i : Fin 8, (leafS i).cps.toList = [(leafS i).cps.toList.getD 0 0] ∧ idxOf ((leafS i).cps.toList.getD 0 0) = some i.1 ∧ (leafS i).cps.toList.getD 0 0 ≠ 40 ∧ (leafS i).cps.toList.getD 0 0 ≠ 41 ∧ (leafS i).cps.toList.getD 0 0 ≠ 124 ∧ (leafS i).cps.toList.getD 0 0 ≠ 38 := by decide +kernel
  exact ⟨_, this i⟩
theorem fold_nil : ∀ l : List Nat, l.foldl signStep [] = []
  | [] => rfl
  | c :: l => by rw [List.foldl_cons]; exact fold_nil l
mutual
def G.Two : G → Prop
  | .leaf _ => True
  | .node _ ps => 2 ≤ ps.length ∧ Twos ps
def Twos : List G → Prop
  | [] => True
  | g :: gs => g.Two ∧ Twos gs
end
theorem cps_app (x y : Str) : (x ++ y).cps.toList = x.cps.toList ++ y.cps.toList := by
  show (x.cps ++ y.cps).toList = _
  simp
theorem cps_open : (Str.ofString "(").cps.toList = [40] := by decide +kernel
theorem cps_close : (Str.ofString ")").cps.toList = [41] := by decide +kernel
theorem cps_op : ∀ o, (opS o).cps.toList = [if o then 124 else 38] := by decide +kernel
mutual
theorem read_g : ∀ (g : G), g.Ok → g.Two → ∀ (k : Int) (ps : List G) (r : Pile), g.written.cps.toList.foldl signStep ((k, ps) :: r) = (k, ps ++ [g]) :: r
  | .leaf i, h, _, k, ps, r => by
    unfold G.Ok at h
    obtain ⟨c, h1, h2, h3, h4, h5, h6⟩ := sign_leaf ⟨i, h⟩
    dsimp only at h1 h2
    unfold G.written
    rw [h1]
    simp only [List.foldl_cons, List.foldl_nil, signStep, h2, h3, h4, h5, h6, if_false, List.cons_ne_nil, putIn]
  | .node o gs, h, t, k, ps, r => by
    unfold G.Ok at h
    unfold G.Two at t
    unfold G.written
    rw [cps_app, cps_app, List.foldl_append, List.foldl_append, cps_open, cps_close]
    rw [show List.foldl signStep ((k, ps) :: r) [40] = _ from sign_open k ps r]
    rw [read_gs o gs h.1 h.2 t.2 0 [] ((k, ps) :: r)]
    rw [if_neg (by omega), List.foldl_cons, List.foldl_nil, sign_close, List.nil_append]
theorem read_gs (o : Bool) : ∀ (gs : List G), gs ≠ [] → Oks gs → Twos gs → ∀ (k : Int) (ps : List G) (r : Pile), (Str.join (opS o) (writtens gs)).cps.toList.foldl signStep ((k, ps) :: r) = (if gs.length ≤ 1 then k else opI o, ps ++ gs) :: r
  | [], e, _, _, _, _, _ => absurd rfl e
  | [g], _, h, t, k, ps, r => by
    unfold Oks at h
    unfold Twos at t
    unfold writtens writtens
    rw [if_pos (by simp)]
    exact read_g g h.1 t.1 k ps r
  | g :: g' :: gs, _, h, t, k, ps, r => by
    have e : writtens (g :: g' :: gs) = g.written :: writtens (g' :: gs) := by conv => lhs; unfold writtens
    have e2 : ∃ w ws, writtens (g' :: gs) = w :: ws := ⟨g'.written, writtens gs, by conv => lhs; unfold writtens⟩
    have hj : Str.join (opS o) (writtens (g :: g' :: gs)) = g.written ++ opS o ++ Str.join (opS o) (writtens (g' :: gs)) := by
      rw [e]
      obtain ⟨w, ws, e2⟩ := e2
      rw [e2]
      rfl
    unfold Oks at h
    unfold Twos at t
    rw [hj, cps_app, cps_app, List.foldl_append, List.foldl_append, cps_op, read_g g h.1 t.1 k ps r, List.foldl_cons, List.foldl_nil, sign_op, read_gs o (g' :: gs) (List.cons_ne_nil _ _) h.2 t.2]
    rw [if_neg (show ¬ (g :: g' :: gs).length ≤ 1 by simp only [List.length_cons]; omega), ite_self]
    simp
end
/-- the pile before sign i, and what is left -/
def pileAt (x : List Nat) (i : Nat) : Pile := (x.take i).foldl signStep [(0, [])]
theorem pile_zero (x : List Nat) : pileAt x 0 = [(0, [])] := rfl
theorem pile_succ {x : List Nat} {i c : Nat} (h : x[i]? = some c) : pileAt x (i + 1) = signStep (pileAt x i) c := by
  unfold pileAt
  rw [List.take_add_one, h, List.foldl_append]
  rfl
theorem pile_end (g : G) (h : g.Ok) (t : g.Two) : pileAt g.written.cps.toList g.written.cps.toList.length = [(0, [g])] := by
  unfold pileAt
  rw [List.take_length, read_g g h t]
  rfl
theorem pile_ne {g : G} (h : g.Ok) (t : g.Two) (i : Nat) : pileAt g.written.cps.toList i ≠ [] := by
  intro e
  have k := pile_end g h t
  unfold pileAt at k e
  rw [List.take_length, ← List.take_append_drop i g.written.cps.toList, List.foldl_append, e, fold_nil] at k
  exact absurd k (by simp)
end
section
open PySem PySem.W PyProof.Rows PySem.Calls PySem.Spec
section
variable {prog : Program} {w : World} {A : Around} {E : Value → Shared → Prop} {s : Shared} {h₀ : Heap} {env : Env} {x : Str} {body : List Stmt} {Q : Flow → Shared → Prop}
theorem loop_strJ {y : Str} {m₀ : Str → Option Value} {news : List (Addr × Obj)} {ob : Obj} {St : Nat → Heap → Prop} (hh : A.handled = none)
    (hW : ∀ A' : Around, A'.handled = none → Walks prog w A' s.heap.objs.size [s.heap.objs.size] [s.heap.objs.size] y.cps.size (SignAt y) St) (hst : St 0 (s.heap.push ob)) (hob : ∀ i h, St i h → ∃ o, h.get? s.heap.objs.size = some o)
    (F : Fr h₀ env.locals s.heap m₀) (N : News h₀ env.locals s.heap news)
    (J : Nat → (Str → Option Value) → List (Addr × Obj) → Prop) (hJ0 : J 0 m₀ news)
    (turn : ∀ I, (∀ p ∈ news, p.1 < I) → ∀ i c t m₁ news₁ h tk o, y.cps.toList[i]? = some c → J i m₁ news₁ → (∀ p ∈ news₁, p.1 ≠ I) → Fr h₀ env.locals h (fun z => if z = x then some (.str ⟨#[c]⟩ t) else m₁ z) → News h₀ env.locals h ((I, o) :: news₁) →
      wpAny (model prog w) A (execs body env) (TurnJ h₀ env.locals I o (J (i + 1)) { s with heap := h, toks := tk } Q) E { s with heap := h, toks := tk })
    (done : ∀ h tk m' news', J y.cps.size m' news' → Fr h₀ env.locals h m' → News h₀ env.locals h news' → Q .next { s with heap := h, toks := tk }) :
    LoopAtV prog w A h₀ env x body Q E (.ref s.heap.objs.size) { s with heap := s.heap.push ob } := by
  refine loop_J (hW A hh) [] (.head _) (fun b hb => .inl (List.mem_singleton.mp hb)) (next_is_new F) hob (fun hm => ?_) hst (F.push _) (fun p hp => ⟨Heap.get?_push_of_some _ (N p hp).1, (N p hp).2⟩) (fun p hp => Nat.ne_of_lt (Heap.lt_size (N p hp).1)) J (fun _ _ _ _ _ h => nomatch h) hJ0 ?_ ?_
  · exact absurd F.ns.lt ((List.mem_singleton.mp hm) ▸ Nat.lt_irrefl _)
  · rintro i v m₁ news₁ h tk o hi ⟨c, t, hc, rfl⟩ hJ hne F₁ N₁
    exact turn _ (fun p hp => Heap.lt_size (N p hp).1) i c t m₁ news₁ h tk o (by simpa using hc) hJ hne F₁ N₁
  · exact done
theorem iter_strJ {y : Str} {ty : Tok} {m₀ : Str → Option Value} {news : List (Addr × Obj)} (hh : A.handled = none) (F : Fr h₀ env.locals s.heap m₀) (N : News h₀ env.locals s.heap news)
    (J : Nat → (Str → Option Value) → List (Addr × Obj) → Prop) (hJ0 : J 0 m₀ news)
    (turn : ∀ I, (∀ p ∈ news, p.1 < I) → ∀ i c t m₁ news₁ h tk o, y.cps.toList[i]? = some c → J i m₁ news₁ → (∀ p ∈ news₁, p.1 ≠ I) → Fr h₀ env.locals h (fun z => if z = x then some (.str ⟨#[c]⟩ t) else m₁ z) → News h₀ env.locals h ((I, o) :: news₁) →
      wpAny (model prog w) A (execs body env) (TurnJ h₀ env.locals I o (J (i + 1)) { s with heap := h, toks := tk } Q) E { s with heap := h, toks := tk })
    (done : ∀ h tk m' news', J y.cps.size m' news' → Fr h₀ env.locals h m' → News h₀ env.locals h news' → Q .next { s with heap := h, toks := tk }) :
    wpAny (model prog w) A (pyIter (.str y ty)) (fun it s₂ => LoopAtV prog w A h₀ env x body Q E it s₂) E s := by
  cases ha : y.cps.all (· < 128)
  · exact wpAny_pyIter_wide ha (loop_strJ hh (fun A' hA => Walks.strWide hA _ y ty) ⟨_, Heap.get?_push_size _ rfl, rfl, rfl⟩ (fun i h st => by obtain ⟨o, e, _⟩ := st; exact ⟨o, e⟩) F N J hJ0 turn done)
  · exact wpAny_pyIter_ascii ha (loop_strJ hh (fun A' hA => Walks.strAscii hA _ y ty) ⟨_, Heap.get?_push_size _ rfl, rfl, rfl⟩ (fun i h st => by obtain ⟨o, e, _⟩ := st; exact ⟨o, e⟩) F N J hJ0 turn done)
end
section
variable {prog : Program} {w : World} {A : Around} {E : Value → Shared → Prop} {s : Shared} {h₀ : Heap} {L a D : Addr} {m : Str → Option Value} {news rest : List (Addr × Obj)} {n : Nat} {ys : List Value} {x : Value} {Q : Value → Shared → Prop}
theorem item_last {value slice : PySem.Expr} {u : Tok} (N : News h₀ L s.heap news) (hm : (a, W.listOf (ys ++ [x]).toArray n) ∈ news) (h : Q x s)
    (hs : subscripted slice false (.ref a) (.int (-1) u) = operate [.ref a, .int (-1) u] (getItem (.ref a) (.int (-1) u)) := by with_unfolding_all rfl) :
    wpAny (model prog w) A (subscriptTail value slice (.ref a) (.int (-1) u)) Q E s :=
  have hl := News.isList N hm
  have hz : (ys ++ [x]).toArray.size = ys.length + 1 := by simp
  have e : ((-1 : Int) + ((ys ++ [x]).toArray.size : Nat)).toNat = ys.length := by rw [hz]; omega
  tail_any hl.typeIs slot_list_getitem.lookup (wpAny_getItem_list_neg hl (by decide) (by rw [hz]; omega) (by decide) (by rw [e]; simp) h) hs
theorem append_led (F : Fr h₀ L s.heap m) (N : News h₀ L s.heap news) (hsub : ∀ p ∈ (D, W.listOf ys.toArray n) :: rest, p ∈ news) (hne : ∀ p ∈ rest, p.1 ≠ D) (hz : ys.length ≤ 1000000)
    (h : ∀ h', Fr h₀ L h' m → News h₀ L h' ((D, W.listOf (ys ++ [x]).toArray (n + 1)) :: rest) → Q .none { s with heap := h' }) : wpAny (model prog w) A (call (.builtin "list.append") [.ref D, x]) Q E s :=
  append_K F (newsSub N hsub) (.head hne) (fun h' F' N' => h h' F' (by rw [List.push_toArray] at N'; exact N')) (by rw [List.size_toArray, sizeLine_eq]; omega)
theorem pop_led (F : Fr h₀ L s.heap m) (N : News h₀ L s.heap news) (hsub : ∀ p ∈ (D, W.listOf (ys ++ [x]).toArray n) :: rest, p ∈ news) (hne : ∀ p ∈ rest, p.1 ≠ D) (hz : ys.length ≤ 1000000)
    (h : ∀ h', Fr h₀ L h' m → News h₀ L h' ((D, W.listOf ys.toArray (n + 1)) :: rest) → Q x { s with heap := h' }) : wpAny (model prog w) A (call (.builtin "list.pop") [.ref D]) Q E s :=
  kl_pop F (newsSub N hsub) (kpa_last x ys) (.head hne) (by rw [sizeLine_eq]; simp; omega) h
theorem set_led {t : Tok} {y : Value} {Q : Unit → Shared → Prop} (F : Fr h₀ L s.heap m) (N : News h₀ L s.heap news) (hsub : ∀ p ∈ (D, W.listOf (x :: ys).toArray n) :: rest, p ∈ news) (hne : ∀ p ∈ rest, p.1 ≠ D)
    (h : ∀ h' n', Fr h₀ L h' m → News h₀ L h' ((D, W.listOf (y :: ys).toArray n') :: rest) → Q () { s with heap := h' }) : wpAny (model prog w) A (setItem (.ref D) (.int 0 t) y) Q E s := by
  have N' := newsSub N hsub
  have z := N' _ (.head _)
  refine ki_setAt z.1 (Int.le_refl 0) (by decide) (by simp) (h _ n (F.change (Heap.SameBut.update ..) z.2.1 z.2.2) (ki_turn _ (pre := []) N' (fun _ hp => nomatch hp) hne ?_ ?_))
  · simp
  · exact if_pos (by simp)
end
/-! the pile of the ledger -/
def FrAt (tl : List (Addr × Obj)) : List (Addr × Obj) → List Value → Pile → Prop
  | [], [], [] => True
  | p :: F, v :: V, f :: S => v = .ref p.1 ∧ (∃ t vs n, p.2 = W.listOf (List.toArray (.int f.1 t :: vs)) n ∧ TsAt tl vs f.2) ∧ FrAt tl F V S
  | _, _, _ => False
def Apart : List (Addr × Obj) → List (Addr × Obj) → Prop
  | [], _ => True
  | p :: F, R => (∀ q ∈ F ++ R, q.1 ≠ p.1) ∧ Apart F R
theorem FrAt.mono {tl tl' : List (Addr × Obj)} (hs : ∀ p ∈ tl, p ∈ tl') : ∀ {F : List (Addr × Obj)} {V : List Value} {S : Pile}, FrAt tl F V S → FrAt tl' F V S
  | [], [], [], _ => trivial
  | _ :: _, _ :: _, _ :: _, ⟨a, ⟨t, vs, n, b, c⟩, d⟩ => ⟨a, ⟨t, vs, n, b, TsAt.mono hs _ c⟩, d.mono hs⟩
  | [], [], _ :: _, h => h.elim
  | [], _ :: _, _, h => h.elim
  | _ :: _, [], _, h => h.elim
  | _ :: _, _ :: _, [], h => h.elim
theorem FrAt.len {tl : List (Addr × Obj)} : ∀ {F : List (Addr × Obj)} {V : List Value} {S : Pile}, FrAt tl F V S → V.length = S.length
  | [], [], [], _ => rfl
  | _ :: _, _ :: _, _ :: _, ⟨_, _, d⟩ => by simp [d.len]
  | [], [], _ :: _, h => h.elim
  | [], _ :: _, _, h => h.elim
  | _ :: _, [], _, h => h.elim
  | _ :: _, _ :: _, [], h => h.elim
def PileOf (base : List (Addr × Obj)) (P : Addr) (F : List (Addr × Obj)) (V : List Value) (tl : List (Addr × Obj)) (S : Pile) : Prop :=
  FrAt tl F V S ∧ (∀ q ∈ F ++ (tl ++ base), q.1 ≠ P) ∧ Apart F (tl ++ base) ∧ (∀ q ∈ base, ∀ p ∈ F ++ tl, q.1 < p.1) ∧ ∀ q ∈ base, q.1 < P
def PileIn (base : List (Addr × Obj)) (P : Addr) (S : Pile) (ns : List (Addr × Obj)) : Prop :=
  ∃ n F V tl, ns = (P, W.listOf (List.toArray V.reverse) n) :: (F ++ (tl ++ base)) ∧ PileOf base P F V tl S
section
variable {base F tl : List (Addr × Obj)} {P D a b : Addr} {V : List Value} {S : Pile} {oa ob : Obj} {v v2 : Value} {k k2 : Int} {ps ps2 : List G}
theorem pile_open {t : Tok} (h : PileOf base P F V tl S) (hDP : P < D) (hD : ∀ p ∈ F ++ (tl ++ base), p.1 < D) : PileOf base P ((D, W.listOf #[.int 0 t] 0) :: F) (.ref D :: V) tl ((0, []) :: S) := by
  obtain ⟨h1, h2, h3, h4, h5⟩ := h
  refine ⟨⟨rfl, ⟨t, [], 0, rfl, by unfold TsAt; trivial⟩, h1⟩, ?_, ⟨fun q hq => Nat.ne_of_lt (hD q hq), h3⟩, ?_, h5⟩
  · intro q hq
    rcases List.mem_cons.mp hq with rfl | hq
    · exact Ne.symm (Nat.ne_of_lt hDP)
    · exact h2 q hq
  · intro q hq p hp
    rcases List.mem_cons.mp hp with rfl | hp
    · exact hD q (List.mem_append_right _ (List.mem_append_right _ hq))
    · exact h4 q hq p hp
theorem TsAt.snoc {news : List (Addr × Obj)} {g : G} {w : Value} : ∀ {vs : List Value} {gs : List G}, TsAt news vs gs → TAt news w g → TsAt news (vs ++ [w]) (gs ++ [g])
  | [], [], _, h => by
    rw [List.nil_append, List.nil_append]
    unfold TsAt
    exact ⟨h, by unfold TsAt; trivial⟩
  | [], _ :: _, h, _ => by unfold TsAt at h; exact h.elim
  | _ :: _, [], h, _ => by unfold TsAt at h; exact h.elim
  | x :: vs, y :: gs, h, q => by
    unfold TsAt at h
    rw [List.cons_append, List.cons_append]
    unfold TsAt
    exact ⟨h.1, TsAt.snoc h.2 q⟩
theorem apart_more {x : Addr × Obj} : ∀ {F R : List (Addr × Obj)}, Apart F R → (∀ p ∈ F, x.1 ≠ p.1) → Apart F (x :: R)
  | [], _, _, _ => trivial
  | p :: F, R, h, hx => ⟨fun q hq => by
      rcases List.mem_append.mp hq with hq | hq
      · exact h.1 q (List.mem_append_left _ hq)
      · rcases List.mem_cons.mp hq with rfl | hq
        · exact hx p (.head _)
        · exact h.1 q (List.mem_append_right _ hq), apart_more h.2 fun q hq => hx q (.tail _ hq)⟩
/-- what the top of the pile is -/
theorem pile_top (h : PileOf base P F V tl S) (hS : S ≠ []) : ∃ a t vs n F' V' k ps S', F = (a, W.listOf (List.toArray (.int k t :: vs)) n) :: F' ∧ V = .ref a :: V' ∧ S = (k, ps) :: S' ∧ TsAt tl vs ps := by
  match F, V, S, h.1 with
  | [], [], [], _ => exact absurd rfl hS
  | (a, o) :: F', v :: V', (k, ps) :: S', ⟨hv, ⟨t, vs, n, ho, ht⟩, _⟩ =>
    dsimp only at hv ho ht
    subst hv ho
    exact ⟨a, t, vs, n, F', V', k, ps, S', rfl, rfl, rfl, ht⟩
theorem pile_set {t : Tok} {vs : List Value} {n : Nat} (h : PileOf base P ((a, oa) :: F) V tl ((k, ps) :: S)) (ht : TsAt tl vs ps2) :
    PileOf base P ((a, W.listOf (List.toArray (.int k2 t :: vs)) n) :: F) V tl ((k2, ps2) :: S) := by
  obtain ⟨h1, h2, h3, h4, h5⟩ := h
  match V, h1 with
  | v :: V, ⟨e, _, hr⟩ =>
  refine ⟨⟨e, ⟨t, vs, n, rfl, ht⟩, hr⟩, ?_, ⟨h3.1, h3.2⟩, ?_, h5⟩
  · intro q hq
    rcases List.mem_cons.mp hq with rfl | hq
    · exact h2 (a, oa) (.head _)
    · exact h2 q (.tail _ hq)
  · intro q hq p hp
    rcases List.mem_cons.mp hp with rfl | hp
    · exact h4 q hq (a, oa) (.head _)
    · exact h4 q hq p (.tail _ hp)
theorem pile_grow {o : Obj} (h : PileOf base P F V tl S) (hDP : P < D) (hD : ∀ p ∈ F ++ (tl ++ base), p.1 < D) : PileOf base P F V ((D, o) :: tl) S := by
  obtain ⟨h1, h2, h3, h4, h5⟩ := h
  refine ⟨h1.mono fun p hp => .tail _ hp, ?_, apart_more h3 (fun p hp => Ne.symm (Nat.ne_of_lt (hD p (List.mem_append_left _ hp)))), ?_, h5⟩
  · intro q hq
    rcases List.mem_append.mp hq with hq | hq
    · exact h2 q (List.mem_append_left _ hq)
    · rcases List.mem_cons.mp hq with rfl | hq
      · exact Ne.symm (Nat.ne_of_lt hDP)
      · exact h2 q (List.mem_append_right _ hq)
  · intro q hq p hp
    rcases List.mem_append.mp hp with hp | hp
    · exact h4 q hq p (List.mem_append_left _ hp)
    · rcases List.mem_cons.mp hp with rfl | hp
      · exact hD q (List.mem_append_right _ (List.mem_append_right _ hq))
      · exact h4 q hq p (List.mem_append_right _ hp)
theorem pile_pop (h : PileOf base P ((a, oa) :: F) (v :: V) tl ((k, ps) :: S)) : PileOf base P F V ((a, oa) :: tl) S := by
  obtain ⟨h1, h2, h3, h4, h5⟩ := h
  refine ⟨h1.2.2.mono fun p hp => .tail _ hp, ?_, apart_more h3.2 (fun p hp => Ne.symm (h3.1 p (List.mem_append_left _ hp))), ?_, h5⟩
  · intro q hq
    rcases List.mem_append.mp hq with hq | hq
    · exact h2 q (.tail _ (List.mem_append_left _ hq))
    · rcases List.mem_cons.mp hq with rfl | hq
      · exact h2 _ (.head _)
      · exact h2 q (.tail _ (List.mem_append_right _ hq))
  · intro q hq p hp
    rcases List.mem_append.mp hp with hp | hp
    · exact h4 q hq p (.tail _ (List.mem_append_left _ hp))
    · rcases List.mem_cons.mp hp with rfl | hp
      · exact h4 q hq _ (.head _)
      · exact h4 q hq p (.tail _ (List.mem_append_right _ hp))
theorem pile_apart (h : PileOf base P ((a, oa) :: F) V tl S) : P ≠ a ∧ ∀ q ∈ F ++ (tl ++ base), q.1 ≠ a :=
  ⟨Ne.symm (h.2.1 _ (.head _)), h.2.2.1.1⟩
end
theorem closeTop_len : ∀ S : Pile, (closeTop S).length ≤ S.length
  | [] => Nat.le_refl _
  | [_] => Nat.zero_le _
  | (k, ps) :: (k', ps') :: r => by
    simp only [closeTop]
    split
    · simp
    · split <;> simp
theorem pile_bound (x : List Nat) : ∀ i, (pileAt x i).length ≤ i + 1 ∧ ∀ f ∈ pileAt x i, f.2.length ≤ i
  | 0 => by
    rw [pile_zero]
    refine ⟨by simp, fun f hf => ?_⟩
    rw [List.mem_singleton.mp hf]
    exact Nat.zero_le _
  | i + 1 => by
    have ih := pile_bound x i
    cases hc : x[i]? with
    | none =>
      have e : pileAt x (i + 1) = pileAt x i := by unfold pileAt; rw [List.take_add_one, hc]; simp
      rw [e]
      exact ⟨by omega, fun f hf => Nat.le_succ_of_le (ih.2 f hf)⟩
    | some c =>
      rw [pile_succ hc]
      generalize pileAt x i = S at ih
      obtain ⟨i1, i2⟩ := ih
      unfold signStep
      split
      · exact ⟨by simp, fun f hf => nomatch hf⟩
      · split
        · refine ⟨by simp only [List.length_cons]; omega, fun f hf => ?_⟩
          rcases List.mem_cons.mp hf with rfl | hf
          · exact Nat.zero_le _
          · exact Nat.le_succ_of_le (i2 f hf)
        · split
          · refine ⟨Nat.le_trans (closeTop_len S) (by omega), fun f hf => ?_⟩
            match S, i2, hf with
            | [], _, hf => unfold closeTop at hf; cases hf
            | [_], _, hf => unfold closeTop at hf; cases hf
            | (k, ps) :: (k', ps') :: r, i2, hf =>
              have q1 := i2 (k', ps') (.tail _ (.head _))
              dsimp only at q1
              simp only [closeTop] at hf
              split at hf
              · rcases List.mem_cons.mp hf with rfl | hf
                · dsimp only; rw [List.length_append]; simp; omega
                · exact Nat.le_succ_of_le (i2 f (.tail _ (.tail _ hf)))
              · split at hf
                · rcases List.mem_cons.mp hf with rfl | hf
                  · dsimp only; rw [List.length_append]; simp; omega
                  · exact Nat.le_succ_of_le (i2 f (.tail _ (.tail _ hf)))
                · cases hf
          · have tk : ∀ k, (topKind k S).length ≤ i + 1 + 1 ∧ ∀ f ∈ topKind k S, f.2.length ≤ i + 1 := by
              intro k
              match S, i1, i2 with
              | [], _, _ => exact ⟨by simp [topKind], fun f hf => by unfold topKind at hf; cases hf⟩
              | (k', ps) :: r, i1, i2 =>
                unfold topKind
                refine ⟨by simp only [List.length_cons] at i1 ⊢; omega, fun f hf => ?_⟩
                rcases List.mem_cons.mp hf with rfl | hf
                · exact Nat.le_succ_of_le (i2 (k', ps) (.head _))
                · exact Nat.le_succ_of_le (i2 f (.tail _ hf))
            split
            · exact tk 18
            · split
              · exact tk 19
              · split
                · match S, i1, i2 with
                  | [], _, _ => exact ⟨by simp [putIn], fun f hf => by unfold putIn at hf; cases hf⟩
                  | (k', ps) :: r, i1, i2 =>
                    have q1 := i2 (k', ps) (.head _)
                    dsimp only at q1
                    unfold putIn
                    refine ⟨by simp only [List.length_cons] at i1 ⊢; omega, fun f hf => ?_⟩
                    rcases List.mem_cons.mp hf with rfl | hf
                    · dsimp only; rw [List.length_append]; simp; omega
                    · exact Nat.le_succ_of_le (i2 f (.tail _ hf))
                · exact ⟨by simp, fun f hf => nomatch hf⟩
theorem idx_cases {c i : Nat} (h : idxOf c = some i) : i < 8 ∧ (⟨#[c]⟩ : Str) = leafS i := by
  have all : ∀ i : Fin 8, (⟨#[if (i : Nat) < 4 then 97 + (i : Nat) else 61 + (i : Nat)]⟩ : Str) = leafS i := by decide +kernel
  unfold idxOf at h
  split at h
  · rename_i q
    obtain rfl := Option.some.inj h
    have k := all ⟨c - 97, by omega⟩
    dsimp only at k
    rw [if_pos (by omega), show 97 + (c - 97) = c by omega] at k
    exact ⟨by omega, k⟩
  · split at h
    · rename_i q
      obtain rfl := Option.some.inj h
      have k := all ⟨c - 65 + 4, by omega⟩
      dsimp only at k
      rw [if_neg (by omega), show 61 + (c - 65 + 4) = c by omega] at k
      exact ⟨by omega, k⟩
    · cases h
theorem sign_cases {S : Pile} {c : Nat} (h : signStep S c ≠ []) : S ≠ [] ∧ (c = 40 ∨ (c = 41 ∧ ∃ o ps k' ps' r, S = (opI o, ps) :: (k', ps') :: r) ∨ (∃ o : Bool, c = if o then 124 else 38) ∨ ∃ i, i < 8 ∧ (⟨#[c]⟩ : Str) = leafS i ∧ c ≠ 40 ∧ c ≠ 41 ∧ c ≠ 124 ∧ c ≠ 38 ∧ idxOf c = some i) := by
  unfold signStep at h
  split at h
  · exact absurd rfl h
  · rename_i hS
    refine ⟨hS, ?_⟩
    split at h
    · rename_i q; exact .inl q
    · split at h
      · rename_i q
        refine .inr (.inl ⟨q, ?_⟩)
        match S, h with
        | [], h => exact absurd rfl h
        | [_], h => unfold closeTop at h; exact absurd rfl h
        | (k, ps) :: (k', ps') :: r, h =>
          simp only [closeTop] at h
          split at h
          · rename_i e; exact ⟨true, ps, k', ps', r, by rw [e]; rfl⟩
          · split at h
            · rename_i e; exact ⟨false, ps, k', ps', r, by rw [e]; rfl⟩
            · exact absurd rfl h
      · split at h
        · rename_i q; exact .inr (.inr (.inl ⟨true, q⟩))
        · split at h
          · rename_i q; exact .inr (.inr (.inl ⟨false, q⟩))
          · split at h
            · rename_i n1 n2 n3 n4 _ i e
              have k := idx_cases e
              exact .inr (.inr (.inr ⟨i, k.1, k.2, n1, n2, n3, n4, e⟩))
            · exact absurd rfl h
theorem sign_leafs {k : Int} {ps : List G} {r : Pile} {c i : Nat} (h1 : c ≠ 40) (h2 : c ≠ 41) (h3 : c ≠ 124) (h4 : c ≠ 38) (h5 : idxOf c = some i) : signStep ((k, ps) :: r) c = (k, ps ++ [.leaf i]) :: r := by
  unfold signStep
  simp only [h1, h2, h3, h4, h5, if_false, List.cons_ne_nil, putIn]
end
theorem reset8 : True := by
  k_with "rec" => fail "none"
  k_with "src" => fail "none"
  k_with "my end" => fail "none"
  k_with "eq" => fail "none"
  trivial
section
open PySem PySem.W PyProof.Rows PySem.Calls PySem.Spec
local macro_rules | `(tactic| walk_at "subscriptTail") => `(tactic| (k_here; (with_reducible show wpAny _ _ (subscriptTail _ _ (Value.ref _) (Value.int (-1) _)) _ _ _); k_dflt (refine item_last (by k_asm) (by k_mem) ?_)))
local macro_rules | `(tactic| walk_at "subscriptTail Name UnaryOp ref int") => `(tactic| (k_here; (with_reducible show wpAny _ _ (subscriptTail _ _ (Value.ref _) (Value.int (-1) _)) _ _ _); k_dflt (refine item_last (by k_asm) (by k_mem) ?_)))
theorem FrAt.nil {tl : List (Addr × Obj)} : ∀ {F : List (Addr × Obj)} {V : List Value}, FrAt tl F V [] → F = [] ∧ V = []
  | [], [], _ => ⟨rfl, rfl⟩
  | [], _ :: _, h => h.elim
  | _ :: _, [], h => h.elim
  | _ :: _, _ :: _, h => h.elim
theorem sub_rev3 {α : Type} {a b c : α} {X : List α} : ∀ p ∈ a :: b :: c :: X, p ∈ c :: b :: a :: X := by
  intro p hp
  simp only [List.mem_cons] at hp ⊢
  rcases hp with h | h | h | h <;> simp [h]
theorem flat_int {v : Value} {d : PyData} {n : Int} (h : PyProof.V.Flat v d) (e : d = .int n) : ∃ t, v = .int n t := by
  subst e
  have k := h default
  cases k
  exact ⟨_, rfl⟩
theorem sub_rev4 {α : Type} {a b c d : α} {X : List α} : ∀ p ∈ a :: b :: c :: d :: X, p ∈ d :: c :: b :: a :: X := by
  intro p hp
  simp only [List.mem_cons] at hp ⊢
  rcases hp with h | h | h | h | h <;> simp [h]
theorem sub_close {α : Type} {a b P I : α} {X : List α} : ∀ p ∈ b :: P :: I :: a :: X, p ∈ P :: I :: a :: b :: X := by
  intro p hp
  simp only [List.mem_cons] at hp ⊢
  rcases hp with h | h | h | h | h <;> simp [h]
theorem sub_close2 {α : Type} {a b P I : α} {F tl base : List α} : ∀ p ∈ I :: P :: (b :: F ++ (a :: tl ++ base)), p ∈ b :: P :: I :: a :: (F ++ (tl ++ base)) := by
  intro p hp
  simp only [List.mem_cons, List.mem_append] at hp ⊢
  rcases hp with h | h | (h | h) | (h | h) | h <;> simp [h]
theorem sub_leaf {α : Type} {a P I D : α} {F tl base : List α} : ∀ p ∈ I :: P :: (a :: F ++ (D :: tl ++ base)), p ∈ a :: P :: I :: D :: (F ++ (tl ++ base)) := by
  intro p hp
  simp only [List.mem_cons, List.mem_append] at hp ⊢
  rcases hp with h | h | (h | h) | (h | h) | h <;> simp [h]
def ReadPost (news : List (Addr × Obj)) (g : G) (r : Value) (n' : List (Addr × Obj)) : Prop :=
  ∃ tl, n' = tl ++ news ∧ TAt tl r g ∧ ∀ q ∈ news, ∀ p ∈ tl, q.1 < p.1
def ReadJ (news : List (Addr × Obj)) (P : Addr) (x : List Nat) (i : Nat) (m : Str → Option Value) (ns : List (Addr × Obj)) : Prop :=
  m (Str.ofString "pile") = some (.ref P) ∧ PileIn news P (pileAt x i) ns
theorem read_init {news : List (Addr × Obj)} {P C : Addr} {tk : Tok} {x : List Nat} {m : Str → Option Value} (hm : m (Str.ofString "pile") = some (.ref P)) (lC : ∀ p ∈ news, p.1 < C) (lS : C < P ∧ AllLt P news) :
    ReadJ news P x 0 m ((P, W.listOf #[.ref C] 0) :: (C, W.listOf #[.int 0 tk] 0) :: news) := by
  unfold ReadJ
  rw [pile_zero]
  refine ⟨hm, 0, [(C, W.listOf #[.int 0 tk] 0)], [.ref C], [], rfl, ⟨rfl, ⟨tk, [], 0, rfl, by unfold TsAt; trivial⟩, trivial⟩, ?_, ⟨?_, trivial⟩, ?_, ?_⟩
  · intro q hq
    rcases List.mem_cons.mp hq with rfl | hq
    · exact Nat.ne_of_lt lS.1
    · exact Nat.ne_of_lt (allLt_mem lS.2 _ hq)
  · exact fun q hq => Nat.ne_of_lt (lC q hq)
  · intro q hq p hp
    rw [List.mem_singleton.mp hp]
    exact lC q hq
  · exact fun q hq => allLt_mem lS.2 _ hq
set_option maxHeartbeats 0 in
theorem read_spec (w : World) (news : List (Addr × Obj)) (g : G) (h1 : g.Ok) (h2 : g.Two) (tg : Tok) (hlen : g.written.length ≤ 1000) :
    Sp w 314 ⟨[.str g.written tg], []⟩ news 10 300 (ReadPost news g) := by
  intro p loose mean mg mb dp un gd env outer A₀ base h₀ L m s R B F X N T hfe hke hd hu ret
  k_dflt ktr_enter
  k_steps
  rename (∀ p ∈ news, p.1 < _) => lC
  rename (_ < _ ∧ AllLt _ _) => lS
  rename Fr _ _ _ _ => eF
  rename News _ _ _ _ => eN
  refine iter_strJ (by rfl) eF eN (ReadJ news _ g.written.cps.toList) (read_init (by rfl) lC lS) ?turn ?done
  case done =>
    rintro h tk m5 ns ⟨hm, hP⟩ F5 N5
    rw [← Array.length_toList, pile_end g h1 h2] at hP
    obtain ⟨n, FF, V, tl, rfl, hP⟩ := hP
    obtain ⟨a, t, vs, n1, F', V', k, ps, S', rfl, rfl, hS, ht⟩ := pile_top hP (List.cons_ne_nil _ _)
    obtain ⟨hF, hne, hap, hfr, hlt⟩ := hP
    simp only [List.cons.injEq, Prod.mk.injEq] at hS
    obtain ⟨⟨rfl, rfl⟩, rfl⟩ := hS
    obtain ⟨rfl, rfl⟩ := hF.2.2.nil
    obtain ⟨v1, rfl, ht1⟩ := TsAt.one ht
    clear ht
    k_steps
    rename Fr h₀ _ _ _ => gF
    rename News h₀ _ _ _ => gN
    exact ret _ _ _ _ gF (newsSub gN (subS (subS subR))) ⟨tl, rfl, ht1, fun q hq p hp => hfr q hq p (.tail _ hp)⟩
  case turn =>
    rintro I hI i c t m₁ news₁ h tk o hc ⟨hm, hP⟩ hnI F5 N5
    have hn0 := pile_ne h1 h2 i
    have hn1 := pile_ne h1 h2 (i + 1)
    have hi9 : i < 1000 := Nat.lt_of_lt_of_le (List.getElem?_eq_some_iff.mp hc).1 hlen
    have bd := pile_bound g.written.cps.toList i
    have hnext := pile_succ hc
    unfold ReadJ
    rw [hnext] at hn1 ⊢
    generalize pileAt g.written.cps.toList i = S at hP hn0 hn1 bd ⊢
    clear hc hnext
    obtain ⟨-, hcase⟩ := sign_cases hn1
    obtain ⟨n, FF, V, tl, rfl, hP⟩ := hP
    obtain ⟨a, ta, vs, na, FF, V, k, ps, S, rfl, rfl, rfl, hts⟩ := pile_top hP hn0
    have vl := hP.1.len
    have bd1 := bd.1
    have bd2 := bd.2 _ (.head _)
    have bd2' := bd.2
    have tsl := hts.len
    simp only [List.length_cons] at vl bd1 bd2
    clear hn0 hn1 bd
    rw [List.reverse_cons] at N5 hnI
    have hPa := pile_apart hP
    rcases hcase with rfl | ⟨rfl, o1, ps0, k', ps', r, hS⟩ | ⟨o1, rfl⟩ | ⟨j, hj, hcj, hc1, hc2, hc3, hc4, hcx⟩
    · have e : (⟨#[40]⟩ : Str) = Str.ofString "(" := by decide +kernel
      rw [e] at F5
      clear e
      k_steps
      rename Fr _ _ _ _ => aF
      rename News _ _ _ _ => aN
      rename (_ < _ ∧ _ < _ ∧ _ < _ ∧ AllLt _ _) => lD
      have lA := allLt_mem lD.2.2.2
      have hlt : ∀ p ∈ (a, W.listOf (List.toArray (.int k ta :: vs)) na) :: (FF ++ (tl ++ news)), p.1 < _ := fun p hp => by
        rcases List.mem_cons.mp hp with rfl | hp
        · exact lD.2.2.1
        · exact lA p hp
      refine append_led aF aN sub_rev3 ?ne11 (by simp; omega) ?_
      case ne11 =>
        intro p hp
        rcases List.mem_cons.mp hp with rfl | hp
        · exact Ne.symm (hnI _ (.head _))
        · rcases List.mem_cons.mp hp with rfl | hp
          · exact Ne.symm (Nat.ne_of_lt lD.2.1)
          · exact hP.2.1 p hp
      intro h8 F8 N8
      k_steps
      refine ⟨_, _, _, _, rfl, F8, newsSub N8 sub_swap, ?_, by first | exact hm | assumption, n + 1, _ :: _ :: FF, _ :: .ref a :: V, tl, (by rw [List.reverse_cons, List.reverse_cons]; rfl), ?_⟩
      · intro p hp
        rcases List.mem_cons.mp hp with rfl | hp
        · have q := hnI _ (.head _)
          exact q
        · rcases List.mem_cons.mp hp with rfl | hp
          · exact Ne.symm (Nat.ne_of_lt lD.1)
          · exact hnI p (.tail _ hp)
      · rw [sign_open]
        exact pile_open hP lD.2.1 hlt
    · simp only [List.cons.injEq, Prod.mk.injEq] at hS
      obtain ⟨⟨rfl, rfl⟩, rfl⟩ := hS
      have e : (⟨#[41]⟩ : Str) = Str.ofString ")" := by decide +kernel
      rw [e] at F5
      clear e
      obtain ⟨b, tb, vs2, nb, FF, V, k2, ps2, S, rfl, rfl, hS, hts2⟩ := pile_top (pile_pop hP) (List.cons_ne_nil _ _)
      simp only [List.cons.injEq, Prod.mk.injEq] at hS
      obtain ⟨⟨rfl, rfl⟩, rfl⟩ := hS
      have hPb := pile_apart (pile_pop hP)
      have hP2 := hP.2.1
      have tsl2 := hts2.len
      have bd3 := bd2' _ (.tail _ (.head _))
      simp only [List.length_cons] at vl bd1 bd3
      rw [List.reverse_cons] at N5 hnI
      k_steps
      rename Fr _ _ _ _ => aF
      rename News _ _ _ _ => aN
      refine pop_led aF aN sub_swap ?ne12 (by simp; omega) ?_
      case ne12 =>
        intro p hp
        rcases List.mem_cons.mp hp with rfl | hp
        · have q := hnI _ (.head _)
          exact Ne.symm q
        · exact hP2 p hp
      intro h8 F8 N8
      k_steps
      rename Fr _ _ _ _ => bF
      rename News _ _ _ _ => bN
      refine append_led bF bN sub_close ?ne13 (by simp only [List.length_cons]; omega) ?_
      case ne13 =>
        intro p hp
        rcases List.mem_cons.mp hp with rfl | hp
        · exact hPb.1
        · rcases List.mem_cons.mp hp with rfl | hp
          · exact Ne.symm (hnI _ (.tail _ (.tail _ (.head _))))
          · rcases List.mem_cons.mp hp with rfl | hp
            · exact Ne.symm (hPa.2 _ (.head _))
            · exact hPb.2 p (sub_app2 (l := tl ++ news) (subS subR) p hp)
      intro h9 F9 N9
      k_steps
      refine ⟨_, _, _, _, rfl, F9, newsSub N9 sub_close2, ?_, by first | exact hm | assumption, n + 1, (b, W.listOf (List.toArray (.int k' tb :: (vs2 ++ [.ref a]))) (nb + 1)) :: FF, .ref b :: V, (a, W.listOf (List.toArray (.int (opI o1) ta :: vs)) na) :: tl, (by rw [List.reverse_cons]; rfl), ?_⟩
      · intro p hp
        rcases List.mem_cons.mp hp with rfl | hp
        · have q := hnI _ (.head _)
          exact q
        · rcases List.mem_cons.mp hp with rfl | hp
          · have q := hnI _ (.tail _ (.tail _ (.head _)))
            exact q
          · refine hnI p (.tail _ ?_)
            rcases List.mem_append.mp hp with hp | hp
            · exact .tail _ (.tail _ (List.mem_append_left _ hp))
            · rcases List.mem_cons.mp hp with rfl | hp
              · exact .head _
              · exact .tail _ (.tail _ (List.mem_append_right _ hp))
      · rw [sign_close]
        refine pile_set (pile_pop hP) (TsAt.snoc hts2 ?_)
        unfold TAt
        exact ⟨a, ta, vs, na, rfl, .head _, TsAt.mono (fun p hp => .tail _ hp) _ hts⟩
    · cases o1
      · have e : (⟨#[if (false : Bool) = true then 124 else 38]⟩ : Str) = Str.ofString "&" := by decide +kernel
        rw [e] at F5
        clear e
        k_steps
        rename Fr _ _ _ _ => aF
        rename News _ _ _ _ => aN
        refine set_led aF aN sub_rev3 ?ne14 ?_
        case ne14 =>
          intro p hp
          rcases List.mem_cons.mp hp with rfl | hp
          · exact hPa.1
          · rcases List.mem_cons.mp hp with rfl | hp
            · exact Ne.symm (hnI _ (.tail _ (.head _)))
            · exact hPa.2 p hp
        intro h8 n8 F8 N8
        k_steps
        refine ⟨_, _, _, _, rfl, F8, newsSub N8 sub_rev3, ?_, by first | exact hm | assumption, n, (a, W.listOf (List.toArray (.int (opI false) _ :: vs)) n8) :: FF, .ref a :: V, tl, (by rw [List.reverse_cons]; rfl), ?_⟩
        · intro p hp
          rcases List.mem_cons.mp hp with rfl | hp
          · exact hnI _ (.head _)
          · rcases List.mem_cons.mp hp with rfl | hp
            · have q := hnI _ (.tail _ (.head _))
              exact q
            · exact hnI p (.tail _ (.tail _ hp))
        · have q : signStep ((k, ps) :: S) 38 = (opI false, ps) :: S := sign_op false k ps S
          show PileOf _ _ _ _ _ (signStep ((k, ps) :: S) 38)
          rw [q]
          exact pile_set hP hts
      · have e : (⟨#[if (true : Bool) = true then 124 else 38]⟩ : Str) = Str.ofString "|" := by decide +kernel
        rw [e] at F5
        clear e
        k_steps
        rename Fr _ _ _ _ => aF
        rename News _ _ _ _ => aN
        refine set_led aF aN sub_rev3 ?ne15 ?_
        case ne15 =>
          intro p hp
          rcases List.mem_cons.mp hp with rfl | hp
          · exact hPa.1
          · rcases List.mem_cons.mp hp with rfl | hp
            · exact Ne.symm (hnI _ (.tail _ (.head _)))
            · exact hPa.2 p hp
        intro h8 n8 F8 N8
        k_steps
        refine ⟨_, _, _, _, rfl, F8, newsSub N8 sub_rev3, ?_, by first | exact hm | assumption, n, (a, W.listOf (List.toArray (.int (opI true) _ :: vs)) n8) :: FF, .ref a :: V, tl, (by rw [List.reverse_cons]; rfl), ?_⟩
        · intro p hp
          rcases List.mem_cons.mp hp with rfl | hp
          · exact hnI _ (.head _)
          · rcases List.mem_cons.mp hp with rfl | hp
            · have q := hnI _ (.tail _ (.head _))
              exact q
            · exact hnI p (.tail _ (.tail _ hp))
        · have q : signStep ((k, ps) :: S) 124 = (opI true, ps) :: S := sign_op true k ps S
          show PileOf _ _ _ _ _ (signStep ((k, ps) :: S) 124)
          rw [q]
          exact pile_set hP hts
    · rw [hcj] at F5
      clear hcj
      k_steps
      rename Value => v9
      rename PyProof.V.Flat _ _ => hv
      obtain ⟨t9, rfl⟩ : ∃ t, v9 = Value.int (256 + (j : Int)) t := by
        have hj8 : j = 0 ∨ j = 1 ∨ j = 2 ∨ j = 3 ∨ j = 4 ∨ j = 5 ∨ j = 6 ∨ j = 7 := by omega
        rcases hj8 with rfl | rfl | rfl | rfl | rfl | rfl | rfl | rfl <;> exact flat_int hv (by kernel_rfl)
      k_steps
      rename Fr _ _ _ _ => aF
      rename News _ _ _ _ => aN
      rename (_ < _ ∧ _ < _ ∧ _ < _ ∧ AllLt _ _) => lD
      have lA := allLt_mem lD.2.2.2
      have hlt : ∀ p ∈ (a, W.listOf (List.toArray (.int k ta :: vs)) na) :: (FF ++ (tl ++ news)), p.1 < _ := fun p hp => by
        rcases List.mem_cons.mp hp with rfl | hp
        · exact lD.2.2.1
        · exact lA p hp
      refine append_led aF aN sub_rev4 ?ne16 (by simp only [List.length_cons]; omega) ?_
      case ne16 =>
        intro p hp
        rcases List.mem_cons.mp hp with rfl | hp
        · exact hPa.1
        · rcases List.mem_cons.mp hp with rfl | hp
          · exact Ne.symm (hnI _ (.tail _ (.head _)))
          · rcases List.mem_cons.mp hp with rfl | hp
            · exact Ne.symm (Nat.ne_of_lt lD.2.2.1)
            · exact hPa.2 p hp
      intro h8 F8 N8
      k_steps
      refine ⟨_, _, _, _, rfl, F8, newsSub N8 sub_leaf, ?_, by first | exact hm | assumption, n, (a, W.listOf (List.toArray (.int k ta :: (vs ++ [.ref _]))) (na + 1)) :: FF, .ref a :: V, (_, _) :: tl, (by rw [List.reverse_cons]; rfl), ?_⟩
      · intro p hp
        rcases List.mem_cons.mp hp with rfl | hp
        · exact hnI _ (.head _)
        · rcases List.mem_cons.mp hp with rfl | hp
          · have q := hnI _ (.tail _ (.head _))
            exact q
          · rcases List.mem_append.mp hp with hp | hp
            · exact hnI p (.tail _ (.tail _ (List.mem_append_left _ hp)))
            · rcases List.mem_cons.mp hp with rfl | hp
              · exact Ne.symm (Nat.ne_of_lt lD.1)
              · exact hnI p (.tail _ (.tail _ (List.mem_append_right _ hp)))
      · rw [sign_leafs hc1 hc2 hc3 hc4 hcx]
        refine pile_set (pile_grow hP lD.2.1 hlt) (TsAt.snoc (TsAt.mono (fun p hp => .tail _ hp) _ hts) ?_)
        unfold TAt
        exact ⟨_, _, 0, rfl, .head _⟩
end
section
open PySem PySem.W PyProof.Rows PySem.Calls PySem.Spec
def letters (c : Int) : List Str := (List.range 9).map fun (i : Nat) => Txt.item (Str.ofString "abcdABCD") ((c.fdiv (8 ^ ((0 : Int) + (i : Int)).toNat)).fmod 8)
theorem letters_get {c : Int} {i : Nat} {x : Str} (h : (letters c)[i]? = some x) : i < 9 ∧ x = Txt.item (Str.ofString "abcdABCD") ((c.fdiv (8 ^ ((0 : Int) + (i : Int)).toNat)).fmod 8) := by
  unfold letters at h
  rw [List.getElem?_map] at h
  obtain ⟨k, hk, rfl⟩ := Option.map_eq_some_iff.mp h
  obtain ⟨hl, rfl⟩ := List.getElem?_eq_some_iff.mp hk
  simp only [List.length_range] at hl
  exact ⟨hl, by simp⟩
theorem pow8 {i : Nat} (h : i < 9) : ((8 : Int) ^ ((0 : Int) + (i : Int)).toNat ≠ 0) ∧ ((8 : Int) ^ ((0 : Int) + (i : Int)).toNat).natAbs < 1073741824 := by
  have : ∀ i : Fin 9, ((8 : Int) ^ ((0 : Int) + ((i : Nat) : Int)).toNat ≠ 0) ∧ ((8 : Int) ^ ((0 : Int) + ((i : Nat) : Int)).toNat).natAbs < 1073741824 := by decide
  exact this ⟨i, h⟩
theorem letter_is (z : Int) : ∃ i, i < 8 ∧ Txt.item (Str.ofString "abcdABCD") (z.fmod 8) = leafS i := by
  have h : 0 ≤ z.fmod 8 ∧ z.fmod 8 < 8 := by rw [Int.fmod_eq_emod_of_nonneg _ (by decide)]; omega
  refine ⟨(z.fmod 8).toNat, by omega, ?_⟩
  unfold leafS
  congr 1
  omega
theorem fm2 (c : Int) : 0 ≤ c.fmod 2 ∧ c.fmod 2 < 2 := by rw [Int.fmod_eq_emod_of_nonneg _ (by decide)]; omega
theorem four_int {c0 c1 c2 c3 : Int} {t0 t1 t2 t3 : Tok} {i : Nat} {v : Value} (h : [Value.int c0 t0, .int c1 t1, .int c2 t2, .int c3 t3][i]? = some v) : ∃ c t, v = .int c t := by
  have := List.mem_of_getElem? h
  simp only [List.mem_cons, List.not_mem_nil, or_false] at this
  rcases this with rfl | rfl | rfl | rfl <;> exact ⟨_, _, rfl⟩
def GameJ (nw base : List (Addr × Obj)) (i : Nat) (m : Str → Option Value) (ns : List (Addr × Obj)) : Prop :=
  ∃ P ps gs n tl, m (Str.ofString "parts") = some (.ref P) ∧ ns = (P, W.listOf (List.toArray ps) n) :: (tl ++ base) ∧ GsAt tl ps gs ∧ (∀ q ∈ nw, ∀ p ∈ tl, q.1 < p.1) ∧ Oks gs ∧ Twos gs ∧ gs.length + i ≤ 9 ∧ 9 ≤ gs.length + 2 * i ∧ sizes gs ≤ 9 + i
theorem letters_gs (news : List (Addr × Obj)) : ∀ (xs : List Str) (ys : List Value), (∀ x ∈ xs, ∃ i, i < 8 ∧ x = leafS i) → StrsAre ys xs → ∃ gs, GsAt news ys gs ∧ Oks gs ∧ Twos gs ∧ gs.length = xs.length ∧ sizes gs = xs.length
  | [], _, _, .nil => ⟨[], by unfold GsAt; trivial, by unfold Oks; trivial, by unfold Twos; trivial, rfl, by unfold sizes; rfl⟩
  | x :: xs, _, h, .cons _ t hy => by
    obtain ⟨gs, h1, h2, h2', h3, h4⟩ := letters_gs news xs _ (fun y hy => h y (.tail _ hy)) hy
    obtain ⟨i, hi, rfl⟩ := h x (.head _)
    refine ⟨.leaf i :: gs, ?_, ?_, ?_, by simp [h3], ?_⟩
    · unfold GsAt
      refine ⟨?_, h1⟩
      unfold GAt
      exact ⟨t, rfl⟩
    · unfold Oks
      refine ⟨?_, h2⟩
      unfold G.Ok
      exact hi
    · unfold Twos
      refine ⟨?_, h2'⟩
      unfold G.Two
      trivial
    · unfold sizes G.size
      rw [h4, List.length_cons]
      omega
theorem letters_all (c : Int) : ∀ x ∈ letters c, ∃ i, i < 8 ∧ x = leafS i := by
  intro x hx
  unfold letters at hx
  obtain ⟨k, _, rfl⟩ := List.mem_map.mp hx
  exact letter_is _
theorem gs_cons {news : List (Addr × Obj)} {v : Value} {vs : List Value} {g : G} {gs : List G} : GsAt news (v :: vs) (g :: gs) ↔ GAt news v g ∧ GsAt news vs gs := by conv => lhs; unfold GsAt
theorem gs_nil {news : List (Addr × Obj)} : GsAt news [] [] := by unfold GsAt; trivial
theorem gs_take {news : List (Addr × Obj)} : ∀ (x : Nat) {ps : List Value} {gs : List G}, GsAt news ps gs → GsAt news (ps.take x) (gs.take x)
  | 0, _, _, _ => gs_nil
  | _ + 1, [], [], h => h
  | _ + 1, [], _ :: _, h => by unfold GsAt at h; exact h.elim
  | _ + 1, _ :: _, [], h => by unfold GsAt at h; exact h.elim
  | x + 1, _ :: _, _ :: _, h => gs_cons.mpr ⟨(gs_cons.mp h).1, gs_take x (gs_cons.mp h).2⟩
theorem gs_drop {news : List (Addr × Obj)} : ∀ (x : Nat) {ps : List Value} {gs : List G}, GsAt news ps gs → GsAt news (ps.drop x) (gs.drop x)
  | 0, _, _, h => h
  | _ + 1, [], [], h => h
  | _ + 1, [], _ :: _, h => by unfold GsAt at h; exact h.elim
  | _ + 1, _ :: _, [], h => by unfold GsAt at h; exact h.elim
  | x + 1, _ :: _, _ :: _, h => gs_drop x (gs_cons.mp h).2
theorem gs_app {news : List (Addr × Obj)} : ∀ {ps qs : List Value} {gs hs : List G}, GsAt news ps gs → GsAt news qs hs → GsAt news (ps ++ qs) (gs ++ hs)
  | [], _, [], _, _, k => k
  | [], _, _ :: _, _, h, _ => by unfold GsAt at h; exact h.elim
  | _ :: _, _, [], _, h, _ => by unfold GsAt at h; exact h.elim
  | _ :: _, _, _ :: _, _, h, k => gs_cons.mpr ⟨(gs_cons.mp h).1, gs_app (gs_cons.mp h).2 k⟩
theorem oks_iff : ∀ {gs : List G}, Oks gs ↔ ∀ g ∈ gs, g.Ok
  | [] => ⟨(fun _ _ h => nomatch h), fun _ => by unfold Oks; trivial⟩
  | g :: gs => by
    unfold Oks
    rw [oks_iff (gs := gs)]
    exact ⟨fun h g' hg => by rcases List.mem_cons.mp hg with rfl | hg; exact h.1; exact h.2 g' hg, fun h => ⟨h g (.head _), fun g' hg => h g' (.tail _ hg)⟩⟩
theorem twos_iff : ∀ {gs : List G}, Twos gs ↔ ∀ g ∈ gs, g.Two
  | [] => ⟨(fun _ _ h => nomatch h), fun _ => by unfold Twos; trivial⟩
  | g :: gs => by
    unfold Twos
    rw [twos_iff (gs := gs)]
    exact ⟨fun h g' hg => by rcases List.mem_cons.mp hg with rfl | hg; exact h.1; exact h.2 g' hg, fun h => ⟨h g (.head _), fun g' hg => h g' (.tail _ hg)⟩⟩
theorem sizes_app : ∀ (gs hs : List G), sizes (gs ++ hs) = sizes gs + sizes hs
  | [], hs => by simp [sizes]
  | g :: gs, hs => by
    have := sizes_app gs hs
    simp only [List.cons_append, sizes]
    omega
theorem sizes_cut (gs : List G) (x : Nat) : sizes (gs.take x) + sizes (gs.drop x) = sizes gs := by rw [← sizes_app, List.take_append_drop]
theorem op_is (z : Int) : Txt.item (Str.ofString "&|") (z.fmod 2) = opS (decide (z.fmod 2 = 1)) := by
  have h := fm2 z
  have e : z.fmod 2 = 0 ∨ z.fmod 2 = 1 := by omega
  rcases e with e | e <;> rw [e] <;> decide +kernel
/-- a group of the parts from x on, z of them -/
def grp (o : Bool) (x z : Nat) (gs : List G) : List G := gs.take x ++ [.node o ((gs.drop x).take z)] ++ gs.drop (x + z)
theorem grp_ok {o : Bool} {x z : Nat} {gs : List G} (hz : 2 ≤ z) (hx : x + z ≤ gs.length) (h : Oks gs) (t : Twos gs) : Oks (grp o x z gs) ∧ Twos (grp o x z gs) ∧ (grp o x z gs).length + z = gs.length + 1 ∧ sizes (grp o x z gs) = sizes gs + 1 := by
  have hl : ((gs.drop x).take z).length = z := by rw [List.length_take, List.length_drop]; omega
  have s1 := sizes_cut gs x
  have s2 := sizes_cut (gs.drop x) z
  rw [List.drop_drop] at s2
  refine ⟨oks_iff.mpr fun g hg => ?_, twos_iff.mpr fun g hg => ?_, ?_, ?_⟩
  · unfold grp at hg
    rcases List.mem_append.mp hg with hg | hg
    · rcases List.mem_append.mp hg with hg | hg
      · exact oks_iff.mp h g (List.mem_of_mem_take hg)
      · rw [List.mem_singleton.mp hg]
        unfold G.Ok
        exact ⟨fun e => by rw [e] at hl; simp at hl; omega, oks_iff.mpr fun g' hg' => oks_iff.mp h g' (List.mem_of_mem_drop (List.mem_of_mem_take hg'))⟩
    · exact oks_iff.mp h g (List.mem_of_mem_drop hg)
  · unfold grp at hg
    rcases List.mem_append.mp hg with hg | hg
    · rcases List.mem_append.mp hg with hg | hg
      · exact twos_iff.mp t g (List.mem_of_mem_take hg)
      · rw [List.mem_singleton.mp hg]
        unfold G.Two
        exact ⟨by omega, twos_iff.mpr fun g' hg' => twos_iff.mp t g' (List.mem_of_mem_drop (List.mem_of_mem_take hg'))⟩
    · exact twos_iff.mp t g (List.mem_of_mem_drop hg)
  · unfold grp
    simp only [List.length_append, List.length_take, List.length_drop, List.length_cons, List.length_nil]
    omega
  · unfold grp
    rw [sizes_app, sizes_app]
    simp only [sizes, G.size]
    omega
theorem grp_at {news news' : List (Addr × Obj)} {o : Bool} {x z t n : Nat} {Gd : Addr} {ps : List Value} {gs : List G} (h : GsAt news ps gs) (hs : ∀ p ∈ news, p ∈ news') (hG : (Gd, W.listOf (List.toArray (.str (opS o) t :: (ps.drop x).take z)) n) ∈ news') :
    GsAt news' (ps.take x ++ [.ref Gd] ++ ps.drop (x + z)) (grp o x z gs) := by
  have h' := h.mono hs
  refine gs_app (gs_app (gs_take x h') (gs_cons.mpr ⟨?_, gs_nil⟩)) (gs_drop _ h')
  unfold GAt
  exact ⟨Gd, t, _, n, rfl, hG, gs_take z (gs_drop x h')⟩
theorem fm_pos (a : Int) {b : Int} (h : 0 < b) : 0 ≤ a.fmod b ∧ a.fmod b < b := ⟨Int.fmod_nonneg_of_pos a h, Int.fmod_lt_of_pos a h⟩
end
theorem reset9 : True := by
  k_with "rec" => fail "none"
  k_with "src" => fail "none"
  k_with "my end" => fail "none"
  k_with "eq" => fail "none"
  trivial
section
open PySem PySem.W PyProof.Rows PySem.Calls PySem.Spec
local macro_rules | `(tactic| walk_at "CompSrc") => `(tactic| (k_here; k_dflt (k_extra "src")))
local macro_rules | `(tactic| walk_at "binaryOp FloorDiv int int") => `(tactic| (k_here; k_dflt (refine floordiv_int (by assumption) ?_ (Or.inl (PyProof.noPylong_small (by assumption))))))
local macro_rules | `(tactic| walk_at "subscriptTail Name Slice ref ref") => `(tactic| (k_here; (with_reducible show wpAny _ _ (subscriptTail _ (PySem.Expr.Slice (some _) (some _) none _) (Value.ref _) (Value.ref _)) _ _ _); k_dflt (refine kmk_slice_lit (by k_asm) (by k_asm) (News.isList (by k_asm) (by k_mem)) (by kmk_part) (by kmk_part) (pick_run' (by omega) (by omega)) ?_ (by with_unfolding_all rfl) (by kmk_pure) (by (rw [List.size_toArray, sizeLine_eq]; omega))); intro D' h' F' N' l1; (try k_sweep)))
local macro_rules | `(tactic| walk_at "subscriptTail Name Slice ref ref") => `(tactic| (k_here; (with_reducible show wpAny _ _ (subscriptTail _ (PySem.Expr.Slice none (some _) none _) (Value.ref _) (Value.ref _)) _ _ _); k_dflt (refine kmk_slice_lit (by k_asm) (by k_asm) (News.isList (by k_asm) (by k_mem)) (by kmk_part) (by kmk_part) (pick_upto (by omega)) ?_ (by with_unfolding_all rfl) (by kmk_pure) (by (rw [List.size_toArray, sizeLine_eq]; omega))); intro D' h' F' N' l1; (try k_sweep)))
local macro_rules | `(tactic| walk_at "subscriptTail Name Slice ref ref") => `(tactic| (k_here; (with_reducible show wpAny _ _ (subscriptTail _ (PySem.Expr.Slice (some _) none none _) (Value.ref _) (Value.ref _)) _ _ _); k_dflt (refine kmk_slice_lit (by k_asm) (by k_asm) (News.isList (by k_asm) (by k_mem)) (by kmk_part) (by kmk_part) (pick_from (by omega)) ?_ (by with_unfolding_all rfl) (by kmk_pure) (by (rw [List.size_toArray, sizeLine_eq]; omega))); intro D' h' F' N' l1; (try k_sweep)))
local macro_rules | `(tactic| walk_at "binaryOp Add ref ref") => `(tactic| (k_here; k_dflt (refine add_lists' (by k_asm) (by k_asm) (by k_mem) (by k_mem) (by (simp only [List.length_cons, List.length_nil, List.length_append, List.length_take, List.length_drop]; omega)) ?_); intro D' h' F' N' l1; (try k_sweep)))
theorem app_two {α : Type} {x a b : α} {tl base : List α} : x :: (tl ++ a :: b :: base) = (x :: (tl ++ [a, b])) ++ base := by simp
theorem sub_end {α : Type} {c b s : α} {news X tl : List α} (h : c :: news = X) : ∀ p ∈ tl ++ news, p ∈ b :: (tl ++ s :: X) := by
  subst h
  intro p hp
  simp only [List.mem_cons, List.mem_append] at hp ⊢
  rcases hp with h | h <;> simp [h]
theorem sub_end2 {α : Type} {c a b e s : α} {news X tl : List α} (h : c :: news = X) : ∀ p ∈ a :: tl ++ news, p ∈ a :: b :: e :: (tl ++ s :: X) := by
  subst h
  intro p hp
  simp only [List.mem_cons, List.mem_append] at hp ⊢
  rcases hp with (h | h) | h <;> simp [h]
theorem mem_of_eq {α : Type} {a : α} {l X : List α} (h : a :: l = X) : a ∈ X := h ▸ .head _
theorem sub_game {α : Type} {a0 a1 a2 a3 a4 a5 a6 a7 a9 i : α} {tl base : List α} : ∀ p ∈ i :: a0 :: (a5 :: tl ++ base), p ∈ a0 :: a1 :: a2 :: a3 :: a4 :: a5 :: a6 :: a7 :: i :: a9 :: (tl ++ base) := by
  intro p hp
  simp only [List.mem_cons, List.mem_append] at hp ⊢
  rcases hp with h | h | (h | h) | h <;> simp [h]
def GamePost (news : List (Addr × Obj)) (r : Value) (n' : List (Addr × Obj)) : Prop :=
  ∃ g tl, n' = tl ++ news ∧ GAt tl r g ∧ (∀ q ∈ news, ∀ p ∈ tl, q.1 < p.1) ∧ g.Ok ∧ g.Two ∧ g.size ≤ 14
set_option maxHeartbeats 0 in
theorem game_spec (w : World) (news : List (Addr × Obj)) (C n : Nat) (c0 c1 c2 c3 c4 c5 : Int) (t0 t1 t2 t3 t4 t5 : Nat) (hC : (C, W.listOf #[.int c0 t0, .int c1 t1, .int c2 t2, .int c3 t3, .int c4 t4, .int c5 t5] n) ∈ news) :
    Sp w 295 ⟨[.ref C], []⟩ news 10 300 (GamePost news) := by
  intro p loose mean mg mb dp un gd env outer A₀ base h₀ L m s R B F X N T hfe hke hd hu ret
  k_dflt ktr_enter
  k_with "src" => (refine LCg.CompSrc.range (n := 9) (by rfl) (by k_asm) (by k_asm) (by assumption) (by decide) (by decide) (by rw [sizeLine_eq]; omega) (fun g1 => ?_); refine comp_strs (letters c4) trivial (fun i x' hx' v I oI C' oC D ys m₂ h tk E' hP hC' hm F5 N5 => ?_) (fun ys hys => ?_) _ 0 [] (by rfl) .nil)
  k_steps
  case' _ =>
    obtain ⟨hi9, rfl⟩ := letters_get hx'
    obtain ⟨tv, rfl⟩ := hP
    obtain ⟨hp1, hp2⟩ := pow8 hi9
    have hi0 : (0 : Int) ≤ 0 + (i : Int) := by omega
    have hi1 : (0 : Int) + (i : Int) < 9 := by omega
    k_steps
  · assumption
  · assumption
  rename_i S hS eF eN l5
  obtain ⟨gs0, k1, k2, k2', k3, k4⟩ := letters_gs [] (letters c4) ys (letters_all c4) hys
  have k5 : (letters c4).length = 9 := rfl
  generalize hX : (_ :: news : List (Addr × Obj)) = X at eN
  refine iter_listB (vs := [.int c0 t0, .int c1 t1, .int c2 t2, .int c3 t3]) (by rfl) (.tail _ (.head _)) eF (newsSub eN sub_swap) (GameJ news ((S, W.listOf #[.int c0 t0, .int c1 t1, .int c2 t2, .int c3 t3] 0) :: X)) (GameJ news ((S, W.listOf #[.int c0 t0, .int c1 t1, .int c2 t2, .int c3 t3] 0) :: X) 4) ?hJk ?hJ0 ?hJF ?turn ?fin
  case hJ0 => exact ⟨_, ys, gs0, _, [], rfl, rfl, k1, (fun _ _ _ hp => nomatch hp), k2, k2', by omega, by omega, by omega⟩
  case hJk =>
    rintro i m5 ns ⟨P, ps, gs, n5, tl, -, rfl, -⟩
    exact .tail _ (List.mem_append_right _ (.head _))
  case hJF => exact fun m5 ns h => h
  case fin =>
    rintro h tk m5 ns ⟨P, ps, gs, n5, tl, hm, rfl, hgs, hfr, hok, htw, h1, h2, h3⟩ F5 N5
    have psl := hgs.len
    by_cases h1p : gs.length = 1
    · match gs, ps, hgs, h1p with
      | [g1], [v1], hgs, _ =>
        clear k1 hys
        k_steps
        rename Fr h₀ _ _ _ => gF
        rename News h₀ _ _ _ => gN
        unfold Oks at hok
        unfold Twos at htw
        simp only [sizes] at h3
        exact ret _ _ _ _ gF (newsSub gN (sub_end hX)) ⟨g1, tl, rfl, (gs_cons.mp hgs).1, hfr, hok.1, htw.1, by omega⟩
    · rename _ = Data.cell _ => hcd
      rename Obj => oCell
      replace hcd : oCell.data = .cell (some (.ref C)) := hcd
      have hm0 := mem_of_eq hX
      have hm1 := List.mem_append_right tl (List.Mem.tail (S, W.listOf #[Value.int c0 t0, Value.int c1 t1, Value.int c2 t2, Value.int c3 t3] 0) hm0)
      have hm2 : (C, W.listOf #[.int c0 t0, .int c1 t1, .int c2 t2, .int c3 t3, .int c4 t4, .int c5 t5] n) ∈ tl ++ (S, W.listOf #[Value.int c0 t0, Value.int c1 t1, Value.int c2 t2, Value.int c3 t3] 0) :: X := List.mem_append_right _ (.tail _ (hX ▸ .tail _ hC))
      clear k1 hys
      k_steps
      rename Fr h₀ _ _ _ => gF
      rename News h₀ _ _ _ => gN
      rw [op_is] at gN
      rename (∀ p : Addr × Obj, p ∈ _ :: _ → p.1 < _) => lZ
      refine ret _ _ _ _ gF (newsSub gN (sub_end2 hX)) ⟨.node (decide ((c3.fdiv 3360).fmod 2 = 1)) gs, _ :: tl, rfl, ?_, ?_, ?_, ?_, by rw [node_size]; omega⟩
      · unfold GAt
        exact ⟨_, _, ps, 0, rfl, .head _, hgs.mono fun p hp => .tail _ hp⟩
      · intro q hq p hp
        rcases List.mem_cons.mp hp with rfl | hp
        · exact lZ q (.tail _ (.tail _ (List.mem_append_right _ (.tail _ (hX ▸ .tail _ hq)))))
        · exact hfr q hq p hp
      · unfold G.Ok
        exact ⟨fun e => by rw [e] at h2; simp at h2, hok⟩
      · unfold G.Two
        exact ⟨by omega, htw⟩
  case turn =>
    rintro I hI i v m₁ news₁ h tk oI hv ⟨P, ps, gs, n5, tl, hm, rfl, hgs, hfr, hok, htw, h1, h2, h3⟩ hnI F5 N5
    have hi4 : i < 4 := (List.getElem?_eq_some_iff.mp hv).1
    obtain ⟨c, tc, rfl⟩ := four_int hv
    have hc2 := fm2 c
    have psl := hgs.len
    have hM : 0 < (ps.length : Int) - (2 + c.fmod 2) + 1 := by omega
    have hpl := fm_pos (c.fdiv 2) hM
    clear hM
    k_steps
    rename_i lG _ _ _ _ _ _ _ _ _ _ _ _ _ _ _ _ lZ _ eF eN
    have hz2 : 2 ≤ (2 + c.fmod 2).toNat ∧ (2 + c.fmod 2).toNat ≤ 3 := by omega
    have hxz : ((c.fdiv 2).fmod ((ps.length : Int) - (2 + c.fmod 2) + 1)).toNat + (2 + c.fmod 2).toNat ≤ gs.length := by omega
    have ey : ((c.fdiv 2).fmod ((ps.length : Int) - (2 + c.fmod 2) + 1) + (2 + c.fmod 2)).toNat = ((c.fdiv 2).fmod ((ps.length : Int) - (2 + c.fmod 2) + 1)).toNat + (2 + c.fmod 2).toNat := by omega
    rw [ey, Nat.add_sub_cancel_left, op_is] at eN
    obtain ⟨o1, o2, o3, o4⟩ := grp_ok (o := decide ((c.fdiv 1680).fmod 2 = 1)) hz2.1 hxz hok htw
    have nZ := lZ _ (.tail _ (.tail _ (.tail _ (.tail _ (.tail _ (.tail _ (.tail _ (.head _))))))))
    have nG := lG _ (.tail _ (.tail _ (.head _)))
    have lG2 := fun (q : Addr × Obj) (hq : q ∈ news) => lG q (.tail _ (.tail _ (.tail _ (.tail _ (List.mem_append_right _ (.tail _ (hX ▸ .tail _ hq)))))))
    have hfr9 : ∀ d : Addr × Obj, (∀ q ∈ news, q.1 < d.1) → ∀ q ∈ news, ∀ p ∈ d :: tl, q.1 < p.1 := fun d hd q hq p hp => by
      rcases List.mem_cons.mp hp with rfl | hp
      · exact hd q hq
      · exact hfr q hq p hp
    refine ⟨_, _, _, _, rfl, eF, newsSub eN sub_game, ?_, _, _, _, 0, (_, _) :: tl, rfl, rfl, grp_at hgs (fun p hp => .tail _ hp) (.head _), hfr9 _ lG2, o1, o2, by omega, by omega, by omega⟩
    intro p hp
    rcases List.mem_cons.mp hp with rfl | hp
    · exact Ne.symm (Nat.ne_of_lt nZ)
    · rcases List.mem_cons.mp hp with rfl | hp
      · exact Ne.symm (Nat.ne_of_lt nG)
      · exact hnI p (.tail _ hp)
end
section
open PySem PySem.W PyProof.Rows PySem.Calls PySem.Spec
/-! comprehensions that grow the ledger -/
section
open LCg
variable {prog : Program} {w : World} {A : Around} {h₀ : Heap} {L : Addr} {m : Str → Option Value} {env : Env} {elt : Expr} {x : Str} {scope : Scope} {cl : List (Str × Addr)} {s : Shared} {S : List (Addr × Obj) → Prop} {P : Nat → Value → Prop}
  {Fin : List Value → List (Addr × Obj) → Prop}
def LedEnd (h₀ : Heap) (L : Addr) (m : Str → Option Value) (s : Shared) (I : Addr) (oI : Obj) (C : Addr) (oC : Obj) (D : Addr) (ys : List Value) (Jn : List Value → List (Addr × Obj) → Prop) (y : Value) (s' : Shared) : Prop :=
  ∃ h' tk' ns', s' = { s with heap := h', toks := tk' } ∧ Fr h₀ L h' m ∧ News h₀ L h' ((I, oI) :: (C, oC) :: (D, lst ys) :: ns') ∧ Off3 I C D ns' ∧ Jn (ys ++ [y]) ns'
theorem comp_led (n : Nat) (J : Nat → List Value → List (Addr × Obj) → Prop) (hS : ∀ i ys ns, J i ys ns → S ns)
    (elem : ∀ i ys ns, i < n → J i ys ns → ∀ (v : Value) (I : Addr) (oI : Obj) (C : Addr) (oC : Obj) (D : Addr) (m₂ : Str → Option Value) (h : Heap) (tk : Nat) (E' : Value → Shared → Prop), P i v → NsObj oC m₂ → m₂ x = some v → Fr h₀ L h m → News h₀ L h ((I, oI) :: (C, oC) :: (D, lst ys) :: ns) → Off3 I C D ns →
      wpAny (model prog w) A (eval elt (compEnvC scope cl C env)) (LedEnd h₀ L m s I oI C oC D ys (J (i + 1))) E' { s with heap := h, toks := tk })
    (fin : ∀ ys ns, J n ys ns → Fin ys ns) : ∀ k i ys ns, i + k = n → J i ys ns → CompRest prog w A h₀ L m env elt x scope cl s S P Fin k i ys ns
  | 0, i, ys, ns, hi, hJ => CompRest.zero (fin ys ns (by rw [Nat.add_zero] at hi; subst hi; exact hJ))
  | k + 1, i, ys, ns, hi, hJ => by
    refine CompRest.succ fun v I oI C oC D m₂ h tk E' hP hC hm F N off ne => ?_
    refine wpAny_mono (elem i ys ns (by omega) hJ v I oI C oC D m₂ h tk E' hP hC hm F N off) (fun y s' hy' => ?_) fun _ _ e => e
    obtain ⟨h', tk', ns', rfl, F', N', off', hJ'⟩ := hy'
    exact ⟨h', tk', ns', rfl, F', N', off', hS _ _ _ hJ', comp_led n J hS elem fin k (i + 1) _ _ (by omega) hJ'⟩
end
theorem led_put {h₀ : Heap} {L : Addr} {m : Str → Option Value} {s : Shared} {I : Addr} {oI : Obj} {C : Addr} {oC : Obj} {D l : Addr} {ol : Obj} {ys : List Value} {Jn : List Value → List (Addr × Obj) → Prop} {y : Value} {h' : Heap} {tk' : Nat} {ns : List (Addr × Obj)}
    (F : Fr h₀ L h' m) (N : News h₀ L h' ((l, ol) :: (I, oI) :: (C, oC) :: (D, LCg.lst ys) :: ns)) (hl : ∀ p ∈ (I, oI) :: (C, oC) :: (D, LCg.lst ys) :: ns, p.1 < l) (off : LCg.Off3 I C D ns) (hJ : Jn (ys ++ [y]) ((l, ol) :: ns)) : LedEnd h₀ L m s I oI C oC D ys Jn y { s with heap := h', toks := tk' } := by
  refine ⟨h', tk', (l, ol) :: ns, rfl, F, newsSub N ?_, ⟨⟨Ne.symm (Nat.ne_of_lt (hl _ (.head _))), Ne.symm (Nat.ne_of_lt (hl _ (.tail _ (.head _)))), Ne.symm (Nat.ne_of_lt (hl _ (.tail _ (.tail _ (.head _)))))⟩, off⟩, hJ⟩
  intro p hp
  simp only [List.mem_cons] at hp ⊢
  rcases hp with h | h | h | h | h <;> simp [h]
theorem sub_put3 {α : Type} {a b c d : α} {X : List α} : ∀ p ∈ a :: b :: c :: d :: X, p ∈ d :: a :: b :: c :: X := by
  intro p hp
  simp only [List.mem_cons] at hp ⊢
  rcases hp with h | h | h | h | h <;> simp [h]
/-! the words of the four letters -/
def figOf (c : Int) (i : Nat) : Nat := ((c.fdiv (27 ^ ((0 : Int) + (i : Int)).toNat)).fmod 27).toNat
theorem fm27 (z : Int) : 0 ≤ z.fmod 27 ∧ z.fmod 27 < 27 := fm_pos z (by decide)
theorem fig_lt (c : Int) (i : Nat) : figOf c i < 27 := by
  have := fm27 (c.fdiv (27 ^ ((0 : Int) + (i : Int)).toNat))
  unfold figOf
  omega
theorem pow27 {i : Nat} (h : i < 4) : ((27 : Int) ^ ((0 : Int) + (i : Int)).toNat ≠ 0) ∧ ((27 : Int) ^ ((0 : Int) + (i : Int)).toNat).natAbs < 1073741824 := by
  have : ∀ i : Fin 4, ((27 : Int) ^ ((0 : Int) + ((i : Nat) : Int)).toNat ≠ 0) ∧ ((27 : Int) ^ ((0 : Int) + ((i : Nat) : Int)).toNat).natAbs < 1073741824 := by decide
  exact this ⟨i, h⟩
def WordsAt (ns : List (Addr × Obj)) (fig : Nat → Nat) (ys : List Value) : Prop :=
  ∀ j, j < ys.length → ∃ l vs n, ys[j]? = some (.ref l) ∧ (l, W.listOf (List.toArray vs) n) ∈ ns ∧ StrsAre vs (wordsOf (fig j))
theorem WordsAt.mono {ns ns' : List (Addr × Obj)} {fig : Nat → Nat} {ys : List Value} (h : WordsAt ns fig ys) (hs : ∀ p ∈ ns, p ∈ ns') : WordsAt ns' fig ys := fun j hj => by
  obtain ⟨l, vs, n, a, b, c⟩ := h j hj
  exact ⟨l, vs, n, a, hs _ b, c⟩
theorem WordsAt.snoc {ns : List (Addr × Obj)} {fig : Nat → Nat} {ys vs : List Value} {l : Addr} {n : Nat} (h : WordsAt ns fig ys) (hm : (l, W.listOf (List.toArray vs) n) ∈ ns) (hv : StrsAre vs (wordsOf (fig ys.length))) : WordsAt ns fig (ys ++ [.ref l]) := fun j hj => by
  rw [List.length_append, List.length_singleton] at hj
  by_cases e : j < ys.length
  · obtain ⟨l', vs', n', a, b, c⟩ := h j e
    exact ⟨l', vs', n', by rw [List.getElem?_append_left e]; exact a, b, c⟩
  · obtain rfl : j = ys.length := by omega
    exact ⟨l, vs, n, by simp, hm, hv⟩
def WordsJ (base : List (Addr × Obj)) (fig : Nat → Nat) (i : Nat) (ys : List Value) (ns : List (Addr × Obj)) : Prop :=
  ys.length = i ∧ ∃ adds, ns = adds ++ base ∧ WordsAt adds fig ys ∧ ∀ q ∈ base, ∀ p ∈ adds, q.1 < p.1
theorem words_next {base adds : List (Addr × Obj)} {fig : Nat → Nat} {ys vs : List Value} {l : Addr} (hw : WordsAt adds fig ys) (hfr : ∀ q ∈ base, ∀ p ∈ adds, q.1 < p.1) (hl : ∀ q ∈ base, q.1 < l) (hv : StrsAre vs (wordsOf (fig ys.length))) :
    WordsJ base fig (ys.length + 1) (ys ++ [.ref l]) ((l, W.listOf (List.toArray vs) 0) :: (adds ++ base)) :=
  ⟨by simp, (l, W.listOf (List.toArray vs) 0) :: adds, rfl, (hw.mono fun p hp => .tail _ hp).snoc (.head _) hv, fun q hq p hp => by
    rcases List.mem_cons.mp hp with rfl | hp
    · exact hl q hq
    · exact hfr q hq p hp⟩
theorem off1_mem {D : Addr} {l : List (Addr × Obj)} (x : LCg.Off1 D l) : ∀ p ∈ l, p.1 ≠ D := by
  induction l with
  | nil => intro p h; cases h
  | cons a l ih =>
    intro p h
    rcases List.mem_cons.mp h with e | h
    · rw [e]; exact x.1
    · exact ih x.2 p h
theorem game_apart {a b c : Addr × Obj} {tl : List (Addr × Obj)} (hfr : ∀ q ∈ [a, b, c], ∀ p ∈ tl, q.1 < p.1) (hab : b.1 < a.1) (hcb : c.1 < b.1) : ∀ p ∈ tl ++ [a, c], p.1 ≠ b.1 := fun p hp => by
  rcases List.mem_append.mp hp with hp | hp
  · exact Ne.symm (Nat.ne_of_lt (hfr b (.tail _ (.head _)) p hp))
  · rcases List.mem_cons.mp hp with rfl | hp
    · exact Ne.symm (Nat.ne_of_lt hab)
    · rw [List.mem_singleton.mp hp]; exact Nat.ne_of_lt hcb
theorem sub_cell {α : Type} {a b c : α} {tl : List α} : ∀ p ∈ b :: (tl ++ [a, c]), p ∈ tl ++ [a, b, c] := by
  intro p hp
  simp only [List.mem_cons, List.mem_append, List.not_mem_nil, or_false] at hp ⊢
  rcases hp with h | h | h | h <;> simp [h]
def Stopped (p : Prop) : Prop := p
theorem Stopped.out {p : Prop} (h : Stopped p) : p := h
theorem Stopped.mk {p : Prop} (h : p) : Stopped p := h
theorem game_after {h₀ h : Heap} {L : Addr} {a b c : Addr × Obj} {tl : List (Addr × Obj)} {r : Value} {g : G} (N : News h₀ L h (tl ++ [a, b, c])) (hfr : ∀ q ∈ [a, b, c], ∀ p ∈ tl, q.1 < p.1) (hab : b.1 < a.1) (hcb : c.1 < b.1) (hg : GAt tl r g) :
    ∃ T, News h₀ L h (b :: T) ∧ (∀ adds, a ∈ adds ++ b :: T) ∧ (∀ adds, c ∈ adds ++ b :: T) ∧ GAt T r g ∧ ∀ p ∈ T, p.1 ≠ b.1 :=
  ⟨tl ++ [a, c], newsSub N sub_cell, fun _ => List.mem_append_right _ (.tail _ (List.mem_append_right _ (.head _))), fun _ => List.mem_append_right _ (.tail _ (List.mem_append_right _ (.tail _ (.head _)))), hg.mono fun p hp => List.mem_append_left _ hp, game_apart hfr hab hcb⟩
theorem words_after {h₀ h : Heap} {L D : Addr} {b : Addr × Obj} {T : List (Addr × Obj)} {r : Value} {g : G} {ys : List Value} {ns : List (Addr × Obj)} {fig : Nat → Nat} (N : News h₀ L h ((D, LCg.lst ys) :: ns)) (o : LCg.Off1 D ns) (hJ : WordsJ (b :: T) fig 4 ys ns) (hap : ∀ p ∈ T, p.1 ≠ b.1) (hg : GAt T r g) :
    ∃ T2, News h₀ L h (b :: T2) ∧ (D, W.listOf ys.toArray ys.length) ∈ T2 ∧ WordsAt T2 fig ys ∧ GAt T2 r g ∧ (∀ p ∈ T2, p.1 ≠ b.1) ∧ ys.length = 4 := by
  obtain ⟨hl, adds, rfl, hw, hfr⟩ := hJ
  refine ⟨(D, LCg.lst ys) :: (adds ++ T), newsSub N ?_, .head _, hw.mono fun p hp => .tail _ (List.mem_append_left _ hp), hg.mono fun p hp => .tail _ (List.mem_append_right _ hp), ?_, hl⟩
  · intro p hp
    simp only [List.mem_cons, List.mem_append] at hp ⊢
    rcases hp with h | h | h | h <;> simp [h]
  · intro p hp
    rcases List.mem_cons.mp hp with rfl | hp
    · exact Ne.symm (off1_mem o b (List.mem_append_right _ (.head _)))
    · rcases List.mem_append.mp hp with hp | hp
      · exact Ne.symm (Nat.ne_of_lt (hfr b (.head _) p hp))
      · exact hap p hp
/-! the table -/
def letterS (j : Nat) : Str := Txt.item (Str.ofString "abcd") ((0 : Int) + (j : Int))
theorem letter_abcd : letterS 0 = Str.ofString "a" ∧ letterS 1 = Str.ofString "b" ∧ letterS 2 = Str.ofString "c" ∧ letterS 3 = Str.ofString "d" := by decide +kernel
theorem join_fig : ∀ n : Fin 27, Txt.join (Str.ofString " ") (wordsOf n) = joined n ∧ ((wordsOf n).map (·.length)).sum + (wordsOf n).length * (Str.ofString " ").length ≤ 16777216 := by decide +kernel
section
variable {prog : Program} {w : World} {A : Around} {E : Value → Shared → Prop} {s : Shared} {h₀ : Heap} {L : Addr} {news : List (Addr × Obj)}
theorem join_words {l k n : Nat} {vs : List Value} {t : Tok} {Q : Value → Shared → Prop} (N : News h₀ L s.heap news) (hm : (l, W.listOf vs.toArray k) ∈ news) (hv : StrsAre vs (wordsOf n)) (hn : n < 27) (h : ∀ t' k, Q (.str (joined n) t') { s with toks := k }) :
    wpAny (model prog w) A (call (.builtin "str.join") [.str (Str.ofString " ") t, .ref l]) Q E s :=
  join_list (News.isList N hm) hv (join_fig ⟨n, hn⟩).2 fun t' k => (join_fig ⟨n, hn⟩).1 ▸ h t' k
end
def TupsAt (ns : List (Addr × Obj)) (fig : Nat → Nat) (ys : List Value) : Prop :=
  ∀ j, j < ys.length → ∃ T a b, ys[j]? = some (.ref T) ∧ (T, tup2 (letterS j) a (joined (fig j)) b) ∈ ns
theorem TupsAt.mono {ns ns' : List (Addr × Obj)} {fig : Nat → Nat} {ys : List Value} (h : TupsAt ns fig ys) (hs : ∀ p ∈ ns, p ∈ ns') : TupsAt ns' fig ys := fun j hj => by
  obtain ⟨T, a, b, c, d⟩ := h j hj
  exact ⟨T, a, b, c, hs _ d⟩
theorem TupsAt.snoc {ns : List (Addr × Obj)} {fig : Nat → Nat} {ys : List Value} {T a b : Nat} (h : TupsAt ns fig ys) (hm : (T, tup2 (letterS ys.length) a (joined (fig ys.length)) b) ∈ ns) : TupsAt ns fig (ys ++ [.ref T]) := fun j hj => by
  rw [List.length_append, List.length_singleton] at hj
  by_cases e : j < ys.length
  · obtain ⟨T', a', b', c, d⟩ := h j e
    exact ⟨T', a', b', by rw [List.getElem?_append_left e]; exact c, d⟩
  · obtain rfl : j = ys.length := by omega
    exact ⟨T, a, b, by simp, hm⟩
def TableJ (base : List (Addr × Obj)) (fig : Nat → Nat) (i : Nat) (ys : List Value) (ns : List (Addr × Obj)) : Prop :=
  ys.length = i ∧ ∃ adds, ns = adds ++ base ∧ TupsAt adds fig ys
theorem table_next {base adds : List (Addr × Obj)} {fig : Nat → Nat} {ys : List Value} {T a b : Nat} (hw : TupsAt adds fig ys) :
    TableJ base fig (ys.length + 1) (ys ++ [.ref T]) ((T, tup2 (letterS ys.length) a (joined (fig ys.length)) b) :: (adds ++ base)) :=
  ⟨by simp, (T, tup2 (letterS ys.length) a (joined (fig ys.length)) b) :: adds, rfl, (hw.mono fun p hp => .tail _ hp).snoc (.head _)⟩
theorem len_four {ys : List Value} (h : ys.length = 4) : ∃ a b c d, ys = [a, b, c, d] := match ys, h with
  | [a, b, c, d], _ => ⟨a, b, c, d, rfl⟩
theorem table_after {h₀ h : Heap} {L D : Addr} {base ns : List (Addr × Obj)} {ys : List Value} {fig : Nat → Nat} (N : News h₀ L h ((D, LCg.lst ys) :: ns)) (hJ : TableJ base fig 4 ys ns) :
    ∃ T5 T0 T1 T2 T3 a0 a1 a2 a3 b0 b1 b2 b3, News h₀ L h T5 ∧ (∀ p ∈ base, p ∈ T5) ∧ (D, W.listOf #[.ref T0, .ref T1, .ref T2, .ref T3] 4) ∈ T5 ∧
      (T0, tup2 (Str.ofString "a") a0 (joined (fig 0)) b0) ∈ T5 ∧ (T1, tup2 (Str.ofString "b") a1 (joined (fig 1)) b1) ∈ T5 ∧ (T2, tup2 (Str.ofString "c") a2 (joined (fig 2)) b2) ∈ T5 ∧ (T3, tup2 (Str.ofString "d") a3 (joined (fig 3)) b3) ∈ T5 := by
  obtain ⟨hl, adds, rfl, ht⟩ := hJ
  obtain ⟨e0, e1, e2, e3⟩ := letter_abcd
  obtain ⟨v0, v1, v2, v3, rfl⟩ := len_four hl
  · obtain ⟨T0, a0, b0, q0, m0⟩ := ht 0 (by simp)
    obtain ⟨T1, a1, b1, q1, m1⟩ := ht 1 (by simp)
    obtain ⟨T2, a2, b2, q2, m2⟩ := ht 2 (by simp)
    obtain ⟨T3, a3, b3, q3, m3⟩ := ht 3 (by simp)
    obtain rfl : v0 = .ref T0 := by simpa using q0
    obtain rfl : v1 = .ref T1 := by simpa using q1
    obtain rfl : v2 = .ref T2 := by simpa using q2
    obtain rfl : v3 = .ref T3 := by simpa using q3
    rw [e0] at m0
    rw [e1] at m1
    rw [e2] at m2
    rw [e3] at m3
    exact ⟨_, T0, T1, T2, T3, a0, a1, a2, a3, b0, b1, b2, b3, N, fun p hp => .tail _ (List.mem_append_right _ hp), .head _, .tail _ (List.mem_append_left _ m0), .tail _ (List.mem_append_left _ m1), .tail _ (List.mem_append_left _ m2), .tail _ (List.mem_append_left _ m3)⟩
theorem cell_gen {h₀ h : Heap} {L : Addr} {c : Addr × Obj} {T2 : List (Addr × Obj)} (N : News h₀ L h (c :: T2)) : ∃ T4, News h₀ L h T4 ∧ (∀ p ∈ T2, p ∈ T4) ∧ c ∈ T4 := ⟨_, N, subS subR, .head _⟩
theorem joined_clean : ∀ n : Fin 27, (∀ c ∈ (joined n).cps.toList, 32 ≤ c ∧ c < 127) ∧ (joined n).length ≤ 1000 := by decide +kernel
theorem joined_cl {n : Nat} (h : n < 27) : (∀ c ∈ (joined n).cps.toList, 32 ≤ c ∧ c < 127) ∧ (joined n).length ≤ 1000 := joined_clean ⟨n, h⟩
theorem abcd_clean : ((∀ c ∈ (Str.ofString "a").cps.toList, 32 ≤ c ∧ c < 127) ∧ (Str.ofString "a").length ≤ 1000) ∧ ((∀ c ∈ (Str.ofString "b").cps.toList, 32 ≤ c ∧ c < 127) ∧ (Str.ofString "b").length ≤ 1000) ∧
    ((∀ c ∈ (Str.ofString "c").cps.toList, 32 ≤ c ∧ c < 127) ∧ (Str.ofString "c").length ≤ 1000) ∧ ((∀ c ∈ (Str.ofString "d").cps.toList, 32 ≤ c ∧ c < 127) ∧ (Str.ofString "d").length ≤ 1000) := by decide +kernel
end
section
open PySem PySem.W PyProof.Rows PySem.Calls PySem.Spec PyProof.V
/-! a dict comprehension over a range, assigned to a local name -/
def ksOf (a : Int) : Nat → List Int
  | 0 => []
  | n + 1 => a :: ksOf (a + 1) n
theorem ints_ks : ∀ (vs : List Value) (a : Int), (∀ (j : Nat) (v : Value), vs[j]? = some v → ∃ t, v = Value.int (a + (j : Int)) t) → AreOf ItemKind.int vs (ksOf a vs.length)
  | [], _, _ => .nil
  | v :: vs, a, h => by
    refine .cons ?_ (ints_ks vs (a + 1) fun j v' hv => ?_)
    · obtain ⟨t, rfl⟩ := h 0 v rfl
      exact ⟨t, by simp⟩
    · obtain ⟨t, rfl⟩ := h (j + 1) v' hv
      exact ⟨t, by congr 1; omega⟩
def StrEnd (x : Str) (s₂ : Shared) (y : Value) (s₃ : Shared) : Prop := (∃ t, y = .str x t) ∧ Keeps s₂ s₃
def DictSrcR (prog : Program) (w : World) (A : Around) (h₀ : Heap) (L : Addr) (m : Str → Option Value) (env : Env) (kx vx : PySem.Expr) (x y : Str) (scope : Scope) (cl : List (Str × Addr)) (Q : Flow → Shared → Prop) (xv : Value) (s₁ : Shared) : Prop :=
  ∃ r n t u v news, ∃ kf d : Int → Str, xv = .ref r ∧ A.handled = none ∧ Fr h₀ L s₁.heap m ∧ News h₀ L s₁.heap news ∧ IsRange s₁.heap r 0 ((n : Nat) : Int) 1 t u v ∧ Builtin.Range.small 0 ((n : Nat) : Int) 1 = true ∧ n ≤ sizeLine ∧
    (∀ C (i : Nat) tv s₂ m₂ (E' : Value → Shared → Prop), i < n → s₂.heap.Ns (compEnvC scope cl C env).locals m₂ → m₂ x = some (.int ((0 : Int) + (i : Int)) tv) → Fr h₀ L s₂.heap m → News h₀ L s₂.heap news →
      wpAny (model prog w) A (eval kx (compEnvC scope cl C env)) (StrEnd (kf ((0 : Int) + (i : Int))) s₂) E' s₂) ∧
    (∀ C (i : Nat) tv s₂ m₂ (E' : Value → Shared → Prop), i < n → s₂.heap.Ns (compEnvC scope cl C env).locals m₂ → m₂ x = some (.int ((0 : Int) + (i : Int)) tv) → Fr h₀ L s₂.heap m → News h₀ L s₂.heap news →
      wpAny (model prog w) A (eval vx (compEnvC scope cl C env)) (StrEnd (d ((0 : Int) + (i : Int))) s₂) E' s₂) ∧
    (∀ D o kvs h' tk, Fr h₀ L h' (fun z => if z = y then some (.ref D) else m z) → News h₀ L h' ((D, o) :: news) → (∀ p ∈ news, p.1 < D) → (sysModules < h₀.objs.size → (D == sysModules) = false) → o.IsDictOf (strKind prog w) kvs → FlatPairs PyData.str kvs (putAll PyData.str kf (fun i => .str (d i)) (ksOf 0 n)) → Q .next { s₁ with heap := h', toks := tk })
section
variable {prog : Program} {w : World} {A : Around} {E : Value → Shared → Prop} {s : Shared} {h₀ : Heap} {L : Addr} {m : Str → Option Value} {env : Env}
theorem newDict_conj {M : Model} {G : Value → Shared → Prop} (H : wpAny M A newDict G E s) : wpAny M A newDict (fun a s' => G a s' ∧ a = .ref s.heap.objs.size) E s := fun Γ p hΓ => ⟨H Γ p hΓ, rfl⟩
theorem Assign_DictComp_R {kx vx iter : PySem.Expr} {x y : Str} {px py : Pos} {scope : Scope} {cl : List (Str × Addr)} {pos spos : Pos} {Q : Flow → Shared → Prop} (_F₀ : Fr h₀ L s.heap m)
    (hL : env.locals = L) (hsw : swapsWith (.DictComp kx vx [⟨.Name x px, iter, [], 0⟩] scope pos) (some (.Name y py)) spos.line env = pure true)
    (hclos : closureFor scope env = pure cl) (hcell : ∀ z ∈ scope.names, z.2 ≠ .cell) (hkind : scope.kind = .function)
    (hnames : ∀ z ∈ scope.names, z.2 = .local → scope.names.lookup z.1 = some .local) (hx : scope.names.lookup x = some .local)
    (hy : env.kindOf y = some .local) (hp : (env.scope.kind == .class || (env.scope.kind == .module && env.locals != env.globals)) = false)
    (h : wpAny (model prog w) A (eval iter env) (DictSrcR prog w A h₀ L m env kx vx x y scope cl Q) E s)
    (hs : ∀ x, foldedSetIterable iter env x = pure x) :
    wpAny (model prog w) A (exec (.Assign [.Name y py] (.DictComp kx vx [⟨.Name x px, iter, [], 0⟩] scope pos) spos) env) Q E s := by
  subst hL
  rw [exec_Assign_Name_used _ _ _ _ hsw]
  refine wpAny_bind (wpAny_standAt (wpAny_bind ?_))
  show wpAny _ A (do let _ ← comprehension (.DictComp kx vx [⟨.Name x px, iter, [], 0⟩] scope pos) scope env _ newDict false (eval iter env) (some (assign (.Name y py) env))) _ _ s
  refine wpAny_bind (wpAny_mono (wpAny_comprehension_free (use := some (assign (.Name y py) env)) (Q := fun _ s' => Q .next s') rfl hs hclos hkind hnames
    (wpAny_mono h (fun xv s₁ h₁ => ?_) fun _ _ e => e)) (fun _ s' hq => wpAny_pure (wpAny_pure hq)) fun _ _ e => e)
  obtain ⟨r, n, t, u, v, news, kf, d, rfl, hh, F, N, hr, hsm, hsz, hkey, hval, hQ⟩ := h₁
  have hn : Builtin.Range.rangeSize 0 ((n : Nat) : Int) 1 = (n : Int) := by rw [rangeSize_one]; split <;> omega
  refine wpAny_pyIter_range hr hsm ?_
  generalize hob : ({ cls := .type "range_iterator", data := .fields #[rawInt 0, rawInt (Builtin.Range.rangeSize 0 ((n : Nat) : Int) 1), rawInt 1] } : Obj) = ob
  have hst : IsRangeIter (s₁.heap.push ob) s₁.heap.objs.size (0 + ((0 : Nat) : Int) * 1) ((n : Int) - ((0 : Nat) : Int)) 1 := by
    rw [← hob]
    show IsRangeIter _ _ _ _ _
    rw [hn]
    simpa using Heap.get?_push_size _ rfl
  have up : ∀ (s₃ : Shared), (∀ b o, b ∉ [s₁.heap.objs.size] → (s₁.heap.push ob).get? b = some o → s₃.heap.get? b = some o) → ∀ b o, s₁.heap.get? b = some o → s₃.heap.get? b = some o :=
    fun s₃ hk b o e => hk b o (fun hm => by rcases List.mem_cons.mp hm with rfl | hm; exact Nat.lt_irrefl _ (Heap.lt_size e); cases hm) (Heap.get?_push_of_some _ e)
  generalize hsz9 : (s₁.heap.push ob).objs.size = sz
  have hszl : s₁.heap.objs.size < sz := by rw [← hsz9, Heap.size_push]; exact Nat.lt_succ_self _
  refine wpAny_mono (newDict_conj (comp_block_walkCD (knd := strKind prog w) (RR := fun acc C r s' => acc = .ref sz → compPost (model prog w) A E (some (assign (.Name y py) env)) (fun _ s' => Q .next s') acc C r s')
    (fp := [s₁.heap.objs.size]) (wr := [s₁.heap.objs.size]) (n := n) (P := fun i v => i < n ∧ ∃ t, v = .int ((0 : Int) + (i : Int)) t) (St := fun i h => IsRangeIter h s₁.heap.objs.size ((0 : Int) + (i : Nat) * 1) ((n : Int) - (i : Nat)) 1) ?W hsz (fun _ => true)
    (fun v k => ∃ a, ItemKind.int.is a v ∧ k = kf a) (fun v y => ∃ a, ItemKind.int.is a v ∧ Carried y (.str (d a))) hcell hkind hx hst ?_ ⟨?_, ?_, ?_⟩ ?_)) (fun acc s₃ hh9 => wpAny_mono hh9.1 (fun cenv s₄ hc => codeAny_mono hc (fun r s' hr => hr (by rw [hh9.2]; exact congrArg _ hsz9))) fun _ _ e => e) fun _ _ e => e
  case W =>
    have W0 := (Walks.range (prog := prog) (w := w) hh s₁.heap.objs.size 0 1 n).bound
    exact { sub := W0.sub, frame := W0.frame, done := W0.done, self := W0.self, item := fun i s Q E hi st hQ => W0.item i s Q E hi st fun v h' tk hP => hQ v h' tk (by obtain ⟨h1, t, rfl⟩ := hP; exact ⟨h1, t, by rw [Int.mul_one]⟩) }
  · intro b hb
    show b < (s₁.heap.push _).objs.size
    rw [Heap.size_push, List.mem_singleton.mp hb]
    exact Nat.lt_succ_self _
  · intro C i v s₃ m₃ E' hP hn hm hk
    exact wpAny_pure ⟨rfl, _, _, rfl, fun _ _ e => e⟩
  · rintro C i v s₃ m₃ E' ⟨hi, tv, rfl⟩ _ hn' hm hk
    refine wpAny_mono (hkey _ i tv s₃ m₃ E' hi hn' hm (F.keeps (up s₃ hk)) (N.grown (up s₃ hk))) (fun key s₄ h₄ => ?_) fun _ _ e => e
    obtain ⟨⟨t, rfl⟩, hkp⟩ := h₄
    exact ⟨⟨_, strKind_is _ _ _ _, _, ⟨tv, rfl⟩, rfl⟩, hkp⟩
  · rintro C i v s₃ m₃ E' ⟨hi, tv, rfl⟩ _ hn' hm hk
    refine wpAny_mono (hval _ i tv s₃ m₃ E' hi hn' hm (F.keeps (up s₃ hk)) (N.grown (up s₃ hk))) (fun key s₄ h₄ => ?_) fun _ _ e => e
    obtain ⟨⟨t, rfl⟩, hkp⟩ := h₄
    exact ⟨⟨_, ⟨tv, rfl⟩, .str _ _⟩, hkp⟩
  · intro D C h' tk m' kvs vs' hD hC hDC hnC hlD hlen hP hF hk hacc
    obtain rfl : D = sz := by cases hacc; rfl
    have hn : (s₁.heap.push ob).Ns env.locals m := F.ns.push _
    have hLf : env.locals ∉ [s₁.heap.objs.size] := fun hm => by
      rcases List.mem_cons.mp hm with e | hm
      · exact Nat.lt_irrefl _ (e ▸ F.ns.lt)
      · cases hm
    have hLC : env.locals ≠ C := by rintro rfl; obtain ⟨o, _, _, ho, _⟩ := hn; rw [hC] at ho; cases ho
    have hLD : env.locals ≠ D := by rintro rfl; obtain ⟨o, _, _, ho, _⟩ := hn; rw [hD] at ho; cases ho
    show wpAny _ A (assign (.Name y py) env (.ref D)) _ _ _
    refine wpAny_assign_Name (wpAny_storeName_local hy (hn.at' fun o e => hk _ o hLf e) (fun h₂ hn₂ hs₂ => ?_) hp)
    refine ⟨m', hnC.sameBut hs₂ (Ne.symm hLC), fun h₃ hs₃ => ?_⟩
    have keep : ∀ b o, b ≠ env.locals → s₁.heap.get? b = some o → h₃.get? b = some o := fun b o hb e =>
      hs₃.extBut b o (by rintro rfl; rw [Heap.get?_push_of_some _ e] at hC; cases hC) (hs₂.extBut b o hb (up { s₁ with heap := h' } hk b o e))
    obtain ⟨oD, hoD, hdD⟩ := Heap.dictOf_iff.mp ((hlD.extBut hs₂.extBut (Ne.symm hLD)).extBut hs₃.extBut hDC)
    have hfree : h₀.get? D = none := by
      cases e : h₀.get? D with
      | none => rfl
      | some o' => rw [Heap.get?_push_of_some _ (F.keep _ _ e)] at hD; cases hD
    have e1 : vs'.filter (fun _ => true) = vs' := by simp
    rw [e1] at hF
    have ha := ints_ks vs' 0 fun j v hv => (hP j v hv).2
    rw [hlen] at ha
    refine hQ D oD kvs h₃ _ ⟨hn₂.sameBut hs₃ hLC, fun b o e => keep b o (Nat.ne_of_lt (Nat.lt_of_lt_of_le (Heap.lt_size e) F.above)) (F.keep b o e), F.above⟩
      (fun p hp => ?_) (fun p hp => Nat.lt_trans (Heap.lt_size (N p hp).1) hszl) (fun hm => beq_eq_false_iff_ne.mpr (Nat.ne_of_gt (Nat.lt_trans hm (Nat.lt_of_le_of_lt F.above (Nat.lt_trans F.ns.lt hszl))))) hdD (storedAll_flat PyProof.V.same_str hF _ ha)
    rcases List.mem_cons.mp hp with rfl | hp
    · exact ⟨hoD, Ne.symm hLD, hfree⟩
    · exact ⟨keep _ _ (N p hp).2.1 (N p hp).1, (N p hp).2⟩
end
theorem plain_put (f : Nat → Str) : putAll PyData.str (fun z => Txt.item (Str.ofString "abcd") z) (fun i => PyData.str (f i.toNat)) (ksOf 0 4) = plainD f := by kernel_rfl
theorem strs_one {vs : List Value} {a : Str} (h : StrsAre vs [a]) : ∃ t, vs = [.str a t] := by
  cases h with
  | cons _ t h => cases h; exact ⟨t, rfl⟩
theorem strs_two {vs : List Value} {a b : Str} (h : StrsAre vs [a, b]) : ∃ t t', vs = [.str a t, .str b t'] := by
  cases h with
  | cons _ t h => obtain ⟨t', rfl⟩ := strs_one h; exact ⟨t, t', rfl⟩
theorem words_cases {n : Nat} {vs : List Value} (hn : n < 27) (h : StrsAre vs (wordsOf n)) : (∃ t, vs = [.str (plainOf n) t]) ∨
    (∃ t t', vs = [.str (Str.ofString (sp n)) t, .str (Str.ofString (lo n)) t'] ∧ plainOf n = Str.ofString "{" ++ Str.ofString (sp n) ++ Str.ofString "}" ++ Str.ofString (lo n)) := by
  unfold wordsOf at h
  by_cases h9 : n < 9
  · rw [if_pos h9] at h
    obtain ⟨t, rfl⟩ := strs_one h
    exact .inl ⟨t, by unfold plainOf; rw [if_pos h9]⟩
  · rw [if_neg h9] at h
    obtain ⟨t, t', rfl⟩ := strs_two h
    exact .inr ⟨t, t', rfl, (fig_two ⟨n, hn⟩ (Nat.le_of_not_lt h9)).2.1⟩
theorem part_len : ∀ n : Fin 27, (Str.ofString (sp n)).length ≤ 1000000 ∧ (Str.ofString (lo n)).length ≤ 1000000 ∧ (Str.ofString "{" ++ Str.ofString (sp n)).length ≤ 1000000 ∧ (Str.ofString "{" ++ Str.ofString (sp n) ++ Str.ofString "}").length ≤ 1000000 := by decide +kernel
end
theorem reset10 : True := by
  k_with "rec" => fail "none"
  k_with "src" => fail "none"
  k_with "my end" => fail "none"
  k_with "eq" => fail "none"
  trivial
section
open PySem PySem.W PyProof.Rows PySem.Calls PySem.Spec
theorem pick_whole {l : List Value} : (slicePick l.toArray none none none).toList = l := by
  have e : sliceBounds none none none l.toArray.size = (((0 : Nat) : Int), ((l.toArray.size : Nat) : Int), 1) := by
    simp only [sliceBounds, Option.getD_none, show (1 : Int) > 0 by decide, if_true]
    rfl
  rw [kmk_pick_nat _ e]
  show (l.drop 0).take (l.toArray.size - 0) = _
  rw [List.drop_zero, Nat.sub_zero, List.size_toArray, List.take_length]
local macro_rules | `(tactic| walk_at "subscriptTail") => `(tactic| (k_here; (with_reducible show wpAny _ _ (subscriptTail _ (PySem.Expr.Slice none none none _) (Value.ref _) (Value.ref _)) _ _ _); k_dflt (refine kmk_slice_lit (by k_asm) (by k_asm) (News.isList (by k_asm) (by k_mem)) (by kmk_part) (by kmk_part) pick_whole ?_ (by with_unfolding_all rfl) (by kmk_pure) (by (rw [List.size_toArray, sizeLine_eq]; omega))); intro D' h' F' N' l1; (try k_sweep)))
local macro_rules | `(tactic| walk_at "subscriptTail Attribute Slice ref ref") => `(tactic| (k_here; (with_reducible show wpAny _ _ (subscriptTail _ (PySem.Expr.Slice none none none _) (Value.ref _) (Value.ref _)) _ _ _); k_dflt (refine kmk_slice_lit (by k_asm) (by k_asm) (News.isList (by k_asm) (by k_mem)) (by kmk_part) (by kmk_part) pick_whole ?_ (by with_unfolding_all rfl) (by kmk_pure) (by (rw [List.size_toArray, sizeLine_eq]; omega))); intro D' h' F' N' l1; (try k_sweep)))
set_option maxHeartbeats 0 in
theorem items_spec (w : World) (news : List (Addr × Obj)) (lg D n : Nat) (vs : List Value) (hlog : LogIn news lg D) (hD : (D, W.listOf vs.toArray n) ∈ news) (hz : vs.length ≤ 1000) :
    Sp w 165 ⟨[.ref lg], []⟩ news 10 200 (fun r n' => ∃ D2, r = .ref D2 ∧ n' = (D2, W.listOf vs.toArray 0) :: news) := by
  obtain ⟨dl, hs', tk, k, m1, m2⟩ := hlog
  intro p loose mean mg mb dp un gd env outer A₀ base h₀ L m s R B F X N T hfe hke hd hu ret
  k_dflt ktr_enter
  k_steps
  rename Fr h₀ _ _ _ => gF
  rename News h₀ _ _ _ => gN
  exact ret _ _ _ _ gF gN ⟨_, rfl, rfl⟩
/-! two lists of pairs -/
def datsOf : List (Str × Str) → List Dat
  | [] => []
  | e :: es => .tuple [.str e.1, .str e.2] :: datsOf es
theorem dat_pairs {ns : List (Addr × Obj)} : ∀ {vs : List Value} {es : List (Str × Str)}, PairsAt ns vs es → DatAll ns vs (datsOf es)
  | [], [], _ => .nil
  | [], _ :: _, h => h.elim
  | _ :: _, [], h => h.elim
  | _ :: _, _ :: _, ⟨⟨T, t, u, e, hm⟩, h⟩ => by
    subst e
    exact .cons (.tuple (vs := [.str _ t, .str _ u]) hm (.cons (.str _ t) (.cons (.str _ u) .nil))) (dat_pairs h)
theorem dat_ok : ∀ {es : List (Str × Str)}, (∀ e ∈ es, PyData.strOk e.1 = true ∧ PyData.strOk e.2 = true) → ∀ d ∈ datsOf es, kqdOk 8 d = true
  | [], _, d, h => by unfold datsOf at h; cases h
  | e :: es, hk, d, h => by
    unfold datsOf at h
    rcases List.mem_cons.mp h with rfl | h
    · have := hk e (.head _)
      simp [kqdOk, this.1, this.2]
    · exact dat_ok (fun e' h' => hk e' (.tail _ h')) d h
theorem leaf_ok : ∀ i : Fin 8, PyData.strOk (leafS i) = true := by decide +kernel
theorem plain_ok : ∀ n : Fin 27, PyData.strOk (plainOf n) = true := by decide +kernel
mutual
theorem asked_ok (pl : Nat → Str) (hp : ∀ i, PyData.strOk (pl i) = true) : ∀ (g : G), g.Ok → ∀ (lo hi : Str), ∀ e ∈ g.asked pl lo hi, PyData.strOk e.1 = true ∧ PyData.strOk e.2 = true
  | .leaf i, h, lo, hi, e, he => by
    unfold G.Ok at h
    unfold G.asked at he
    split at he
    · rw [List.mem_singleton.mp he]
      exact ⟨leaf_ok ⟨i, h⟩, hp _⟩
    · cases he
  | .node o ps, h, lo, hi, e, he => by
    unfold G.Ok at h
    unfold G.asked at he
    exact askeds_ok pl hp o lo hi ps h.2 [] e he
theorem askeds_ok (pl : Nat → Str) (hp : ∀ i, PyData.strOk (pl i) = true) (o : Bool) (lo hi : Str) : ∀ (gs : List G), Oks gs → ∀ (ah : List Str), ∀ e ∈ askeds pl o lo hi ah gs, PyData.strOk e.1 = true ∧ PyData.strOk e.2 = true
  | [], _, _, e, he => by unfold askeds at he; cases he
  | g :: gs, h, ah, e, he => by
    unfold Oks at h
    unfold askeds at he
    rcases List.mem_append.mp he with he | he
    · exact asked_ok pl hp g h.1 _ _ e he
    · exact askeds_ok pl hp o lo hi gs h.2 _ e he
end
section
variable {prog : Program} {w : World} {A : Around} {E : Value → Shared → Prop} {s : Shared} {h₀ : Heap} {L : Addr} {ns : List (Addr × Obj)}
theorem eq_pairs {a b ka kb : Nat} {xs ys : List Value} {es : List (Str × Str)} {Q : Value → Shared → Prop} (N : News h₀ L s.heap ns) (ma : (a, W.listOf xs.toArray ka) ∈ ns) (pa : PairsAt ns xs es) (mb : (b, W.listOf ys.toArray kb) ∈ ns) (pb : PairsAt ns ys es)
    (hk : ∀ e ∈ es, PyData.strOk e.1 = true ∧ PyData.strOk e.2 = true) (hu : A.units + 64 < cLine) (h : Q (.bool true) s) : wpAny (model prog w) A (compareOp .Eq (.ref a) (.ref b)) Q E s := by
  refine kqd_eq N ma rfl rfl (dat_pairs pa) (fun _ h => h) mb rfl rfl (dat_pairs pb) (fun _ h => h) (dat_ok hk) (dat_ok hk) hu ?_
  have e : ∀ inst : Decidable (datsOf es = datsOf es), @decide _ inst = true := fun inst => decide_eq_true rfl
  rw [e]
  exact h
end
theorem log_after {w : World} {h₀ h : Heap} {L l x d D x1 d1 D9 A0 A1 A2 A3 a0 a1 a2 a3 b0 b1 b2 b3 tk tk1 : Nat} {o : Obj} {hs hs1 : Int} {T5 : List (Addr × Obj)} {fig : Nat → Nat} {r : Value} {g : G} {kvs : List (Str × Value)}
    (N : News h₀ L h ((l, W.listOf #[] 0) :: (x, W.instObj 201 d) :: (d, dictOf [⟨hs, .str (Str.ofString "_headers") tk, .ref l⟩] 1) :: (D, o) :: (x1, W.instObj 201 d1) :: (d1, dictOf [⟨hs1, .str (Str.ofString "_headers") tk1, .ref D9⟩] 1) :: T5))
    (l1 : x < l ∧ d < l ∧ D < l ∧ x1 < l ∧ d1 < l ∧ AllLt l T5) (hD9 : (D9, W.listOf #[.ref A0, .ref A1, .ref A2, .ref A3] 4) ∈ T5)
    (hA0 : (A0, tup2 (Str.ofString "a") a0 (joined (fig 0)) b0) ∈ T5) (hA1 : (A1, tup2 (Str.ofString "b") a1 (joined (fig 1)) b1) ∈ T5) (hA2 : (A2, tup2 (Str.ofString "c") a2 (joined (fig 2)) b2) ∈ T5) (hA3 : (A3, tup2 (Str.ofString "d") a3 (joined (fig 3)) b3) ∈ T5)
    (hmod : (D == sysModules) = false) (hdd : o.IsDictOf (strKind PySem.Challenge.rw_ul0027_01.row.prog w) kvs) (hff : PyProof.V.FlatPairs PyData.str kvs (plainD fun i => plainOf (fig i))) (hg : GAt T5 r g) :
    ∃ T6, News h₀ L h ((l, W.listOf (List.toArray []) 0) :: T6) ∧ (∀ p ∈ T6, p.1 ≠ l) ∧ LogIn T6 x l ∧ TableIn T6 x1 (fun i => joined (fig i)) ∧ PlainIn w T6 D (fun i => plainOf (fig i)) ∧ GAt T6 r g := by
  have up : ∀ p ∈ T5, p ∈ (x, W.instObj 201 d) :: (d, dictOf [⟨hs, .str (Str.ofString "_headers") tk, .ref l⟩] 1) :: (D, o) :: (x1, W.instObj 201 d1) :: (d1, dictOf [⟨hs1, .str (Str.ofString "_headers") tk1, .ref D9⟩] 1) :: T5 := subS (subS (subS (subS (subS subR))))
  refine ⟨_, N, ?_, ⟨d, hs, tk, 1, .head _, .tail _ (.head _)⟩, ⟨d1, D9, hs1, tk1, 1, 4, A0, A1, A2, A3, a0, a1, a2, a3, b0, b1, b2, b3, .tail _ (.tail _ (.tail _ (.head _))), .tail _ (.tail _ (.tail _ (.tail _ (.head _)))), up _ hD9, up _ hA0, up _ hA1, up _ hA2, up _ hA3⟩, ⟨o, kvs, .tail _ (.tail _ (.head _)), hmod, hdd, hff⟩, hg.mono up⟩
  intro p hp
  obtain ⟨q1, q2, q3, q4, q5, q6⟩ := l1
  rcases List.mem_cons.mp hp with rfl | hp
  · exact Nat.ne_of_lt q1
  · rcases List.mem_cons.mp hp with rfl | hp
    · exact Nat.ne_of_lt q2
    · rcases List.mem_cons.mp hp with rfl | hp
      · exact Nat.ne_of_lt q3
      · rcases List.mem_cons.mp hp with rfl | hp
        · exact Nat.ne_of_lt q4
        · rcases List.mem_cons.mp hp with rfl | hp
          · exact Nat.ne_of_lt q5
          · exact Nat.ne_of_lt (allLt_mem q6 p hp)
theorem read_after {h₀ h : Heap} {L l : Addr} {ol : Obj} {T6 tl : List (Addr × Obj)} {r : Value} {g : G} (N : News h₀ L h (tl ++ (l, ol) :: T6)) (hap : ∀ p ∈ T6, p.1 ≠ l) (hr : TAt tl r g) (hfr : ∀ q ∈ (l, ol) :: T6, ∀ p ∈ tl, q.1 < p.1) :
    ∃ T7, News h₀ L h ((l, ol) :: T7) ∧ (∀ p ∈ T7, p.1 ≠ l) ∧ (∀ p ∈ T6, p ∈ T7) ∧ TAt T7 r g := by
  refine ⟨tl ++ T6, newsSub N ?_, ?_, fun p hp => List.mem_append_right _ hp, hr.mono fun p hp => List.mem_append_left _ hp⟩
  · intro p hp
    simp only [List.mem_cons, List.mem_append] at hp ⊢
    rcases hp with h | h | h <;> simp [h]
  · intro p hp
    rcases List.mem_append.mp hp with hp | hp
    · exact Ne.symm (Nat.ne_of_lt (hfr _ (.head _) p hp))
    · exact hap p hp
theorem empty_is : Str.ofString "" = Str.empty := by decide +kernel
theorem low_at (t : Tok) : BAt [] Str.empty (.str (Str.ofString "") t) Str.empty := .inl ⟨t, by rw [empty_is], rfl⟩
theorem high_at (t : Tok) : BAt [] tilde (.str (Str.ofString "~") t) tilde := .inl ⟨t, rfl, rfl⟩
theorem law_plain (c : Int) (g : G) (hok : g.Ok) : (g.srch (fun i => plainOf (figOf c i)) Str.empty tilde).1 = g.worth (fun i => plainOf (figOf c i)) ∧ (g.srch (fun i => plainOf (figOf c i)) Str.empty tilde).2 = g.asked (fun i => plainOf (figOf c i)) (Str.ofString "") (Str.ofString "~") := by
  rw [empty_is]
  exact plain_law _ (fun i => plain_between ⟨figOf c i, fig_lt c i⟩) g hok
theorem srch_after {w : World} {h₀ h : Heap} {L l xl D : Nat} {T6 T7 ns : List (Addr × Obj)} {pl : Nat → Str} {rg r : Value} {g : G} {x : Str} {es : List (Str × Str)} (N : News h₀ L h ns) (P : SrchPost T7 [] l [] x es r ns) (hlog : LogIn T6 xl l) (hs : ∀ p ∈ T6, p ∈ T7) (hpl : PlainIn w T6 D pl) (hg : GAt T6 rg g) :
    ∃ T8 n vs a d tk t k hh, News h₀ L h T8 ∧ (l, W.listOf (List.toArray vs) n) ∈ T8 ∧ PairsAt T8 vs es ∧ LogIn T8 xl l ∧ PlainIn w T8 D pl ∧ GAt T8 rg g ∧ r = .ref a ∧ (a, W.instObj 279 d) ∈ T8 ∧ (d, dictOf [⟨hh, .str (Str.ofString "text") tk, .str x t⟩] k) ∈ T8 ∧ vs.length = es.length := by
  obtain ⟨n, tl, vs, rfl, hp, hne, hfr, ⟨⟨a, d, tk, t, k, hh, rfl, m1, m2⟩, -⟩⟩ := P
  have up : ∀ p ∈ T6, p ∈ (l, W.listOf (([] : List Value) ++ vs).toArray n) :: (tl ++ T7) := fun p hp => .tail _ (List.mem_append_right _ (hs p hp))
  have up2 : ∀ p ∈ tl, p ∈ (l, W.listOf (([] : List Value) ++ vs).toArray n) :: (tl ++ T7) := fun p hp => .tail _ (List.mem_append_left _ hp)
  rw [List.append_nil] at m1 m2
  exact ⟨_, n, vs, a, d, tk, t, k, hh, N, .head _, hp.mono up2, hlog.mono up, hpl.mono up, hg.mono up, rfl, up2 _ m1, up2 _ m2, hp.len⟩
theorem ask_after {h₀ h : Heap} {L : Addr} {T8 ns : List (Addr × Obj)} {es : List (Str × Str)} {r : Value} (N : News h₀ L h ns) (P : AskPost T8 es r ns) :
    ∃ T9 rl n vs, News h₀ L h T9 ∧ (∀ p ∈ T8, p ∈ T9) ∧ r = .ref rl ∧ (rl, W.listOf (List.toArray vs) n) ∈ T9 ∧ PairsAt T9 vs es := by
  obtain ⟨rl, n, tl, vs, rfl, rfl, hp, -, -, -⟩ := P
  exact ⟨_, rl, n, vs, N, fun p hp => .tail _ (List.mem_append_right _ hp), rfl, .head _, hp.mono fun p hp => .tail _ (List.mem_append_left _ hp)⟩
end
theorem reset11 : True := by
  k_with "rec" => fail "none"
  k_with "src" => fail "none"
  k_with "my end" => fail "none"
  k_with "eq" => fail "none"
  trivial
section
open PySem PySem.W PyProof.Rows PySem.Calls PySem.Spec
theorem num_len {vs : List Value} {ns : List Int} (h : IntsAre vs ns) (hc : ¬ ((63 : Nat) : Int) < (ns.length : Int)) : vs.length ≤ 16777216 := by
  rw [h.length]; omega
theorem SpH.use2 {pre : Heap → Prop} {w : World} {f : Addr} {pos : List Value} {kw : List (Str × Value)} {news : List (Addr × Obj)} {d u : Nat} {Post : Value → List (Addr × Obj) → Prop} (S : SpH pre w f ⟨pos, kw⟩ news d u Post)
    {p : Program} {loose : List Str} {mean : ExcName → Option Value} {mg mb : Str → Option Value} {A : Around} {env : Env} {outer : List Env} {A₀ : Around} {base h₀ : Heap} {L : Addr} {m : Str → Option Value} {s : Shared} {Q E : Value → Shared → Prop}
    (F : Fr h₀ L s.heap m) (N : News h₀ L s.heap news) (hp : pre h₀) (hh : A.handled = none) (hA : A.frames = some (env :: outer)) (hf : env.frame = some L) (hke : env.scope.kind = .function) (B : Below A₀ base outer h₀) (X : (frag.heap_1 w.params).In h₀) (T : Top p loose mean mg mb h₀)
    (hd : A.depth + d ≤ 990) (hu : A.units + u ≤ 9890)
    (ret : ∀ r news' h' tk', Fr h₀ L h' m → News h₀ L h' news' → Post r news' → Q r { s with heap := h', toks := tk' }) :
    wpAny (model PySem.Challenge.rw_ul0027_01.row.prog w) A (call (.ref f) pos kw) Q E s :=
  wpAny_call (around_is hh hA ▸ S p loose mean mg mb _ _ A.guards env outer A₀ base h₀ L m s _ hp B F X N T hf hke hd hu fun r news' h' tk' F' N' P' => ret r news' h' tk' F' N' P')
local macro_rules | `(tactic| walk_at "CompSrc") => `(tactic| (k_here; k_dflt (k_extra "src")))
local macro_rules | `(tactic| walk_at "storeName") => `(tactic| (k_here; k_dflt (refine' storeX_C ?F ?N ?c (.head ?U) ?d ?_ ?a ?b; (case a => rfl); (case b => rfl); (case F => k_asm); (case N => k_asm); (case c => rfl); (case U => assumption); (case d => first | assumption | k_asm)); intro h' o' F' N' d'; (try dsimp only at N')))
local macro_rules | `(tactic| walk_at "call builtin:str.join") => `(tactic| (k_here; k_dflt (refine join_words (by k_asm) (by k_mem) (by assumption) (fig_lt _ _) ?_); intro _ _))
local macro_rules | `(tactic| walk_at "call ref") => `(tactic| (k_here; k_dflt (first
  | refine Sp.use2 (conv_name _ _ _ (by assumption) (by assumption) _ _) (by k_asm) (by k_asm) (by exact rfl) (by exact rfl) (by exact rfl) (by exact rfl) (by k_asm) (by k_asm) (by k_asm) (by k_room) (by k_units) ?_
  | refine Sp.use2 (conv_val _ _ _ (by assumption) (by assumption) _ _) (by k_asm) (by k_asm) (by exact rfl) (by exact rfl) (by exact rfl) (by exact rfl) (by k_asm) (by k_asm) (by k_asm) (by k_room) (by k_units) ?_); intro r9 n9 h9 t9 F9 N9 P9; (obtain ⟨e1, e2⟩ := P9); subst e1; subst e2; (try k_sweep)))
local macro_rules | `(tactic| walk_at "ItemsRest") => `(tactic| (refine ItemsRest.val (fun h' tk' F' => AllObj.cons fun o' hc' => AllObj.nil fun N' => ?_)))
local macro_rules | `(tactic| walk_at "UnrEndW") => `(tactic| k_extra "my end")
local macro_rules | `(tactic| walk_at "exec Assign cons DictComp") => `(tactic| (k_here; k_dflt (refine Assign_DictComp_R (by k_asm) (by rfl) (by with_unfolding_all rfl) (by with_unfolding_all rfl) (by decide) (by rfl) (by decide) (by rfl) (by rfl) (by rfl) ?_ (by intro _; with_unfolding_all rfl))))
local macro_rules | `(tactic| walk_at "eval Name") => `(tactic| (k_here; k_dflt (refine' wpAny_Name (wpAny_loadName_local ?k1 ?k2 ?ns ?e ?_) ?k3; (case k1 => exact rfl); (case k2 => exact rfl); (case ns => assumption); (case e => assumption); (case k3 => decide))))
local macro_rules | `(tactic| walk_at "binaryOp Add str str") => `(tactic| (k_here; k_dflt (refine add_strs (by first | assumption | decide) (by first | assumption | decide) ?_); intro _ _))
local macro_rules | `(tactic| walk_at "compareOp Eq ref ref") => `(tactic| (k_here; k_dflt (k_extra "eq")))
local macro_rules | `(tactic| k_in) => `(tactic| first | with_reducible assumption | with_reducible exact Frag.In.keeps (by assumption) (Fr.keep (by assumption)))
local macro_rules | `(tactic| k_qdec) => `(tactic| decide +kernel)
set_option maxHeartbeats 0 in
theorem law_holds : PySem.Challenge.rw_ul0027_01.Holds := hd (by
  k_go0
  all_goals (try k_fold)
  rename IntsAre _ _ => hI5
  rename ¬ _ => hc5
  have hl6 := num_len hI5 hc5
  k_with "src" => refine Stopped.out ?_
  k_with "rec" => first
    | ((show wpAny _ _ (call (Value.ref 290) _ _) _ _ _); (refine SpH.use2 (num_spec _ _ _ _ _ (by assumption) (by assumption)) (by k_asm) (by k_asm) (by k_asm) (by exact rfl) (by exact rfl) (by exact rfl) (by exact rfl) (by k_asm) (by k_asm) (by k_asm) (by k_room) (by k_units) ?_); intro r9 n9 h9 t9 F9 N9 P9; (obtain ⟨C, nC, c0, c1, c2, c3, c4, c5, t0, t1, t2, t3, t4, t5, e1, e2, lC9, hbd⟩ := P9); subst e1; subst e2; (try k_sweep))
    | ((show wpAny _ _ (call (Value.ref 295) _ _) _ _ _); (refine Sp.use2 (game_spec _ _ C nC c0 c1 c2 c3 c4 c5 t0 t1 t2 t3 t4 t5 (.head _)) (by k_asm) (by k_asm) (by exact rfl) (by exact rfl) (by exact rfl) (by exact rfl) (by k_asm) (by k_asm) (by k_asm) (by k_room) (by k_units) ?_); intro r9 n9 h9 t9 F9 N9 P9; (obtain ⟨g, tl, e1, hg, hfr, hok, htw, hgz⟩ := P9); subst e1; (obtain ⟨T, N10, hTa, hTc, hgT, hap⟩ := game_after N9 hfr (lC9 _ (.head _)) (Nat.lt_succ_self _) hg); clear N9 hfr hg; (try k_sweep))
  k_steps
  refine Stopped.mk ?_
  refine LCg.CompSrc.range (n := 4) (by rfl) (by k_asm) (by k_asm) (by assumption) (by decide) (by decide) (by rw [sizeLine_eq]; omega) (fun g1 => ?_)
  refine comp_led 4 (WordsJ _ (figOf c5)) (fun _ _ _ _ => trivial) (fun i ys ns hi4 hJ v I oI C' oC D m₂ h tk E' hP hC' hm F5 N5 hoff => ?_) (fun ys ns hJ => ?_) 4 0 [] _ (by rfl) ⟨rfl, [], rfl, (fun j hj => absurd hj (Nat.not_lt_zero _)), (fun _ _ _ hp => nomatch hp)⟩
  · obtain ⟨tv, rfl⟩ := hP
    obtain ⟨hyl, adds, rfl, hw, hfr⟩ := hJ
    obtain ⟨hp1, hp2⟩ := pow27 hi4
    have hTa' := hTa adds
    have hTc' := hTc adds
    k_with "rec" => ((show wpAny _ _ (call (Value.ref 307) _ _) _ _ _); (refine Sp.use2 (words_spec _ _ _ (fm27 _).1 (fm27 _).2 _) (by k_asm) (by k_asm) (by exact rfl) (by exact rfl) (by exact rfl) (by exact rfl) (by k_asm) (by k_asm) (by k_asm) (by k_room) (by k_units) ?_); intro r9 n9 h9 t9 F9 N9 P9; (obtain ⟨l9, vs9, e1, e2, hst9, hl9⟩ := P9); subst e1; subst e2; (try k_sweep))
    k_steps
    subst hyl
    exact led_put F9 N9 hl9 hoff (words_next hw hfr (fun q hq => hl9 q (.tail _ (.tail _ (.tail _ (List.mem_append_right _ hq))))) hst9)
  · unfold LCg.FinE
    intro D9 h9 tk9 F9 N9 o9
    obtain ⟨T2, N10, hwD, hw2, hg2, hap2, hyl⟩ := words_after N9 o9 hJ hap hgT
    clear N9 o9 hJ hap hgT hTa hTc
    dsimp only at N10 hap2
    k_steps
    refine Stopped.mk ?_
    rename News _ _ _ (_ :: T2) => N11
    obtain ⟨T4, N12, hs4, hc4⟩ := cell_gen N11
    clear N11
    refine LCg.CompSrc.range (n := 4) (by rfl) (by k_asm) (by k_asm) (by assumption) (by decide) (by decide) (by rw [sizeLine_eq]; omega) (fun g1 => ?_)
    refine comp_led 4 (TableJ T4 (figOf c5)) (fun _ _ _ _ => trivial) (fun i zs ns hi4 hJ v I oI C' oC D m₂ h tk E' hP hC' hm F5 N5 hoff => ?_) (fun zs ns hJ => ?_) 4 0 [] _ (by rfl) ⟨rfl, [], rfl, (fun j hj => absurd hj (Nat.not_lt_zero _))⟩
    · obtain ⟨tv, rfl⟩ := hP
      obtain ⟨hzl, adds, rfl, ht⟩ := hJ
      obtain ⟨l9, vs9, n9, hx9, hm9, hst9⟩ := hw2 i (by omega)
      have hx9' : ys[((0 : Int) + (i : Int)).toNat]? = some (.ref l9) := by rw [show ((0 : Int) + (i : Int)).toNat = i by omega]; exact hx9
      have hi0 : (0 : Int) ≤ 0 + (i : Int) := by omega
      have hi1 : (0 : Int) + (i : Int) < 4 := by omega
      have hc5 := List.mem_append_right adds hc4
      have hm5 := List.mem_append_right adds (hs4 _ hm9)
      have hD5 := List.mem_append_right adds (hs4 _ hwD)
      k_steps
      rename Fr _ _ _ _ => eF
      rename News _ _ _ _ => eN
      rename (_ < _ ∧ _ < _ ∧ _ < _ ∧ AllLt _ _) => eL
      subst hzl
      exact led_put eF eN (allLt_mem (l := (I, oI) :: (C', oC) :: (D, LCg.lst zs) :: (adds ++ T4)) eL) hoff (table_next ht)
    · unfold LCg.FinE
      intro D9' h9 tk9 F9 N9 o9
      obtain ⟨T5, A0, A1, A2, A3, a0, a1, a2, a3, b0, b1, b2, b3, N10, hs5, hD9, hA0, hA1, hA2, hA3⟩ := table_after N9 hJ
      have hc5 := hs5 _ hc4
      have hwD5 := hs5 _ (hs4 _ hwD)
      have hw5 := hw2.mono fun p hp => hs5 _ (hs4 _ hp)
      have hg5 := hg2.mono fun p hp => hs5 _ (hs4 _ hp)
      clear N9 o9 hJ hw2 hg2 hs4 hs5 hap2
      obtain ⟨⟨ka1, ka2⟩, ⟨kb1, kb2⟩, ⟨kc1, kc2⟩, ⟨kd1, kd2⟩⟩ := abcd_clean
      obtain ⟨ja1, ja2⟩ := joined_cl (fig_lt c5 0)
      obtain ⟨jb1, jb2⟩ := joined_cl (fig_lt c5 1)
      obtain ⟨jc1, jc2⟩ := joined_cl (fig_lt c5 2)
      obtain ⟨jd1, jd2⟩ := joined_cl (fig_lt c5 3)
      k_steps
      rename Fr _ _ _ _ => lF
      with_unfolding_all refine For_turns lF ?_
      k_steps
      rename Fr _ _ _ _ => lF
      rename News _ _ _ _ => lN
      refine iter_listTurns (n := 4) (by rfl) lF lN (.tail _ (.tail _ hD9)) rfl rfl (fun I hI => ?_)
      show ItemsRest _ _ _ _ _ _ _ _ _ _ _ _ [.val (.ref A0), .val (.ref A1), .val (.ref A2), .val (.ref A3)] _ _
      k_with "my end" => refine ⟨_, _, _, _, rfl, by k_asm, by k_asm, fun p hp q hq => by rw [List.mem_singleton.mp hq]; exact Nat.ne_of_lt (hI p hp), ⟨.tail _ (.tail _ hD9), trivial⟩, ?_⟩
      k_steps
      rename Fr _ _ _ _ => dF
      rename News _ _ _ _ => dN
      refine ⟨_, 4, _, _, _, _, fun z => Txt.item (Str.ofString "abcd") z, fun z => plainOf (figOf c5 z.toNat), rfl, by rfl, dF, dN, by assumption, by decide, by rw [sizeLine_eq]; omega, ?key, ?val, ?cont⟩
      case key =>
        intro C i tv s₂ m₂ E' hi hns hm F5 N5
        have hi0 : (0 : Int) ≤ 0 + (i : Int) := by omega
        have hi1 : (0 : Int) + (i : Int) < 4 := by omega
        k_steps
        exact ⟨⟨_, rfl⟩, _, _, rfl, fun _ _ e => e⟩
      case val =>
        intro C i tv s₂ m₂ E' hi hns hm F5 N5
        obtain ⟨l9, vs9, n9, hx9, hm9, hst9⟩ := hw5 i (by omega)
        have hx9' : ys[((0 : Int) + (i : Int)).toNat]? = some (.ref l9) := by rw [show ((0 : Int) + (i : Int)).toNat = i by omega]; exact hx9
        have hi2 : ((0 : Int) + (i : Int)).toNat = i := by omega
        rcases words_cases (fig_lt c5 i) hst9 with ⟨u1, rfl⟩ | ⟨u1, u2, rfl, hpl⟩
        · k_steps
          exact ⟨⟨_, by rw [hi2]⟩, _, _, rfl, fun _ _ e => e⟩
        · obtain ⟨q1, q2, q3, q4⟩ := part_len ⟨figOf c5 i, fig_lt c5 i⟩
          dsimp only at q1 q2 q3 q4
          k_steps
          exact ⟨⟨_, by rw [hi2, hpl]⟩, _, _, rfl, fun _ _ e => e⟩
      case cont =>
        intro D o kvs h' tk F6 N6 hl6 hmod hd6 hf6
        have hmod2 : (D == sysModules) = false := hmod (modules_low (Top.nolimit (by assumption)))
        rw [plain_put (fun i => plainOf (figOf c5 i))] at hf6
        clear hmod
        k_with "rec" => ((show wpAny _ _ (call (Value.ref 300) _ _) _ _ _); refine Stopped.out ?_)
        k_steps
        rename Fr _ _ _ _ => lF
        with_unfolding_all refine For_turns lF ?_
        k_steps
        rename Fr _ _ _ _ => lF
        rename News _ _ _ _ => lN
        refine iter_listTurns (n := 0) (by rfl) lF lN (.head _) rfl rfl (fun I hI => ?_)
        k_with "my end" => refine ⟨_, _, _, _, rfl, by k_asm, by k_asm, fun p hp q hq => by rw [List.mem_singleton.mp hq]; exact Nat.ne_of_lt (hI p hp), ⟨.head _, trivial⟩, ?_⟩
        k_steps
        refine Stopped.mk ?_
        rename News _ _ _ _ => N6
        rename (_ < _ ∧ _ < _ ∧ _ < _ ∧ _ < _ ∧ _ < _ ∧ AllLt _ _) => l6
        obtain ⟨T6, N7, hap6, hlog6, htb6, hpl6, hg6⟩ := log_after (fig := figOf c5) N6 l6 hD9 hA0 hA1 hA2 hA3 hmod2 hd6 hf6 hg5
        clear N6 l6
        have hwl := written_len g hok
        have hes := asked_len (fun i => plainOf (figOf c5 i)) g (Str.ofString "") (Str.ofString "~")
        k_with "rec" => first
          | ((show wpAny _ _ (call (Value.ref 300) _ _) _ _ _); (refine Sp.use2 (written_spec _ g _ _ (hg6.mono (subS subR)) hok (by omega)) (by k_asm) (by k_asm) (by exact rfl) (by exact rfl) (by exact rfl) (by exact rfl) (by k_asm) (by k_asm) (by k_asm) (by k_room) (by k_units) ?_); intro r7 n7 h7 t7 F7 N8 P8; (obtain ⟨e1, u7, e2⟩ := P8); subst e1; subst e2; (try k_sweep))
          | ((show wpAny _ _ (call (Value.ref 314) _ _) _ _ _); (refine Sp.use2 (read_spec _ _ g hok htw _ (by omega)) (by k_asm) (by k_asm) (by exact rfl) (by exact rfl) (by exact rfl) (by exact rfl) (by k_asm) (by k_asm) (by k_asm) (by k_room) (by k_units) ?_); intro r8 n8 h8 t8 F8 N8 P8; (obtain ⟨tl8, e1, hr8, hfr8⟩ := P8); subst e1; (obtain ⟨T7, N9, hap7, hs7, hr7⟩ := read_after N8 hap6 hr8 hfr8); clear N8 hr8 hfr8; (try k_sweep))
          | ((show wpAny _ _ (call (Value.ref 321) _ _) _ _ _); (refine Sp.use2 (srch_spec _ (figOf c5) (fig_lt c5) g T7 [] (fun _ h => nomatch h) _ _ _ Str.empty tilde _ _ _ _ [] hr7 (htb6.mono hs7) (hlog6.mono hs7) hap7 (low_at _) (high_at _) hok (by simp; omega)) (by k_asm) (by k_asm) (by exact rfl) (by exact rfl) (by exact rfl) (by exact rfl) (by k_asm) (by k_asm) (by k_asm) (by k_room) (by k_units) ?_); intro r8 n8 h8 t8 F8 N8 P8; (rw [(law_plain c5 g hok).1, (law_plain c5 g hok).2] at P8); (obtain ⟨T8, n9, vs9, ta, td, tk9, tt9, k9, hh9, N9, hD8, hp8, hlog8, hpl8, hg8, e1, ht1, ht2, hvl⟩ := srch_after N8 P8 hlog6 hs7 hpl6 hg6); subst e1; clear N8 P8; (obtain ⟨dl8, hsl8, tkl8, kl8, hlg1, hlg2⟩ := id hlog8); (try k_sweep))
          | ((show wpAny _ _ (call (Value.ref 165) _ _) _ _ _); (refine Sp.use2 (items_spec _ _ _ _ n9 vs9 hlog8 hD8 (by omega)) (by k_asm) (by k_asm) (by exact rfl) (by exact rfl) (by exact rfl) (by exact rfl) (by k_asm) (by k_asm) (by k_asm) (by k_room) (by k_units) ?_); intro r8 n8 h8 t8 F8 N8 P8; (obtain ⟨D2, e1, e2⟩ := P8); subst e1; subst e2; (try k_sweep))
          | ((show wpAny _ _ (call (Value.ref 331) _ _) _ _ _); (refine Sp.use2 (asked_spec _ (fun i => plainOf (figOf c5 i)) g _ _ _ _ _ _ _ (hg8.mono (subS subR)) (hpl8.mono (subS subR)) hok (by omega)) (by k_asm) (by k_asm) (by exact rfl) (by exact rfl) (by exact rfl) (by exact rfl) (by k_asm) (by k_asm) (by k_asm) (by k_room) (by k_units) ?_); intro r8 n8 h8 t8 F8 N8 P8; (obtain ⟨T9, rl, n10, vs10, N9, hs9, e1, hrl, hp10⟩ := ask_after N8 P8); subst e1; clear N8 P8; (have hD29 := hs9 _ (.head _)); (have hp9 := hp8.mono fun p hp => hs9 p (.tail _ hp)); (have hg9 := hg8.mono fun p hp => hs9 p (.tail _ hp)); (have hpl9 := hpl8.mono fun p hp => hs9 p (.tail _ hp)); (have ht19 := hs9 _ (.tail _ ht1)); (have ht29 := hs9 _ (.tail _ ht2)); (try k_sweep))
          | ((show wpAny _ _ (call (Value.ref 326) _ _) _ _ _); (refine Sp.use2 (worth_spec _ (fun i => plainOf (figOf c5 i)) g _ _ _ hg9 hpl9 hok (by omega)) (by k_asm) (by k_asm) (by exact rfl) (by exact rfl) (by exact rfl) (by exact rfl) (by k_asm) (by k_asm) (by k_asm) (by k_room) (by k_units) ?_); intro r8 n8 h8 t8 F8 N8 P8; (obtain ⟨e1, u8, e2⟩ := P8); subst e1; subst e2; (try k_sweep))
        k_with "eq" => (refine eq_pairs (by k_asm) hD29 hp9 hrl hp10 (asked_ok _ (fun i => plain_ok ⟨_, fig_lt c5 i⟩) g hok _ _) (by k_units) ?_)
        k_steps)
end
end Ul
theorem PySem.Challenge.cw_ul0027_01_holds : PySem.Challenge.rw_ul0027_01.Holds := by
  exact Ul.law_holds
