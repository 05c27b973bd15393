import PyProof.Rows.All
import Wide.All
import OpenK.AllK
import Wide.FinOn
import PySem.Challenge.RW_in0140_01
open PySem PySem.W PyProof.Rows
set_option Elab.async false
set_option maxRecDepth 100000
set_option maxHeartbeats 8000000
set_option linter.unusedVariables false
set_option rowWalk.seconds 0
section
open PySem PySem.W PyProof.Rows
set_option Elab.async false
set_option maxRecDepth 100000
namespace Mine
noncomputable def impEndsT (tb : String → Option Builtin) (p : Program) (w : World) : Nat → SharedT → Thread → Option SharedT
  | 0, _, _ => none
  | n + 1, s, t => match t.atExitBegin with
    | some [] => some s
    | some _ => none
    | none => match stepT (denote tb) p w s t with
      | some (s', t') => impEndsT tb p w n s' t'
      | none => none
theorem impEndsT_of {tb : String → Option Builtin} {p : Program} {w : World} : ∀ {n : Nat} {s s' : SharedT} {t : Thread}, impEndsT tb p w n s t = some s' → importEnds tb p w n s.abs t = some s'.abs
  | 0, _, _, _, h => by cases h
  | n + 1, s, s', t, h => by
    unfold impEndsT at h
    unfold importEnds
    cases he : t.atExitBegin with
    | some x =>
      rw [he] at h
      cases x with
      | nil => cases h; rfl
      | cons => cases h
    | none =>
      rw [he] at h
      cases hs : stepT (denote tb) p w s t with
      | none => rw [hs] at h; cases h
      | some r => obtain ⟨s₂, t₂⟩ := r; rw [hs] at h; dsimp only; rw [stepT_spec hs]; exact impEndsT_of h
noncomputable def layT : List Obj → BT → Nat → Option (BT × Nat)
  | [], T, n => some (T, n)
  | o :: l, T, n => match ((T.ins n o).get n).isSome with
    | true => layT l (T.ins n o) (n + 1)
    | false => none
theorem layT_abs {life : Life} : ∀ {l : List Obj} {T T' : BT} {n n' : Nat}, layT l T n = some (T', n') → absHeap T' n' life = ⟨(absHeap T n life).objs ++ l.toArray, life⟩
  | [], T, T', n, n', h => by cases h; simp [absHeap]
  | o :: l, T, T', n, n', h => by
    unfold layT at h
    cases hi : ((T.ins n o).get n).isSome with
    | false => rw [hi] at h; cases h
    | true =>
      rw [hi] at h
      rw [layT_abs h, absHeap_ins hi]
      simp [Heap.push]
noncomputable def toT? (s : Shared) : Option SharedT := match layT s.heap.objs.toList .nil 0 with
  | some (T, n) => some ⟨T, n, s.heap.life, s.gens, s.drawn, s.toks, s.os⟩
  | none => none
theorem toT_abs {s : Shared} {a : SharedT} (h : toT? s = some a) : a.abs = s := by
  unfold toT? at h
  cases hl : layT s.heap.objs.toList .nil 0 with
  | none => rw [hl] at h; cases h
  | some r =>
    obtain ⟨T, n⟩ := r
    rw [hl] at h
    cases h
    show (⟨absHeap T n s.heap.life, _, _, _, _⟩ : Shared) = s
    rw [layT_abs hl]
    obtain ⟨⟨objs, life⟩, _, _, _, _⟩ := s
    simp [absHeap, BT.list]
end Mine
end
section
open PySem PySem.W PyProof.Rows
set_option Elab.async false
set_option maxRecDepth 100000
set_option maxHeartbeats 80000000
namespace Mine
noncomputable abbrev pw := PySem.Challenge.pw_in0140_01
noncomputable def kids : Stmt → List Stmt
  | .FunctionDef _ _ b .. => b
  | .ClassDef _ _ _ b .. => b
  | _ => []
noncomputable def stAt : List Stmt → List Nat → Option Stmt
  | _, [] => none
  | l, [i] => l[i]?
  | l, i :: r => match l[i]? with
    | some s => stAt (kids s) r
    | none => none
noncomputable def fA (p : List Nat) : Arguments := match stAt pw.main.body p with
  | some (.FunctionDef _ a ..) => a
  | _ => default
noncomputable def fB (p : List Nat) : FuncBody := match stAt pw.main.body p with
  | some (.FunctionDef _ _ b ..) => .stmts b
  | _ => default
noncomputable def fS (p : List Nat) : Scope := match stAt pw.main.body p with
  | some (.FunctionDef _ _ _ _ _ _ s ..) => s
  | _ => default
noncomputable abbrev so (x : String) : PySem.Str := Str.ofString x
noncomputable abbrev vs (x : String) (t : Nat) : Value := Value.str (Str.ofString x) t
noncomputable abbrev vi (x : Int) (t : Nat) : Value := Value.int x t
noncomputable abbrev vr (x : Nat) : Value := Value.ref x
noncomputable abbrev vn : Value := Value.none
noncomputable abbrev kh (P : Params) (x : PySem.Str) := PyData.keyHash P x
noncomputable def K : Params → Frag := fun P =>
(nat_lit 2, { cls := vn, data := Data.dict #[{ hash := kh P (so "\x69mport.loaded._sre"), key := vs "\x69mport.loaded._sre" 183, val := Value.bool true }, { hash := kh P (so "class._frozen_importlib.BuiltinImporter"), key := vs "class._frozen_importlib.BuiltinImporter" 185, val := vr 14 }, { hash := kh P (so "watched.\x69mport"), key := vs "watched.\x69mport" 206, val := vr 18 }, { hash := kh P (so "class._frozen_importlib.ModuleSpec"), key := vs "class._frozen_importlib.ModuleSpec" 216, val := vr 22 }, { hash := kh P (so "sys.modules.booked-epoch"), key := vs "sys.modules.booked-epoch" 245, val := vi 4 0 }, { hash := kh P (so "\x69mport.later-laid._sre"), key := vs "\x69mport.later-laid._sre" 270, val := Value.bool true }, { hash := kh P (so "watched.library"), key := vs "watched.library" 272, val := vr 27 }, { hash := kh P (so "watched.library-objects"), key := vs "watched.library-objects" 0, val := vs "\x0c\x1e" 0 }, { hash := kh P (so "watched.library-deep._sre"), key := vs "watched.library-deep._sre" 273, val := vs "\x04\x00\x00\x0b\x04\x00\x00\x0b\x04\x00\x00\x03\x04\x00\x00\x0b\x08\x04dict\x02" 0 }, { hash := kh P (so "\x69mport.loaded._collections"), key := vs "\x69mport.loaded._collections" 280, val := Value.bool true }, { hash := kh P (so "sys.modules.landed._collections"), key := vs "sys.modules.landed._collections" 294, val := Value.bool true }, { hash := kh P (so "\x69mport.later-laid._collections"), key := vs "\x69mport.later-laid._collections" 309, val := Value.bool true }, { hash := kh P (so "watched.library-deep._collections"), key := vs "watched.library-deep._collections" 311, val := vs "\x04\x00\x00\x1d\x04\x00\x00\x1d\x04\x00\x00\x03\x04\x00\x00\x1d\x08\x04dict\x02" 0 }, { hash := kh P (so "type.__subclasses__.OSError.0"), key := vs "type.__subclasses__.OSError.0" 480, val := vi 123 0 }, { hash := kh P (so "type.__subclasses__.OSError.n"), key := vs "type.__subclasses__.OSError.n" 481, val := vi 1 0 }] 15 }) ::
(nat_lit 3, { cls := Value.type "dict", data := Data.dict #[{ hash := kh P (so "__name__"), key := vs "__name__" 165, val := vs "law_in0140_01" 1309 }, { hash := kh P (so "__doc__"), key := vs "__doc__" 166, val := vn }, { hash := kh P (so "__package__"), key := vs "__package__" 167, val := vn }, { hash := kh P (so "__loader__"), key := vs "__loader__" 168, val := Value.builtin "__main__.__loader__#opaque" }, { hash := kh P (so "__spec__"), key := vs "__spec__" 169, val := vn }, { hash := kh P (so "__annotations__"), key := vs "__annotations__" 170, val := vr 6 }, { hash := kh P (so "__builtins__"), key := vs "__builtins__" 171, val := vr 4 }, { hash := kh P (so "__file__"), key := vs "__file__" 173, val := vs "/claim/cut.py" 172 }, { hash := kh P (so "__cached__"), key := vs "__cached__" 174, val := vn }, { hash := kh P (so "_sre"), key := vs "_sre" 275, val := vr 12 }, { hash := kh P (so "deque"), key := vs "deque" 317, val := Value.type "collections.deque" }, { hash := kh P (so "_wall"), key := vs "_wall" 330, val := vr 44 }, { hash := kh P (so "_MAX_LENGTH"), key := vs "_MAX_LENGTH" 334, val := vi 80 333 }, { hash := kh P (so "safe_repr"), key := vs "safe_repr" 343, val := vr 52 }, { hash := kh P (so "_netrclex"), key := vs "_netrclex" 403, val := vr 90 }, { hash := kh P (so "_twin_re_1"), key := vs "_twin_re_1" 443, val := vr 99 }, { hash := kh P (so "_whence"), key := vs "_whence" 453, val := vr 106 }, { hash := kh P (so "_index"), key := vs "_index" 461, val := vr 113 }, { hash := kh P (so "UnsupportedOperation"), key := vs "UnsupportedOperation" 483, val := vr 123 }, { hash := kh P (so "IOBase"), key := vs "IOBase" 515, val := vr 143 }, { hash := kh P (so "BufferedIOBase"), key := vs "BufferedIOBase" 533, val := vr 158 }, { hash := kh P (so "TextIOBase"), key := vs "TextIOBase" 551, val := vr 170 }, { hash := kh P (so "BytesIO"), key := vs "BytesIO" 813, val := vr 400 }, { hash := kh P (so "StringIO"), key := vs "StringIO" 1100, val := vr 647 }, { hash := kh P (so "_kind"), key := vs "_kind" 1111, val := vr 656 }, { hash := kh P (so "_fspath"), key := vs "_fspath" 1120, val := vr 663 }, { hash := kh P (so "_check_arg_types"), key := vs "_check_arg_types" 1130, val := vr 670 }, { hash := kh P (so "isabs"), key := vs "isabs" 1137, val := vr 677 }, { hash := kh P (so "join"), key := vs "join" 1148, val := vr 684 }, { hash := kh P (so "dirname"), key := vs "dirname" 1158, val := vr 691 }, { hash := kh P (so "shlex"), key := vs "shlex" 1299, val := vr 782 }, { hash := kh P (so "_find_unsafe"), key := vs "_find_unsafe" 1301, val := vr 787 }, { hash := kh P (so "quote"), key := vs "quote" 1308, val := vr 794 }, { hash := kh P (so "_law_stream"), key := vs "_law_stream" 1321, val := vr 801 }, { hash := kh P (so "_law_words"), key := vs "_law_words" 1327, val := vr 806 }, { hash := kh P (so "_law_escaped"), key := vs "_law_escaped" 1336, val := vr 813 }, { hash := kh P (so "_law_netrc"), key := vs "_law_netrc" 1344, val := vr 820 }, { hash := kh P (so "_law_shell"), key := vs "_law_shell" 1352, val := vr 827 }, { hash := kh P (so "_law_first"), key := vs "_law_first" 1366, val := vr 834 }, { hash := kh P (so "_law_second"), key := vs "_law_second" 1380, val := vr 841 }, { hash := kh P (so "law"), key := vs "law" 1386, val := vr 846 }] 41 }) ::
(nat_lit 38, { cls := Value.type "tuple", data := Data.seq #[] }) ::
(nat_lit 40, { cls := Value.type "tuple", data := Data.seq #[vs "k" 327] }) ::
(nat_lit 41, { cls := Value.type "tuple", data := Data.seq #[] }) ::
(nat_lit 43, { cls := Value.type "code", data := Data.fields #[vs "_wall" 324, vs "_wall" 325, vs "/claim/cut.py" 326, vi 3 0, vi 1 0, vi 0 0, vi 0 0, vi 3 0, vr 38, Value.bool true, vi 318 0, vr 39, vn, vr 40, vr 41, vr 42, vi 328 0, vi 3 0, vs "/claim/cut.py" 329] }) ::
(nat_lit 44, { cls := Value.type "function", data := Data.func { name := so "_wall", qualname := so "_wall", params := Mine.fA [2], body := Mine.fB [2], scope := Mine.fS [2], globals := 3, closure := [], defaults := vn, kwdefaults := vn, pyModule := vs "__main__" 164, code := vr 43 } }) ::
(nat_lit 45, { cls := Value.type "tuple", data := Data.seq #[Value.bool false] }) ::
(nat_lit 46, { cls := Value.type "tuple", data := Data.seq #[] }) ::
(nat_lit 48, { cls := Value.type "tuple", data := Data.seq #[vs "obj" 338, vs "short" 339, vs "result" 340] }) ::
(nat_lit 49, { cls := Value.type "tuple", data := Data.seq #[] }) ::
(nat_lit 51, { cls := Value.type "code", data := Data.fields #[vs "safe_repr" 335, vs "safe_repr" 336, vs "/claim/cut.py" 337, vi 8 0, vi 2 0, vi 0 0, vi 0 0, vi 3 0, vr 46, Value.bool true, vi 318 0, vr 47, vn, vr 48, vr 49, vr 50, vi 341 0, vi 8 0, vs "/claim/cut.py" 342] }) ::
(nat_lit 52, { cls := Value.type "function", data := Data.func { name := so "safe_repr", qualname := so "safe_repr", params := Mine.fA [5], body := Mine.fB [5], scope := Mine.fS [5], globals := 3, closure := [], defaults := vr 45, kwdefaults := vn, pyModule := vs "cpy313.unittest.util" 331, code := vr 51 } }) ::
(nat_lit 60, { cls := Value.type "tuple", data := Data.seq #[] }) ::
(nat_lit 62, { cls := Value.type "tuple", data := Data.seq #[vs "self" 361, vs "fp" 362] }) ::
(nat_lit 63, { cls := Value.type "tuple", data := Data.seq #[] }) ::
(nat_lit 65, { cls := Value.type "code", data := Data.fields #[vs "__init__" 358, vs "_netrclex.__init__" 359, vs "/claim/cut.py" 360, vi 19 0, vi 2 0, vi 0 0, vi 0 0, vi 3 0, vr 60, Value.bool true, vi 318 0, vr 61, vn, vr 62, vr 63, vr 64, vi 363 0, vi 19 0, vs "/claim/cut.py" 364] }) ::
(nat_lit 66, { cls := Value.type "function", data := Data.func { name := so "__init__", qualname := so "_netrclex.__init__", params := Mine.fA [7, 0], body := Mine.fB [7, 0], scope := Mine.fS [7, 0], globals := 3, closure := [], defaults := vn, kwdefaults := vn, pyModule := vs "cpy313.netrc" 344, code := vr 65 } }) ::
(nat_lit 67, { cls := Value.type "tuple", data := Data.seq #[] }) ::
(nat_lit 69, { cls := Value.type "tuple", data := Data.seq #[vs "self" 369, vs "ch" 370] }) ::
(nat_lit 70, { cls := Value.type "tuple", data := Data.seq #[] }) ::
(nat_lit 72, { cls := Value.type "code", data := Data.fields #[vs "_read_char" 366, vs "_netrclex._read_char" 367, vs "/claim/cut.py" 368, vi 25 0, vi 1 0, vi 0 0, vi 0 0, vi 3 0, vr 67, Value.bool true, vi 318 0, vr 68, vn, vr 69, vr 70, vr 71, vi 371 0, vi 25 0, vs "/claim/cut.py" 372] }) ::
(nat_lit 73, { cls := Value.type "function", data := Data.func { name := so "_read_char", qualname := so "_netrclex._read_char", params := Mine.fA [7, 1], body := Mine.fB [7, 1], scope := Mine.fS [7, 1], globals := 3, closure := [], defaults := vn, kwdefaults := vn, pyModule := vs "cpy313.netrc" 344, code := vr 72 } }) ::
(nat_lit 74, { cls := Value.type "tuple", data := Data.seq #[] }) ::
(nat_lit 76, { cls := Value.type "tuple", data := Data.seq #[vs "self" 377, vs "token" 378, vs "fiter" 379, vs "ch" 380] }) ::
(nat_lit 77, { cls := Value.type "tuple", data := Data.seq #[] }) ::
(nat_lit 79, { cls := Value.type "code", data := Data.fields #[vs "get_token" 374, vs "_netrclex.get_token" 375, vs "/claim/cut.py" 376, vi 31 0, vi 1 0, vi 0 0, vi 0 0, vi 3 0, vr 74, Value.bool true, vi 318 0, vr 75, vn, vr 76, vr 77, vr 78, vi 381 0, vi 31 0, vs "/claim/cut.py" 382] }) ::
(nat_lit 80, { cls := Value.type "function", data := Data.func { name := so "get_token", qualname := so "_netrclex.get_token", params := Mine.fA [7, 2], body := Mine.fB [7, 2], scope := Mine.fS [7, 2], globals := 3, closure := [], defaults := vn, kwdefaults := vn, pyModule := vs "cpy313.netrc" 344, code := vr 79 } }) ::
(nat_lit 81, { cls := Value.type "tuple", data := Data.seq #[] }) ::
(nat_lit 83, { cls := Value.type "tuple", data := Data.seq #[vs "self" 387, vs "token" 388] }) ::
(nat_lit 84, { cls := Value.type "tuple", data := Data.seq #[] }) ::
(nat_lit 86, { cls := Value.type "code", data := Data.fields #[vs "push_token" 384, vs "_netrclex.push_token" 385, vs "/claim/cut.py" 386, vi 58 0, vi 2 0, vi 0 0, vi 0 0, vi 3 0, vr 81, Value.bool true, vi 318 0, vr 82, vn, vr 83, vr 84, vr 85, vi 389 0, vi 58 0, vs "/claim/cut.py" 390] }) ::
(nat_lit 87, { cls := Value.type "function", data := Data.func { name := so "push_token", qualname := so "_netrclex.push_token", params := Mine.fA [7, 3], body := Mine.fB [7, 3], scope := Mine.fS [7, 3], globals := 3, closure := [], defaults := vn, kwdefaults := vn, pyModule := vs "cpy313.netrc" 344, code := vr 86 } }) ::
(nat_lit 88, { cls := Value.type "tuple", data := Data.seq #[vs "instream" 392, vs "lineno" 393, vs "pushback" 394, vs "whitespace" 395] }) ::
(nat_lit 89, { cls := Value.type "dict", data := Data.dict #[{ hash := kh P (so "__module__"), key := vs "__module__" 353, val := vs "cpy313.netrc" 344 }, { hash := kh P (so "__firstlineno__"), key := vs "__firstlineno__" 357, val := vi 17 356 }, { hash := kh P (so "__init__"), key := vs "__init__" 365, val := vr 66 }, { hash := kh P (so "_read_char"), key := vs "_read_char" 373, val := vr 73 }, { hash := kh P (so "get_token"), key := vs "get_token" 383, val := vr 80 }, { hash := kh P (so "push_token"), key := vs "push_token" 391, val := vr 87 }, { hash := kh P (so "__static_attributes__"), key := vs "__static_attributes__" 396, val := vr 88 }, { hash := kh P (so "__dict__"), key := vs "__dict__" 398, val := vr 91 }, { hash := kh P (so "__weakref__"), key := vs "__weakref__" 400, val := vr 92 }, { hash := kh P (so "__doc__"), key := vs "__doc__" 401, val := vn }] 4 }) ::
(nat_lit 90, { cls := Value.type "type", data := Data.cls { name := so "_netrclex", bases := [Value.type "object"], mro := [vr 90, Value.type "object"], ns := 89, qualname := so "_netrclex" }, slots := #[none, none, some (vs "_netrclex" 346), some (vs "_netrclex" 354), some (Value.builtin "object.__new__"), some (Value.bool true)] }) ::
(nat_lit 91, { cls := Value.type "getset_descriptor", data := Data.fields #[vs "__dict__" 397, vr 90, Value.builtin "function.__dict__", Value.builtin "function.__dict__#set"] }) ::
(nat_lit 92, { cls := Value.type "getset_descriptor", data := Data.fields #[vs "__weakref__" 399, vr 90, Value.builtin "ExceptionGroup.__weakref__", vn] }) ::
(nat_lit 98, { cls := Value.type "tuple", data := Data.seq #[vi 14 0, vi 17 0, vi 4 0, vi 1 0, vi 1 0, vi 21 0, vi 9 0, vi 0 0, vi 604043296 0, vi 1 0, vi 0 0, vi 0 0, vi 0 0, vi 0 0, vi 0 0, vi 8 0, vi 4 0, vi 0 0, vi 13 0, vi 14 0, vi 21 0, vi 9 0, vi 0 0, vi 604043296 0, vi 1 0, vi 0 0, vi 0 0, vi 0 0, vi 0 0, vi 0 0, vi 8 0, vi 4 0, vi 0 0, vi 1 0] }) ::
(nat_lit 99, { cls := Value.type "re.Pattern", data := Data.fields #[vs "[^\\w@%+=:,./-]" 405, vi 256 442, vi 0 0, vn, vn, vr 98, vi 0 0] }) ::
(nat_lit 100, { cls := Value.type "tuple", data := Data.seq #[] }) ::
(nat_lit 102, { cls := Value.type "tuple", data := Data.seq #[vs "n" 449, vs "what" 450] }) ::
(nat_lit 103, { cls := Value.type "tuple", data := Data.seq #[] }) ::
(nat_lit 105, { cls := Value.type "code", data := Data.fields #[vs "_whence" 446, vs "_whence" 447, vs "/claim/cut.py" 448, vi 62 0, vi 2 0, vi 0 0, vi 0 0, vi 3 0, vr 100, Value.bool true, vi 318 0, vr 101, vn, vr 102, vr 103, vr 104, vi 451 0, vi 62 0, vs "/claim/cut.py" 452] }) ::
(nat_lit 106, { cls := Value.type "function", data := Data.func { name := so "_whence", qualname := so "_whence", params := Mine.fA [10], body := Mine.fB [10], scope := Mine.fS [10], globals := 3, closure := [], defaults := vn, kwdefaults := vn, pyModule := vs "io" 444, code := vr 105 } }) ::
(nat_lit 107, { cls := Value.type "tuple", data := Data.seq #[] }) ::
(nat_lit 109, { cls := Value.type "tuple", data := Data.seq #[vs "n" 457, vs "what" 458] }) ::
(nat_lit 110, { cls := Value.type "tuple", data := Data.seq #[] }) ::
(nat_lit 112, { cls := Value.type "code", data := Data.fields #[vs "_index" 454, vs "_index" 455, vs "/claim/cut.py" 456, vi 67 0, vi 2 0, vi 0 0, vi 0 0, vi 3 0, vr 107, Value.bool true, vi 318 0, vr 108, vn, vr 109, vr 110, vr 111, vi 459 0, vi 67 0, vs "/claim/cut.py" 460] }) ::
(nat_lit 113, { cls := Value.type "function", data := Data.func { name := so "_index", qualname := so "_index", params := Mine.fA [11], body := Mine.fB [11], scope := Mine.fS [11], globals := 3, closure := [], defaults := vn, kwdefaults := vn, pyModule := vs "io" 444, code := vr 112 } }) ::
(nat_lit 114, { cls := Value.type "tuple", data := Data.seq #[Value.type "OSError", Value.type "ValueError"] }) ::
(nat_lit 121, { cls := Value.type "tuple", data := Data.seq #[] }) ::
(nat_lit 122, { cls := Value.type "dict", data := Data.dict #[{ hash := kh P (so "__module__"), key := vs "__module__" 469, val := vs "io" 474 }, { hash := kh P (so "__firstlineno__"), key := vs "__firstlineno__" 473, val := vi 74 472 }, { hash := kh P (so "__static_attributes__"), key := vs "__static_attributes__" 476, val := vr 121 }, { hash := kh P (so "__weakref__"), key := vs "__weakref__" 478, val := vr 124 }, { hash := kh P (so "__doc__"), key := vs "__doc__" 479, val := vn }] 3 }) ::
(nat_lit 123, { cls := Value.type "type", data := Data.cls { name := so "UnsupportedOperation", bases := [Value.type "OSError", Value.type "ValueError"], mro := [vr 123, Value.type "OSError", Value.type "ValueError", Value.type "Exception", Value.type "BaseException", Value.type "object"], ns := 122, qualname := so "UnsupportedOperation" }, slots := #[some (vr 114), none, some (vs "UnsupportedOperation" 462), some (vs "UnsupportedOperation" 470), some (Value.builtin "OSError.__new__"), some (Value.bool true)] }) ::
(nat_lit 124, { cls := Value.type "getset_descriptor", data := Data.fields #[vs "__weakref__" 477, vr 123, Value.builtin "ExceptionGroup.__weakref__", vn] }) ::
(nat_lit 134, { cls := Value.type "tuple", data := Data.seq #[] }) ::
(nat_lit 136, { cls := Value.type "tuple", data := Data.seq #[vs "cls" 501, vs "args" 502, vs "kwargs" 503] }) ::
(nat_lit 137, { cls := Value.type "tuple", data := Data.seq #[] }) ::
(nat_lit 139, { cls := Value.type "code", data := Data.fields #[vs "__new__" 498, vs "IOBase.__new__" 499, vs "/claim/cut.py" 500, vi 79 0, vi 1 0, vi 1 0, vi 0 0, vi 15 0, vr 134, Value.bool true, vi 318 0, vr 135, vn, vr 136, vr 137, vr 138, vi 504 0, vi 79 0, vs "/claim/cut.py" 505] }) ::
(nat_lit 140, { cls := Value.type "function", data := Data.func { name := so "__new__", qualname := so "IOBase.__new__", params := Mine.fA [13, 1], body := Mine.fB [13, 1], scope := Mine.fS [13, 1], globals := 3, closure := [], defaults := vn, kwdefaults := vn, pyModule := vs "io" 444, code := vr 139 } }) ::
(nat_lit 141, { cls := Value.type "tuple", data := Data.seq #[] }) ::
(nat_lit 142, { cls := Value.type "dict", data := Data.dict #[{ hash := kh P (so "__module__"), key := vs "__module__" 491, val := vs "io" 496 }, { hash := kh P (so "__firstlineno__"), key := vs "__firstlineno__" 495, val := vi 76 494 }, { hash := kh P (so "__new__"), key := vs "__new__" 506, val := vr 144 }, { hash := kh P (so "__static_attributes__"), key := vs "__static_attributes__" 507, val := vr 141 }, { hash := kh P (so "__dict__"), key := vs "__dict__" 510, val := vr 145 }, { hash := kh P (so "__weakref__"), key := vs "__weakref__" 512, val := vr 146 }, { hash := kh P (so "__doc__"), key := vs "__doc__" 513, val := vn }] 4 }) ::
(nat_lit 143, { cls := Value.type "type", data := Data.cls { name := so "IOBase", bases := [Value.type "object"], mro := [vr 143, Value.type "object"], ns := 142, qualname := so "IOBase", subclasses := [vr 158, vr 170] }, slots := #[none, none, some (vs "IOBase" 484), some (vs "IOBase" 492), some vn, some (Value.bool true)] }) ::
(nat_lit 144, { cls := Value.type "staticmethod", data := Data.fields #[vr 140] }) ::
(nat_lit 145, { cls := Value.type "getset_descriptor", data := Data.fields #[vs "__dict__" 509, vr 143, Value.builtin "function.__dict__", Value.builtin "function.__dict__#set"] }) ::
(nat_lit 146, { cls := Value.type "getset_descriptor", data := Data.fields #[vs "__weakref__" 511, vr 143, Value.builtin "ExceptionGroup.__weakref__", vn] }) ::
(nat_lit 149, { cls := Value.type "tuple", data := Data.seq #[vr 143] }) ::
(nat_lit 156, { cls := Value.type "tuple", data := Data.seq #[] }) ::
(nat_lit 157, { cls := Value.type "dict", data := Data.dict #[{ hash := kh P (so "__module__"), key := vs "__module__" 523, val := vs "io" 528 }, { hash := kh P (so "__firstlineno__"), key := vs "__firstlineno__" 527, val := vi 83 526 }, { hash := kh P (so "__static_attributes__"), key := vs "__static_attributes__" 530, val := vr 156 }, { hash := kh P (so "__doc__"), key := vs "__doc__" 531, val := vn }] 2 }) ::
(nat_lit 158, { cls := Value.type "type", data := Data.cls { name := so "BufferedIOBase", bases := [vr 143], mro := [vr 158, vr 143, Value.type "object"], ns := 157, qualname := so "BufferedIOBase", subclasses := [vr 400] }, slots := #[some (vr 149), none, some (vs "BufferedIOBase" 516), some (vs "BufferedIOBase" 524), some vn, some (Value.bool true)] }) ::
(nat_lit 161, { cls := Value.type "tuple", data := Data.seq #[vr 143] }) ::
(nat_lit 168, { cls := Value.type "tuple", data := Data.seq #[] }) ::
(nat_lit 169, { cls := Value.type "dict", data := Data.dict #[{ hash := kh P (so "__module__"), key := vs "__module__" 541, val := vs "io" 546 }, { hash := kh P (so "__firstlineno__"), key := vs "__firstlineno__" 545, val := vi 85 544 }, { hash := kh P (so "__static_attributes__"), key := vs "__static_attributes__" 548, val := vr 168 }, { hash := kh P (so "__doc__"), key := vs "__doc__" 549, val := vn }] 2 }) ::
(nat_lit 170, { cls := Value.type "type", data := Data.cls { name := so "TextIOBase", bases := [vr 143], mro := [vr 170, vr 143, Value.type "object"], ns := 169, qualname := so "TextIOBase", subclasses := [vr 647] }, slots := #[some (vr 161), none, some (vs "TextIOBase" 534), some (vs "TextIOBase" 542), some vn, some (Value.bool true)] }) ::
(nat_lit 173, { cls := Value.type "tuple", data := Data.seq #[vr 158] }) ::
(nat_lit 180, { cls := Value.type "tuple", data := Data.seq #[vn] }) ::
(nat_lit 181, { cls := Value.type "tuple", data := Data.seq #[] }) ::
(nat_lit 183, { cls := Value.type "tuple", data := Data.seq #[vs "self" 569, vs "initial_bytes" 570] }) ::
(nat_lit 184, { cls := Value.type "tuple", data := Data.seq #[] }) ::
(nat_lit 186, { cls := Value.type "code", data := Data.fields #[vs "__init__" 566, vs "BytesIO.__init__" 567, vs "/claim/cut.py" 568, vi 90 0, vi 2 0, vi 0 0, vi 0 0, vi 3 0, vr 181, Value.bool true, vi 318 0, vr 182, vn, vr 183, vr 184, vr 185, vi 571 0, vi 90 0, vs "/claim/cut.py" 572] }) ::
(nat_lit 187, { cls := Value.type "function", data := Data.func { name := so "__init__", qualname := so "BytesIO.__init__", params := Mine.fA [16, 1], body := Mine.fB [16, 1], scope := Mine.fS [16, 1], globals := 3, closure := [], defaults := vr 180, kwdefaults := vn, pyModule := vs "io" 444, code := vr 186 } }) ::
(nat_lit 188, { cls := Value.type "tuple", data := Data.seq #[] }) ::
(nat_lit 190, { cls := Value.type "tuple", data := Data.seq #[vs "self" 577] }) ::
(nat_lit 191, { cls := Value.type "tuple", data := Data.seq #[] }) ::
(nat_lit 193, { cls := Value.type "code", data := Data.fields #[vs "__check" 574, vs "BytesIO.__check" 575, vs "/claim/cut.py" 576, vi 96 0, vi 1 0, vi 0 0, vi 0 0, vi 3 0, vr 188, Value.bool true, vi 318 0, vr 189, vn, vr 190, vr 191, vr 192, vi 578 0, vi 96 0, vs "/claim/cut.py" 579] }) ::
(nat_lit 194, { cls := Value.type "function", data := Data.func { name := so "__check", qualname := so "BytesIO.__check", params := Mine.fA [16, 2], body := Mine.fB [16, 2], scope := Mine.fS [16, 2], globals := 3, closure := [], defaults := vn, kwdefaults := vn, pyModule := vs "io" 444, code := vr 193 } }) ::
(nat_lit 195, { cls := Value.type "tuple", data := Data.seq #[] }) ::
(nat_lit 197, { cls := Value.type "tuple", data := Data.seq #[vs "self" 584, vs "limit" 585, vs "start" 586, vs "stop" 587, vs "i" 588] }) ::
(nat_lit 198, { cls := Value.type "tuple", data := Data.seq #[] }) ::
(nat_lit 200, { cls := Value.type "code", data := Data.fields #[vs "__line" 581, vs "BytesIO.__line" 582, vs "/claim/cut.py" 583, vi 100 0, vi 2 0, vi 0 0, vi 0 0, vi 3 0, vr 195, Value.bool true, vi 318 0, vr 196, vn, vr 197, vr 198, vr 199, vi 589 0, vi 100 0, vs "/claim/cut.py" 590] }) ::
(nat_lit 201, { cls := Value.type "function", data := Data.func { name := so "__line", qualname := so "BytesIO.__line", params := Mine.fA [16, 3], body := Mine.fB [16, 3], scope := Mine.fS [16, 3], globals := 3, closure := [], defaults := vn, kwdefaults := vn, pyModule := vs "io" 444, code := vr 200 } }) ::
(nat_lit 202, { cls := Value.type "tuple", data := Data.seq #[] }) ::
(nat_lit 204, { cls := Value.type "tuple", data := Data.seq #[vs "self" 595] }) ::
(nat_lit 205, { cls := Value.type "tuple", data := Data.seq #[] }) ::
(nat_lit 207, { cls := Value.type "code", data := Data.fields #[vs "closed" 592, vs "BytesIO.closed" 593, vs "/claim/cut.py" 594, vi 113 0, vi 1 0, vi 0 0, vi 0 0, vi 3 0, vr 202, Value.bool true, vi 318 0, vr 203, vn, vr 204, vr 205, vr 206, vi 596 0, vi 113 0, vs "/claim/cut.py" 597] }) ::
(nat_lit 208, { cls := Value.type "function", data := Data.func { name := so "closed", qualname := so "BytesIO.closed", params := Mine.fA [16, 4], body := Mine.fB [16, 4], scope := Mine.fS [16, 4], globals := 3, closure := [], defaults := vn, kwdefaults := vn, pyModule := vs "io" 444, code := vr 207 } }) ::
(nat_lit 209, { cls := Value.type "property", data := Data.fields #[vr 208, vn, vn, vn, vs "closed" 599, Value.bool false] }) ::
(nat_lit 210, { cls := Value.type "tuple", data := Data.seq #[] }) ::
(nat_lit 212, { cls := Value.type "tuple", data := Data.seq #[vs "self" 603] }) ::
(nat_lit 213, { cls := Value.type "tuple", data := Data.seq #[] }) ::
(nat_lit 215, { cls := Value.type "code", data := Data.fields #[vs "close" 600, vs "BytesIO.close" 601, vs "/claim/cut.py" 602, vi 117 0, vi 1 0, vi 0 0, vi 0 0, vi 3 0, vr 210, Value.bool true, vi 318 0, vr 211, vn, vr 212, vr 213, vr 214, vi 604 0, vi 117 0, vs "/claim/cut.py" 605] }) ::
(nat_lit 216, { cls := Value.type "function", data := Data.func { name := so "close", qualname := so "BytesIO.close", params := Mine.fA [16, 5], body := Mine.fB [16, 5], scope := Mine.fS [16, 5], globals := 3, closure := [], defaults := vn, kwdefaults := vn, pyModule := vs "io" 444, code := vr 215 } }) ::
(nat_lit 217, { cls := Value.type "tuple", data := Data.seq #[] }) ::
(nat_lit 219, { cls := Value.type "tuple", data := Data.seq #[vs "self" 610] }) ::
(nat_lit 220, { cls := Value.type "tuple", data := Data.seq #[] }) ::
(nat_lit 222, { cls := Value.type "code", data := Data.fields #[vs "__enter__" 607, vs "BytesIO.__enter__" 608, vs "/claim/cut.py" 609, vi 120 0, vi 1 0, vi 0 0, vi 0 0, vi 3 0, vr 217, Value.bool true, vi 318 0, vr 218, vn, vr 219, vr 220, vr 221, vi 611 0, vi 120 0, vs "/claim/cut.py" 612] }) ::
(nat_lit 223, { cls := Value.type "function", data := Data.func { name := so "__enter__", qualname := so "BytesIO.__enter__", params := Mine.fA [16, 6], body := Mine.fB [16, 6], scope := Mine.fS [16, 6], globals := 3, closure := [], defaults := vn, kwdefaults := vn, pyModule := vs "io" 444, code := vr 222 } }) ::
(nat_lit 224, { cls := Value.type "tuple", data := Data.seq #[] }) ::
(nat_lit 226, { cls := Value.type "tuple", data := Data.seq #[vs "self" 617, vs "args" 618] }) ::
(nat_lit 227, { cls := Value.type "tuple", data := Data.seq #[] }) ::
(nat_lit 229, { cls := Value.type "code", data := Data.fields #[vs "__exit__" 614, vs "BytesIO.__exit__" 615, vs "/claim/cut.py" 616, vi 124 0, vi 1 0, vi 0 0, vi 0 0, vi 7 0, vr 224, Value.bool true, vi 318 0, vr 225, vn, vr 226, vr 227, vr 228, vi 619 0, vi 124 0, vs "/claim/cut.py" 620] }) ::
(nat_lit 230, { cls := Value.type "function", data := Data.func { name := so "__exit__", qualname := so "BytesIO.__exit__", params := Mine.fA [16, 7], body := Mine.fB [16, 7], scope := Mine.fS [16, 7], globals := 3, closure := [], defaults := vn, kwdefaults := vn, pyModule := vs "io" 444, code := vr 229 } }) ::
(nat_lit 231, { cls := Value.type "tuple", data := Data.seq #[] }) ::
(nat_lit 233, { cls := Value.type "tuple", data := Data.seq #[vs "self" 625] }) ::
(nat_lit 234, { cls := Value.type "tuple", data := Data.seq #[] }) ::
(nat_lit 236, { cls := Value.type "code", data := Data.fields #[vs "readable" 622, vs "BytesIO.readable" 623, vs "/claim/cut.py" 624, vi 127 0, vi 1 0, vi 0 0, vi 0 0, vi 3 0, vr 231, Value.bool true, vi 318 0, vr 232, vn, vr 233, vr 234, vr 235, vi 626 0, vi 127 0, vs "/claim/cut.py" 627] }) ::
(nat_lit 237, { cls := Value.type "function", data := Data.func { name := so "readable", qualname := so "BytesIO.readable", params := Mine.fA [16, 8], body := Mine.fB [16, 8], scope := Mine.fS [16, 8], globals := 3, closure := [], defaults := vn, kwdefaults := vn, pyModule := vs "io" 444, code := vr 236 } }) ::
(nat_lit 238, { cls := Value.type "tuple", data := Data.seq #[] }) ::
(nat_lit 240, { cls := Value.type "tuple", data := Data.seq #[vs "self" 632] }) ::
(nat_lit 241, { cls := Value.type "tuple", data := Data.seq #[] }) ::
(nat_lit 243, { cls := Value.type "code", data := Data.fields #[vs "writable" 629, vs "BytesIO.writable" 630, vs "/claim/cut.py" 631, vi 131 0, vi 1 0, vi 0 0, vi 0 0, vi 3 0, vr 238, Value.bool true, vi 318 0, vr 239, vn, vr 240, vr 241, vr 242, vi 633 0, vi 131 0, vs "/claim/cut.py" 634] }) ::
(nat_lit 244, { cls := Value.type "function", data := Data.func { name := so "writable", qualname := so "BytesIO.writable", params := Mine.fA [16, 9], body := Mine.fB [16, 9], scope := Mine.fS [16, 9], globals := 3, closure := [], defaults := vn, kwdefaults := vn, pyModule := vs "io" 444, code := vr 243 } }) ::
(nat_lit 245, { cls := Value.type "tuple", data := Data.seq #[] }) ::
(nat_lit 247, { cls := Value.type "tuple", data := Data.seq #[vs "self" 639] }) ::
(nat_lit 248, { cls := Value.type "tuple", data := Data.seq #[] }) ::
(nat_lit 250, { cls := Value.type "code", data := Data.fields #[vs "seekable" 636, vs "BytesIO.seekable" 637, vs "/claim/cut.py" 638, vi 135 0, vi 1 0, vi 0 0, vi 0 0, vi 3 0, vr 245, Value.bool true, vi 318 0, vr 246, vn, vr 247, vr 248, vr 249, vi 640 0, vi 135 0, vs "/claim/cut.py" 641] }) ::
(nat_lit 251, { cls := Value.type "function", data := Data.func { name := so "seekable", qualname := so "BytesIO.seekable", params := Mine.fA [16, 10], body := Mine.fB [16, 10], scope := Mine.fS [16, 10], globals := 3, closure := [], defaults := vn, kwdefaults := vn, pyModule := vs "io" 444, code := vr 250 } }) ::
(nat_lit 252, { cls := Value.type "tuple", data := Data.seq #[] }) ::
(nat_lit 254, { cls := Value.type "tuple", data := Data.seq #[vs "self" 646] }) ::
(nat_lit 255, { cls := Value.type "tuple", data := Data.seq #[] }) ::
(nat_lit 257, { cls := Value.type "code", data := Data.fields #[vs "isatty" 643, vs "BytesIO.isatty" 644, vs "/claim/cut.py" 645, vi 139 0, vi 1 0, vi 0 0, vi 0 0, vi 3 0, vr 252, Value.bool true, vi 318 0, vr 253, vn, vr 254, vr 255, vr 256, vi 647 0, vi 139 0, vs "/claim/cut.py" 648] }) ::
(nat_lit 258, { cls := Value.type "function", data := Data.func { name := so "isatty", qualname := so "BytesIO.isatty", params := Mine.fA [16, 11], body := Mine.fB [16, 11], scope := Mine.fS [16, 11], globals := 3, closure := [], defaults := vn, kwdefaults := vn, pyModule := vs "io" 444, code := vr 257 } }) ::
(nat_lit 259, { cls := Value.type "tuple", data := Data.seq #[] }) ::
(nat_lit 261, { cls := Value.type "tuple", data := Data.seq #[vs "self" 653] }) ::
(nat_lit 262, { cls := Value.type "tuple", data := Data.seq #[] }) ::
(nat_lit 264, { cls := Value.type "code", data := Data.fields #[vs "flush" 650, vs "BytesIO.flush" 651, vs "/claim/cut.py" 652, vi 143 0, vi 1 0, vi 0 0, vi 0 0, vi 3 0, vr 259, Value.bool true, vi 318 0, vr 260, vn, vr 261, vr 262, vr 263, vi 654 0, vi 143 0, vs "/claim/cut.py" 655] }) ::
(nat_lit 265, { cls := Value.type "function", data := Data.func { name := so "flush", qualname := so "BytesIO.flush", params := Mine.fA [16, 12], body := Mine.fB [16, 12], scope := Mine.fS [16, 12], globals := 3, closure := [], defaults := vn, kwdefaults := vn, pyModule := vs "io" 444, code := vr 264 } }) ::
(nat_lit 266, { cls := Value.type "tuple", data := Data.seq #[] }) ::
(nat_lit 268, { cls := Value.type "tuple", data := Data.seq #[vs "self" 660] }) ::
(nat_lit 269, { cls := Value.type "tuple", data := Data.seq #[] }) ::
(nat_lit 271, { cls := Value.type "code", data := Data.fields #[vs "fileno" 657, vs "BytesIO.fileno" 658, vs "/claim/cut.py" 659, vi 146 0, vi 1 0, vi 0 0, vi 0 0, vi 3 0, vr 266, Value.bool true, vi 318 0, vr 267, vn, vr 268, vr 269, vr 270, vi 661 0, vi 146 0, vs "/claim/cut.py" 662] }) ::
(nat_lit 272, { cls := Value.type "function", data := Data.func { name := so "fileno", qualname := so "BytesIO.fileno", params := Mine.fA [16, 13], body := Mine.fB [16, 13], scope := Mine.fS [16, 13], globals := 3, closure := [], defaults := vn, kwdefaults := vn, pyModule := vs "io" 444, code := vr 271 } }) ::
(nat_lit 273, { cls := Value.type "tuple", data := Data.seq #[] }) ::
(nat_lit 275, { cls := Value.type "tuple", data := Data.seq #[vs "self" 667] }) ::
(nat_lit 276, { cls := Value.type "tuple", data := Data.seq #[] }) ::
(nat_lit 278, { cls := Value.type "code", data := Data.fields #[vs "detach" 664, vs "BytesIO.detach" 665, vs "/claim/cut.py" 666, vi 149 0, vi 1 0, vi 0 0, vi 0 0, vi 3 0, vr 273, Value.bool true, vi 318 0, vr 274, vn, vr 275, vr 276, vr 277, vi 668 0, vi 149 0, vs "/claim/cut.py" 669] }) ::
(nat_lit 279, { cls := Value.type "function", data := Data.func { name := so "detach", qualname := so "BytesIO.detach", params := Mine.fA [16, 14], body := Mine.fB [16, 14], scope := Mine.fS [16, 14], globals := 3, closure := [], defaults := vn, kwdefaults := vn, pyModule := vs "io" 444, code := vr 278 } }) ::
(nat_lit 280, { cls := Value.type "tuple", data := Data.seq #[] }) ::
(nat_lit 282, { cls := Value.type "tuple", data := Data.seq #[vs "self" 674] }) ::
(nat_lit 283, { cls := Value.type "tuple", data := Data.seq #[] }) ::
(nat_lit 285, { cls := Value.type "code", data := Data.fields #[vs "getvalue" 671, vs "BytesIO.getvalue" 672, vs "/claim/cut.py" 673, vi 152 0, vi 1 0, vi 0 0, vi 0 0, vi 3 0, vr 280, Value.bool true, vi 318 0, vr 281, vn, vr 282, vr 283, vr 284, vi 675 0, vi 152 0, vs "/claim/cut.py" 676] }) ::
(nat_lit 286, { cls := Value.type "function", data := Data.func { name := so "getvalue", qualname := so "BytesIO.getvalue", params := Mine.fA [16, 15], body := Mine.fB [16, 15], scope := Mine.fS [16, 15], globals := 3, closure := [], defaults := vn, kwdefaults := vn, pyModule := vs "io" 444, code := vr 285 } }) ::
(nat_lit 287, { cls := Value.type "tuple", data := Data.seq #[] }) ::
(nat_lit 289, { cls := Value.type "tuple", data := Data.seq #[vs "self" 681] }) ::
(nat_lit 290, { cls := Value.type "tuple", data := Data.seq #[] }) ::
(nat_lit 292, { cls := Value.type "code", data := Data.fields #[vs "getbuffer" 678, vs "BytesIO.getbuffer" 679, vs "/claim/cut.py" 680, vi 155 0, vi 1 0, vi 0 0, vi 0 0, vi 3 0, vr 287, Value.bool true, vi 318 0, vr 288, vn, vr 289, vr 290, vr 291, vi 682 0, vi 155 0, vs "/claim/cut.py" 683] }) ::
(nat_lit 293, { cls := Value.type "function", data := Data.func { name := so "getbuffer", qualname := so "BytesIO.getbuffer", params := Mine.fA [16, 16], body := Mine.fB [16, 16], scope := Mine.fS [16, 16], globals := 3, closure := [], defaults := vn, kwdefaults := vn, pyModule := vs "io" 444, code := vr 292 } }) ::
(nat_lit 294, { cls := Value.type "tuple", data := Data.seq #[] }) ::
(nat_lit 296, { cls := Value.type "tuple", data := Data.seq #[vs "self" 688] }) ::
(nat_lit 297, { cls := Value.type "tuple", data := Data.seq #[] }) ::
(nat_lit 299, { cls := Value.type "code", data := Data.fields #[vs "tell" 685, vs "BytesIO.tell" 686, vs "/claim/cut.py" 687, vi 158 0, vi 1 0, vi 0 0, vi 0 0, vi 3 0, vr 294, Value.bool true, vi 318 0, vr 295, vn, vr 296, vr 297, vr 298, vi 689 0, vi 158 0, vs "/claim/cut.py" 690] }) ::
(nat_lit 300, { cls := Value.type "function", data := Data.func { name := so "tell", qualname := so "BytesIO.tell", params := Mine.fA [16, 17], body := Mine.fB [16, 17], scope := Mine.fS [16, 17], globals := 3, closure := [], defaults := vn, kwdefaults := vn, pyModule := vs "io" 444, code := vr 299 } }) ::
(nat_lit 301, { cls := Value.type "tuple", data := Data.seq #[vi 0 692] }) ::
(nat_lit 302, { cls := Value.type "tuple", data := Data.seq #[] }) ::
(nat_lit 304, { cls := Value.type "tuple", data := Data.seq #[vs "self" 696, vs "pos" 697, vs "whence" 698] }) ::
(nat_lit 305, { cls := Value.type "tuple", data := Data.seq #[] }) ::
(nat_lit 307, { cls := Value.type "code", data := Data.fields #[vs "seek" 693, vs "BytesIO.seek" 694, vs "/claim/cut.py" 695, vi 162 0, vi 3 0, vi 3 0, vi 0 0, vi 3 0, vr 302, Value.bool true, vi 318 0, vr 303, vn, vr 304, vr 305, vr 306, vi 699 0, vi 162 0, vs "/claim/cut.py" 700] }) ::
(nat_lit 308, { cls := Value.type "function", data := Data.func { name := so "seek", qualname := so "BytesIO.seek", params := Mine.fA [16, 18], body := Mine.fB [16, 18], scope := Mine.fS [16, 18], globals := 3, closure := [], defaults := vr 301, kwdefaults := vn, pyModule := vs "io" 444, code := vr 307 } }) ::
(nat_lit 309, { cls := Value.type "tuple", data := Data.seq #[vn] }) ::
(nat_lit 310, { cls := Value.type "tuple", data := Data.seq #[] }) ::
(nat_lit 312, { cls := Value.type "tuple", data := Data.seq #[vs "self" 705, vs "size" 706] }) ::
(nat_lit 313, { cls := Value.type "tuple", data := Data.seq #[] }) ::
(nat_lit 315, { cls := Value.type "code", data := Data.fields #[vs "truncate" 702, vs "BytesIO.truncate" 703, vs "/claim/cut.py" 704, vi 179 0, vi 2 0, vi 2 0, vi 0 0, vi 3 0, vr 310, Value.bool true, vi 318 0, vr 311, vn, vr 312, vr 313, vr 314, vi 707 0, vi 179 0, vs "/claim/cut.py" 708] }) ::
(nat_lit 316, { cls := Value.type "function", data := Data.func { name := so "truncate", qualname := so "BytesIO.truncate", params := Mine.fA [16, 19], body := Mine.fB [16, 19], scope := Mine.fS [16, 19], globals := 3, closure := [], defaults := vr 309, kwdefaults := vn, pyModule := vs "io" 444, code := vr 315 } }) ::
(nat_lit 317, { cls := Value.type "tuple", data := Data.seq #[vi (-1) 711] }) ::
(nat_lit 318, { cls := Value.type "tuple", data := Data.seq #[] }) ::
(nat_lit 320, { cls := Value.type "tuple", data := Data.seq #[vs "self" 715, vs "size" 716, vs "start" 717, vs "stop" 718] }) ::
(nat_lit 321, { cls := Value.type "tuple", data := Data.seq #[] }) ::
(nat_lit 323, { cls := Value.type "code", data := Data.fields #[vs "read" 712, vs "BytesIO.read" 713, vs "/claim/cut.py" 714, vi 182 0, vi 2 0, vi 2 0, vi 0 0, vi 3 0, vr 318, Value.bool true, vi 318 0, vr 319, vn, vr 320, vr 321, vr 322, vi 719 0, vi 182 0, vs "/claim/cut.py" 720] }) ::
(nat_lit 324, { cls := Value.type "function", data := Data.func { name := so "read", qualname := so "BytesIO.read", params := Mine.fA [16, 20], body := Mine.fB [16, 20], scope := Mine.fS [16, 20], globals := 3, closure := [], defaults := vr 317, kwdefaults := vn, pyModule := vs "io" 444, code := vr 323 } }) ::
(nat_lit 325, { cls := Value.type "tuple", data := Data.seq #[vi (-1) 723] }) ::
(nat_lit 326, { cls := Value.type "tuple", data := Data.seq #[] }) ::
(nat_lit 328, { cls := Value.type "tuple", data := Data.seq #[vs "self" 727, vs "size" 728] }) ::
(nat_lit 329, { cls := Value.type "tuple", data := Data.seq #[] }) ::
(nat_lit 331, { cls := Value.type "code", data := Data.fields #[vs "read1" 724, vs "BytesIO.read1" 725, vs "/claim/cut.py" 726, vi 196 0, vi 2 0, vi 2 0, vi 0 0, vi 3 0, vr 326, Value.bool true, vi 318 0, vr 327, vn, vr 328, vr 329, vr 330, vi 729 0, vi 196 0, vs "/claim/cut.py" 730] }) ::
(nat_lit 332, { cls := Value.type "function", data := Data.func { name := so "read1", qualname := so "BytesIO.read1", params := Mine.fA [16, 21], body := Mine.fB [16, 21], scope := Mine.fS [16, 21], globals := 3, closure := [], defaults := vr 325, kwdefaults := vn, pyModule := vs "io" 444, code := vr 331 } }) ::
(nat_lit 333, { cls := Value.type "tuple", data := Data.seq #[] }) ::
(nat_lit 335, { cls := Value.type "tuple", data := Data.seq #[vs "self" 735, vs "buffer" 736, vs "start" 737, vs "n" 738] }) ::
(nat_lit 336, { cls := Value.type "tuple", data := Data.seq #[] }) ::
(nat_lit 338, { cls := Value.type "code", data := Data.fields #[vs "readinto" 732, vs "BytesIO.readinto" 733, vs "/claim/cut.py" 734, vi 199 0, vi 2 0, vi 2 0, vi 0 0, vi 3 0, vr 333, Value.bool true, vi 318 0, vr 334, vn, vr 335, vr 336, vr 337, vi 739 0, vi 199 0, vs "/claim/cut.py" 740] }) ::
(nat_lit 339, { cls := Value.type "function", data := Data.func { name := so "readinto", qualname := so "BytesIO.readinto", params := Mine.fA [16, 22], body := Mine.fB [16, 22], scope := Mine.fS [16, 22], globals := 3, closure := [], defaults := vn, kwdefaults := vn, pyModule := vs "io" 444, code := vr 338 } }) ::
(nat_lit 340, { cls := Value.type "tuple", data := Data.seq #[] }) ::
(nat_lit 342, { cls := Value.type "tuple", data := Data.seq #[vs "self" 745, vs "buffer" 746] }) ::
(nat_lit 343, { cls := Value.type "tuple", data := Data.seq #[] }) ::
(nat_lit 345, { cls := Value.type "code", data := Data.fields #[vs "readinto1" 742, vs "BytesIO.readinto1" 743, vs "/claim/cut.py" 744, vi 213 0, vi 2 0, vi 2 0, vi 0 0, vi 3 0, vr 340, Value.bool true, vi 318 0, vr 341, vn, vr 342, vr 343, vr 344, vi 747 0, vi 213 0, vs "/claim/cut.py" 748] }) ::
(nat_lit 346, { cls := Value.type "function", data := Data.func { name := so "readinto1", qualname := so "BytesIO.readinto1", params := Mine.fA [16, 23], body := Mine.fB [16, 23], scope := Mine.fS [16, 23], globals := 3, closure := [], defaults := vn, kwdefaults := vn, pyModule := vs "io" 444, code := vr 345 } }) ::
(nat_lit 347, { cls := Value.type "tuple", data := Data.seq #[vi (-1) 751] }) ::
(nat_lit 348, { cls := Value.type "tuple", data := Data.seq #[] }) ::
(nat_lit 350, { cls := Value.type "tuple", data := Data.seq #[vs "self" 755, vs "size" 756] }) ::
(nat_lit 351, { cls := Value.type "tuple", data := Data.seq #[] }) ::
(nat_lit 353, { cls := Value.type "code", data := Data.fields #[vs "readline" 752, vs "BytesIO.readline" 753, vs "/claim/cut.py" 754, vi 216 0, vi 2 0, vi 2 0, vi 0 0, vi 3 0, vr 348, Value.bool true, vi 318 0, vr 349, vn, vr 350, vr 351, vr 352, vi 757 0, vi 216 0, vs "/claim/cut.py" 758] }) ::
(nat_lit 354, { cls := Value.type "function", data := Data.func { name := so "readline", qualname := so "BytesIO.readline", params := Mine.fA [16, 24], body := Mine.fB [16, 24], scope := Mine.fS [16, 24], globals := 3, closure := [], defaults := vr 347, kwdefaults := vn, pyModule := vs "io" 444, code := vr 353 } }) ::
(nat_lit 355, { cls := Value.type "tuple", data := Data.seq #[vn] }) ::
(nat_lit 356, { cls := Value.type "tuple", data := Data.seq #[] }) ::
(nat_lit 358, { cls := Value.type "tuple", data := Data.seq #[vs "self" 763, vs "size" 764] }) ::
(nat_lit 359, { cls := Value.type "tuple", data := Data.seq #[] }) ::
(nat_lit 361, { cls := Value.type "code", data := Data.fields #[vs "readlines" 760, vs "BytesIO.readlines" 761, vs "/claim/cut.py" 762, vi 223 0, vi 2 0, vi 2 0, vi 0 0, vi 3 0, vr 356, Value.bool true, vi 318 0, vr 357, vn, vr 358, vr 359, vr 360, vi 765 0, vi 223 0, vs "/claim/cut.py" 766] }) ::
(nat_lit 362, { cls := Value.type "function", data := Data.func { name := so "readlines", qualname := so "BytesIO.readlines", params := Mine.fA [16, 25], body := Mine.fB [16, 25], scope := Mine.fS [16, 25], globals := 3, closure := [], defaults := vr 355, kwdefaults := vn, pyModule := vs "io" 444, code := vr 361 } }) ::
(nat_lit 363, { cls := Value.type "tuple", data := Data.seq #[] }) ::
(nat_lit 365, { cls := Value.type "tuple", data := Data.seq #[vs "self" 771] }) ::
(nat_lit 366, { cls := Value.type "tuple", data := Data.seq #[] }) ::
(nat_lit 368, { cls := Value.type "code", data := Data.fields #[vs "__iter__" 768, vs "BytesIO.__iter__" 769, vs "/claim/cut.py" 770, vi 226 0, vi 1 0, vi 0 0, vi 0 0, vi 3 0, vr 363, Value.bool true, vi 318 0, vr 364, vn, vr 365, vr 366, vr 367, vi 772 0, vi 226 0, vs "/claim/cut.py" 773] }) ::
(nat_lit 369, { cls := Value.type "function", data := Data.func { name := so "__iter__", qualname := so "BytesIO.__iter__", params := Mine.fA [16, 26], body := Mine.fB [16, 26], scope := Mine.fS [16, 26], globals := 3, closure := [], defaults := vn, kwdefaults := vn, pyModule := vs "io" 444, code := vr 368 } }) ::
(nat_lit 370, { cls := Value.type "tuple", data := Data.seq #[] }) ::
(nat_lit 372, { cls := Value.type "tuple", data := Data.seq #[vs "self" 778, vs "line" 779] }) ::
(nat_lit 373, { cls := Value.type "tuple", data := Data.seq #[] }) ::
(nat_lit 375, { cls := Value.type "code", data := Data.fields #[vs "__next__" 775, vs "BytesIO.__next__" 776, vs "/claim/cut.py" 777, vi 229 0, vi 1 0, vi 0 0, vi 0 0, vi 3 0, vr 370, Value.bool true, vi 318 0, vr 371, vn, vr 372, vr 373, vr 374, vi 780 0, vi 229 0, vs "/claim/cut.py" 781] }) ::
(nat_lit 376, { cls := Value.type "function", data := Data.func { name := so "__next__", qualname := so "BytesIO.__next__", params := Mine.fA [16, 27], body := Mine.fB [16, 27], scope := Mine.fS [16, 27], globals := 3, closure := [], defaults := vn, kwdefaults := vn, pyModule := vs "io" 444, code := vr 375 } }) ::
(nat_lit 377, { cls := Value.type "tuple", data := Data.seq #[] }) ::
(nat_lit 379, { cls := Value.type "tuple", data := Data.seq #[vs "self" 786, vs "b" 787, vs "n" 788, vs "start" 789] }) ::
(nat_lit 380, { cls := Value.type "tuple", data := Data.seq #[] }) ::
(nat_lit 382, { cls := Value.type "code", data := Data.fields #[vs "write" 783, vs "BytesIO.write" 784, vs "/claim/cut.py" 785, vi 236 0, vi 2 0, vi 2 0, vi 0 0, vi 3 0, vr 377, Value.bool true, vi 318 0, vr 378, vn, vr 379, vr 380, vr 381, vi 790 0, vi 236 0, vs "/claim/cut.py" 791] }) ::
(nat_lit 383, { cls := Value.type "function", data := Data.func { name := so "write", qualname := so "BytesIO.write", params := Mine.fA [16, 28], body := Mine.fB [16, 28], scope := Mine.fS [16, 28], globals := 3, closure := [], defaults := vn, kwdefaults := vn, pyModule := vs "io" 444, code := vr 382 } }) ::
(nat_lit 384, { cls := Value.type "tuple", data := Data.seq #[] }) ::
(nat_lit 386, { cls := Value.type "tuple", data := Data.seq #[vs "self" 796, vs "lines" 797] }) ::
(nat_lit 387, { cls := Value.type "tuple", data := Data.seq #[] }) ::
(nat_lit 389, { cls := Value.type "code", data := Data.fields #[vs "writelines" 793, vs "BytesIO.writelines" 794, vs "/claim/cut.py" 795, vi 252 0, vi 2 0, vi 2 0, vi 0 0, vi 3 0, vr 384, Value.bool true, vi 318 0, vr 385, vn, vr 386, vr 387, vr 388, vi 798 0, vi 252 0, vs "/claim/cut.py" 799] }) ::
(nat_lit 390, { cls := Value.type "function", data := Data.func { name := so "writelines", qualname := so "BytesIO.writelines", params := Mine.fA [16, 29], body := Mine.fB [16, 29], scope := Mine.fS [16, 29], globals := 3, closure := [], defaults := vn, kwdefaults := vn, pyModule := vs "io" 444, code := vr 389 } }) ::
(nat_lit 391, { cls := Value.type "tuple", data := Data.seq #[] }) ::
(nat_lit 393, { cls := Value.type "tuple", data := Data.seq #[vs "self" 804] }) ::
(nat_lit 394, { cls := Value.type "tuple", data := Data.seq #[] }) ::
(nat_lit 396, { cls := Value.type "code", data := Data.fields #[vs "__repr__" 801, vs "BytesIO.__repr__" 802, vs "/claim/cut.py" 803, vi 255 0, vi 1 0, vi 0 0, vi 0 0, vi 3 0, vr 391, Value.bool true, vi 318 0, vr 392, vn, vr 393, vr 394, vr 395, vi 805 0, vi 255 0, vs "/claim/cut.py" 806] }) ::
(nat_lit 397, { cls := Value.type "function", data := Data.func { name := so "__repr__", qualname := so "BytesIO.__repr__", params := Mine.fA [16, 30], body := Mine.fB [16, 30], scope := Mine.fS [16, 30], globals := 3, closure := [], defaults := vn, kwdefaults := vn, pyModule := vs "io" 444, code := vr 396 } }) ::
(nat_lit 398, { cls := Value.type "tuple", data := Data.seq #[vs "__buf" 808, vs "__pos" 809] }) ::
(nat_lit 399, { cls := Value.type "dict", data := Data.dict #[{ hash := kh P (so "__module__"), key := vs "__module__" 559, val := vs "_io" 564 }, { hash := kh P (so "__firstlineno__"), key := vs "__firstlineno__" 563, val := vi 87 562 }, { hash := kh P (so "__init__"), key := vs "__init__" 573, val := vr 187 }, { hash := kh P (so "_BytesIO__check"), key := vs "_BytesIO__check" 580, val := vr 194 }, { hash := kh P (so "_BytesIO__line"), key := vs "_BytesIO__line" 591, val := vr 201 }, { hash := kh P (so "closed"), key := vs "closed" 599, val := vr 209 }, { hash := kh P (so "close"), key := vs "close" 606, val := vr 216 }, { hash := kh P (so "__enter__"), key := vs "__enter__" 613, val := vr 223 }, { hash := kh P (so "__exit__"), key := vs "__exit__" 621, val := vr 230 }, { hash := kh P (so "readable"), key := vs "readable" 628, val := vr 237 }, { hash := kh P (so "writable"), key := vs "writable" 635, val := vr 244 }, { hash := kh P (so "seekable"), key := vs "seekable" 642, val := vr 251 }, { hash := kh P (so "isatty"), key := vs "isatty" 649, val := vr 258 }, { hash := kh P (so "flush"), key := vs "flush" 656, val := vr 265 }, { hash := kh P (so "fileno"), key := vs "fileno" 663, val := vr 272 }, { hash := kh P (so "detach"), key := vs "detach" 670, val := vr 279 }, { hash := kh P (so "getvalue"), key := vs "getvalue" 677, val := vr 286 }, { hash := kh P (so "getbuffer"), key := vs "getbuffer" 684, val := vr 293 }, { hash := kh P (so "tell"), key := vs "tell" 691, val := vr 300 }, { hash := kh P (so "seek"), key := vs "seek" 701, val := vr 308 }, { hash := kh P (so "truncate"), key := vs "truncate" 709, val := vr 316 }, { hash := kh P (so "read"), key := vs "read" 721, val := vr 324 }, { hash := kh P (so "read1"), key := vs "read1" 731, val := vr 332 }, { hash := kh P (so "readinto"), key := vs "readinto" 741, val := vr 339 }, { hash := kh P (so "readinto1"), key := vs "readinto1" 749, val := vr 346 }, { hash := kh P (so "readline"), key := vs "readline" 759, val := vr 354 }, { hash := kh P (so "readlines"), key := vs "readlines" 767, val := vr 362 }, { hash := kh P (so "__iter__"), key := vs "__iter__" 774, val := vr 369 }, { hash := kh P (so "__next__"), key := vs "__next__" 782, val := vr 376 }, { hash := kh P (so "write"), key := vs "write" 792, val := vr 383 }, { hash := kh P (so "writelines"), key := vs "writelines" 800, val := vr 390 }, { hash := kh P (so "__repr__"), key := vs "__repr__" 807, val := vr 397 }, { hash := kh P (so "__static_attributes__"), key := vs "__static_attributes__" 810, val := vr 398 }, { hash := kh P (so "__doc__"), key := vs "__doc__" 811, val := vn }] 2 }) ::
(nat_lit 400, { cls := Value.type "type", data := Data.cls { name := so "BytesIO", bases := [vr 158], mro := [vr 400, vr 158, vr 143, Value.type "object"], ns := 399, qualname := so "BytesIO" }, slots := #[some (vr 173), none, some (vs "BytesIO" 552), some (vs "BytesIO" 560), some vn, some (Value.bool true)] }) ::
(nat_lit 403, { cls := Value.type "tuple", data := Data.seq #[vr 170] }) ::
(nat_lit 410, { cls := Value.type "tuple", data := Data.seq #[vs "" 828, vs "\n" 829] }) ::
(nat_lit 411, { cls := Value.type "tuple", data := Data.seq #[] }) ::
(nat_lit 413, { cls := Value.type "tuple", data := Data.seq #[vs "self" 833, vs "initial_value" 834, vs "newline" 835] }) ::
(nat_lit 414, { cls := Value.type "tuple", data := Data.seq #[] }) ::
(nat_lit 416, { cls := Value.type "code", data := Data.fields #[vs "__init__" 830, vs "StringIO.__init__" 831, vs "/claim/cut.py" 832, vi 260 0, vi 3 0, vi 0 0, vi 0 0, vi 3 0, vr 411, Value.bool true, vi 318 0, vr 412, vn, vr 413, vr 414, vr 415, vi 836 0, vi 260 0, vs "/claim/cut.py" 837] }) ::
(nat_lit 417, { cls := Value.type "function", data := Data.func { name := so "__init__", qualname := so "StringIO.__init__", params := Mine.fA [17, 1], body := Mine.fB [17, 1], scope := Mine.fS [17, 1], globals := 3, closure := [], defaults := vr 410, kwdefaults := vn, pyModule := vs "io" 444, code := vr 416 } }) ::
(nat_lit 418, { cls := Value.type "tuple", data := Data.seq #[] }) ::
(nat_lit 420, { cls := Value.type "tuple", data := Data.seq #[vs "self" 842, vs "s" 843, vs "newline" 844] }) ::
(nat_lit 421, { cls := Value.type "tuple", data := Data.seq #[] }) ::
(nat_lit 423, { cls := Value.type "code", data := Data.fields #[vs "__translated" 839, vs "StringIO.__translated" 840, vs "/claim/cut.py" 841, vi 273 0, vi 2 0, vi 0 0, vi 0 0, vi 3 0, vr 418, Value.bool true, vi 318 0, vr 419, vn, vr 420, vr 421, vr 422, vi 845 0, vi 273 0, vs "/claim/cut.py" 846] }) ::
(nat_lit 424, { cls := Value.type "function", data := Data.func { name := so "__translated", qualname := so "StringIO.__translated", params := Mine.fA [17, 2], body := Mine.fB [17, 2], scope := Mine.fS [17, 2], globals := 3, closure := [], defaults := vn, kwdefaults := vn, pyModule := vs "io" 444, code := vr 423 } }) ::
(nat_lit 425, { cls := Value.type "tuple", data := Data.seq #[] }) ::
(nat_lit 427, { cls := Value.type "tuple", data := Data.seq #[vs "self" 851] }) ::
(nat_lit 428, { cls := Value.type "tuple", data := Data.seq #[] }) ::
(nat_lit 430, { cls := Value.type "code", data := Data.fields #[vs "__check" 848, vs "StringIO.__check" 849, vs "/claim/cut.py" 850, vi 281 0, vi 1 0, vi 0 0, vi 0 0, vi 3 0, vr 425, Value.bool true, vi 318 0, vr 426, vn, vr 427, vr 428, vr 429, vi 852 0, vi 281 0, vs "/claim/cut.py" 853] }) ::
(nat_lit 431, { cls := Value.type "function", data := Data.func { name := so "__check", qualname := so "StringIO.__check", params := Mine.fA [17, 3], body := Mine.fB [17, 3], scope := Mine.fS [17, 3], globals := 3, closure := [], defaults := vn, kwdefaults := vn, pyModule := vs "io" 444, code := vr 430 } }) ::
(nat_lit 432, { cls := Value.type "tuple", data := Data.seq #[] }) ::
(nat_lit 434, { cls := Value.type "tuple", data := Data.seq #[vs "self" 858] }) ::
(nat_lit 435, { cls := Value.type "tuple", data := Data.seq #[] }) ::
(nat_lit 437, { cls := Value.type "code", data := Data.fields #[vs "__check_dot" 855, vs "StringIO.__check_dot" 856, vs "/claim/cut.py" 857, vi 285 0, vi 1 0, vi 0 0, vi 0 0, vi 3 0, vr 432, Value.bool true, vi 318 0, vr 433, vn, vr 434, vr 435, vr 436, vi 859 0, vi 285 0, vs "/claim/cut.py" 860] }) ::
(nat_lit 438, { cls := Value.type "function", data := Data.func { name := so "__check_dot", qualname := so "StringIO.__check_dot", params := Mine.fA [17, 4], body := Mine.fB [17, 4], scope := Mine.fS [17, 4], globals := 3, closure := [], defaults := vn, kwdefaults := vn, pyModule := vs "io" 444, code := vr 437 } }) ::
(nat_lit 439, { cls := Value.type "tuple", data := Data.seq #[] }) ::
(nat_lit 441, { cls := Value.type "tuple", data := Data.seq #[vs "self" 865, vs "limit" 866, vs "start" 867, vs "stop" 868, vs "cut" 869, vs "newline" 870, vs "i" 871, vs "j" 872, vs "end" 873] }) ::
(nat_lit 442, { cls := Value.type "tuple", data := Data.seq #[] }) ::
(nat_lit 444, { cls := Value.type "code", data := Data.fields #[vs "__line" 862, vs "StringIO.__line" 863, vs "/claim/cut.py" 864, vi 289 0, vi 2 0, vi 0 0, vi 0 0, vi 3 0, vr 439, Value.bool true, vi 318 0, vr 440, vn, vr 441, vr 442, vr 443, vi 874 0, vi 289 0, vs "/claim/cut.py" 875] }) ::
(nat_lit 445, { cls := Value.type "function", data := Data.func { name := so "__line", qualname := so "StringIO.__line", params := Mine.fA [17, 5], body := Mine.fB [17, 5], scope := Mine.fS [17, 5], globals := 3, closure := [], defaults := vn, kwdefaults := vn, pyModule := vs "io" 444, code := vr 444 } }) ::
(nat_lit 446, { cls := Value.type "tuple", data := Data.seq #[] }) ::
(nat_lit 448, { cls := Value.type "tuple", data := Data.seq #[vs "self" 880] }) ::
(nat_lit 449, { cls := Value.type "tuple", data := Data.seq #[] }) ::
(nat_lit 451, { cls := Value.type "code", data := Data.fields #[vs "closed" 877, vs "StringIO.closed" 878, vs "/claim/cut.py" 879, vi 321 0, vi 1 0, vi 0 0, vi 0 0, vi 3 0, vr 446, Value.bool true, vi 318 0, vr 447, vn, vr 448, vr 449, vr 450, vi 881 0, vi 321 0, vs "/claim/cut.py" 882] }) ::
(nat_lit 452, { cls := Value.type "function", data := Data.func { name := so "closed", qualname := so "StringIO.closed", params := Mine.fA [17, 6], body := Mine.fB [17, 6], scope := Mine.fS [17, 6], globals := 3, closure := [], defaults := vn, kwdefaults := vn, pyModule := vs "io" 444, code := vr 451 } }) ::
(nat_lit 453, { cls := Value.type "property", data := Data.fields #[vr 452, vn, vn, vn, vs "closed" 884, Value.bool false] }) ::
(nat_lit 454, { cls := Value.type "tuple", data := Data.seq #[] }) ::
(nat_lit 456, { cls := Value.type "tuple", data := Data.seq #[vs "self" 888] }) ::
(nat_lit 457, { cls := Value.type "tuple", data := Data.seq #[] }) ::
(nat_lit 459, { cls := Value.type "code", data := Data.fields #[vs "line_buffering" 885, vs "StringIO.line_buffering" 886, vs "/claim/cut.py" 887, vi 325 0, vi 1 0, vi 0 0, vi 0 0, vi 3 0, vr 454, Value.bool true, vi 318 0, vr 455, vn, vr 456, vr 457, vr 458, vi 889 0, vi 325 0, vs "/claim/cut.py" 890] }) ::
(nat_lit 460, { cls := Value.type "function", data := Data.func { name := so "line_buffering", qualname := so "StringIO.line_buffering", params := Mine.fA [17, 7], body := Mine.fB [17, 7], scope := Mine.fS [17, 7], globals := 3, closure := [], defaults := vn, kwdefaults := vn, pyModule := vs "io" 444, code := vr 459 } }) ::
(nat_lit 461, { cls := Value.type "property", data := Data.fields #[vr 460, vn, vn, vn, vs "line_buffering" 892, Value.bool false] }) ::
(nat_lit 462, { cls := Value.type "tuple", data := Data.seq #[] }) ::
(nat_lit 464, { cls := Value.type "tuple", data := Data.seq #[vs "self" 896] }) ::
(nat_lit 465, { cls := Value.type "tuple", data := Data.seq #[] }) ::
(nat_lit 467, { cls := Value.type "code", data := Data.fields #[vs "newlines" 893, vs "StringIO.newlines" 894, vs "/claim/cut.py" 895, vi 329 0, vi 1 0, vi 0 0, vi 0 0, vi 3 0, vr 462, Value.bool true, vi 318 0, vr 463, vn, vr 464, vr 465, vr 466, vi 897 0, vi 329 0, vs "/claim/cut.py" 898] }) ::
(nat_lit 468, { cls := Value.type "function", data := Data.func { name := so "newlines", qualname := so "StringIO.newlines", params := Mine.fA [17, 8], body := Mine.fB [17, 8], scope := Mine.fS [17, 8], globals := 3, closure := [], defaults := vn, kwdefaults := vn, pyModule := vs "io" 444, code := vr 467 } }) ::
(nat_lit 469, { cls := Value.type "property", data := Data.fields #[vr 468, vn, vn, vn, vs "newlines" 900, Value.bool false] }) ::
(nat_lit 470, { cls := Value.type "tuple", data := Data.seq #[] }) ::
(nat_lit 472, { cls := Value.type "tuple", data := Data.seq #[vs "self" 904] }) ::
(nat_lit 473, { cls := Value.type "tuple", data := Data.seq #[] }) ::
(nat_lit 475, { cls := Value.type "code", data := Data.fields #[vs "encoding" 901, vs "StringIO.encoding" 902, vs "/claim/cut.py" 903, vi 333 0, vi 1 0, vi 0 0, vi 0 0, vi 3 0, vr 470, Value.bool true, vi 318 0, vr 471, vn, vr 472, vr 473, vr 474, vi 905 0, vi 333 0, vs "/claim/cut.py" 906] }) ::
(nat_lit 476, { cls := Value.type "function", data := Data.func { name := so "encoding", qualname := so "StringIO.encoding", params := Mine.fA [17, 9], body := Mine.fB [17, 9], scope := Mine.fS [17, 9], globals := 3, closure := [], defaults := vn, kwdefaults := vn, pyModule := vs "io" 444, code := vr 475 } }) ::
(nat_lit 477, { cls := Value.type "property", data := Data.fields #[vr 476, vn, vn, vn, vs "encoding" 908, Value.bool false] }) ::
(nat_lit 478, { cls := Value.type "tuple", data := Data.seq #[] }) ::
(nat_lit 480, { cls := Value.type "tuple", data := Data.seq #[vs "self" 912] }) ::
(nat_lit 481, { cls := Value.type "tuple", data := Data.seq #[] }) ::
(nat_lit 483, { cls := Value.type "code", data := Data.fields #[vs "errors" 909, vs "StringIO.errors" 910, vs "/claim/cut.py" 911, vi 337 0, vi 1 0, vi 0 0, vi 0 0, vi 3 0, vr 478, Value.bool true, vi 318 0, vr 479, vn, vr 480, vr 481, vr 482, vi 913 0, vi 337 0, vs "/claim/cut.py" 914] }) ::
(nat_lit 484, { cls := Value.type "function", data := Data.func { name := so "errors", qualname := so "StringIO.errors", params := Mine.fA [17, 10], body := Mine.fB [17, 10], scope := Mine.fS [17, 10], globals := 3, closure := [], defaults := vn, kwdefaults := vn, pyModule := vs "io" 444, code := vr 483 } }) ::
(nat_lit 485, { cls := Value.type "property", data := Data.fields #[vr 484, vn, vn, vn, vs "errors" 916, Value.bool false] }) ::
(nat_lit 486, { cls := Value.type "tuple", data := Data.seq #[] }) ::
(nat_lit 488, { cls := Value.type "tuple", data := Data.seq #[vs "self" 920] }) ::
(nat_lit 489, { cls := Value.type "tuple", data := Data.seq #[] }) ::
(nat_lit 491, { cls := Value.type "code", data := Data.fields #[vs "close" 917, vs "StringIO.close" 918, vs "/claim/cut.py" 919, vi 341 0, vi 1 0, vi 0 0, vi 0 0, vi 3 0, vr 486, Value.bool true, vi 318 0, vr 487, vn, vr 488, vr 489, vr 490, vi 921 0, vi 341 0, vs "/claim/cut.py" 922] }) ::
(nat_lit 492, { cls := Value.type "function", data := Data.func { name := so "close", qualname := so "StringIO.close", params := Mine.fA [17, 11], body := Mine.fB [17, 11], scope := Mine.fS [17, 11], globals := 3, closure := [], defaults := vn, kwdefaults := vn, pyModule := vs "io" 444, code := vr 491 } }) ::
(nat_lit 493, { cls := Value.type "tuple", data := Data.seq #[] }) ::
(nat_lit 495, { cls := Value.type "tuple", data := Data.seq #[vs "self" 927] }) ::
(nat_lit 496, { cls := Value.type "tuple", data := Data.seq #[] }) ::
(nat_lit 498, { cls := Value.type "code", data := Data.fields #[vs "__enter__" 924, vs "StringIO.__enter__" 925, vs "/claim/cut.py" 926, vi 344 0, vi 1 0, vi 0 0, vi 0 0, vi 3 0, vr 493, Value.bool true, vi 318 0, vr 494, vn, vr 495, vr 496, vr 497, vi 928 0, vi 344 0, vs "/claim/cut.py" 929] }) ::
(nat_lit 499, { cls := Value.type "function", data := Data.func { name := so "__enter__", qualname := so "StringIO.__enter__", params := Mine.fA [17, 12], body := Mine.fB [17, 12], scope := Mine.fS [17, 12], globals := 3, closure := [], defaults := vn, kwdefaults := vn, pyModule := vs "io" 444, code := vr 498 } }) ::
(nat_lit 500, { cls := Value.type "tuple", data := Data.seq #[] }) ::
(nat_lit 502, { cls := Value.type "tuple", data := Data.seq #[vs "self" 934, vs "args" 935] }) ::
(nat_lit 503, { cls := Value.type "tuple", data := Data.seq #[] }) ::
(nat_lit 505, { cls := Value.type "code", data := Data.fields #[vs "__exit__" 931, vs "StringIO.__exit__" 932, vs "/claim/cut.py" 933, vi 348 0, vi 1 0, vi 0 0, vi 0 0, vi 7 0, vr 500, Value.bool true, vi 318 0, vr 501, vn, vr 502, vr 503, vr 504, vi 936 0, vi 348 0, vs "/claim/cut.py" 937] }) ::
(nat_lit 506, { cls := Value.type "function", data := Data.func { name := so "__exit__", qualname := so "StringIO.__exit__", params := Mine.fA [17, 13], body := Mine.fB [17, 13], scope := Mine.fS [17, 13], globals := 3, closure := [], defaults := vn, kwdefaults := vn, pyModule := vs "io" 444, code := vr 505 } }) ::
(nat_lit 507, { cls := Value.type "tuple", data := Data.seq #[] }) ::
(nat_lit 509, { cls := Value.type "tuple", data := Data.seq #[vs "self" 942] }) ::
(nat_lit 510, { cls := Value.type "tuple", data := Data.seq #[] }) ::
(nat_lit 512, { cls := Value.type "code", data := Data.fields #[vs "readable" 939, vs "StringIO.readable" 940, vs "/claim/cut.py" 941, vi 351 0, vi 1 0, vi 0 0, vi 0 0, vi 3 0, vr 507, Value.bool true, vi 318 0, vr 508, vn, vr 509, vr 510, vr 511, vi 943 0, vi 351 0, vs "/claim/cut.py" 944] }) ::
(nat_lit 513, { cls := Value.type "function", data := Data.func { name := so "readable", qualname := so "StringIO.readable", params := Mine.fA [17, 14], body := Mine.fB [17, 14], scope := Mine.fS [17, 14], globals := 3, closure := [], defaults := vn, kwdefaults := vn, pyModule := vs "io" 444, code := vr 512 } }) ::
(nat_lit 514, { cls := Value.type "tuple", data := Data.seq #[] }) ::
(nat_lit 516, { cls := Value.type "tuple", data := Data.seq #[vs "self" 949] }) ::
(nat_lit 517, { cls := Value.type "tuple", data := Data.seq #[] }) ::
(nat_lit 519, { cls := Value.type "code", data := Data.fields #[vs "writable" 946, vs "StringIO.writable" 947, vs "/claim/cut.py" 948, vi 355 0, vi 1 0, vi 0 0, vi 0 0, vi 3 0, vr 514, Value.bool true, vi 318 0, vr 515, vn, vr 516, vr 517, vr 518, vi 950 0, vi 355 0, vs "/claim/cut.py" 951] }) ::
(nat_lit 520, { cls := Value.type "function", data := Data.func { name := so "writable", qualname := so "StringIO.writable", params := Mine.fA [17, 15], body := Mine.fB [17, 15], scope := Mine.fS [17, 15], globals := 3, closure := [], defaults := vn, kwdefaults := vn, pyModule := vs "io" 444, code := vr 519 } }) ::
(nat_lit 521, { cls := Value.type "tuple", data := Data.seq #[] }) ::
(nat_lit 523, { cls := Value.type "tuple", data := Data.seq #[vs "self" 956] }) ::
(nat_lit 524, { cls := Value.type "tuple", data := Data.seq #[] }) ::
(nat_lit 526, { cls := Value.type "code", data := Data.fields #[vs "seekable" 953, vs "StringIO.seekable" 954, vs "/claim/cut.py" 955, vi 359 0, vi 1 0, vi 0 0, vi 0 0, vi 3 0, vr 521, Value.bool true, vi 318 0, vr 522, vn, vr 523, vr 524, vr 525, vi 957 0, vi 359 0, vs "/claim/cut.py" 958] }) ::
(nat_lit 527, { cls := Value.type "function", data := Data.func { name := so "seekable", qualname := so "StringIO.seekable", params := Mine.fA [17, 16], body := Mine.fB [17, 16], scope := Mine.fS [17, 16], globals := 3, closure := [], defaults := vn, kwdefaults := vn, pyModule := vs "io" 444, code := vr 526 } }) ::
(nat_lit 528, { cls := Value.type "tuple", data := Data.seq #[] }) ::
(nat_lit 530, { cls := Value.type "tuple", data := Data.seq #[vs "self" 963] }) ::
(nat_lit 531, { cls := Value.type "tuple", data := Data.seq #[] }) ::
(nat_lit 533, { cls := Value.type "code", data := Data.fields #[vs "isatty" 960, vs "StringIO.isatty" 961, vs "/claim/cut.py" 962, vi 363 0, vi 1 0, vi 0 0, vi 0 0, vi 3 0, vr 528, Value.bool true, vi 318 0, vr 529, vn, vr 530, vr 531, vr 532, vi 964 0, vi 363 0, vs "/claim/cut.py" 965] }) ::
(nat_lit 534, { cls := Value.type "function", data := Data.func { name := so "isatty", qualname := so "StringIO.isatty", params := Mine.fA [17, 17], body := Mine.fB [17, 17], scope := Mine.fS [17, 17], globals := 3, closure := [], defaults := vn, kwdefaults := vn, pyModule := vs "io" 444, code := vr 533 } }) ::
(nat_lit 535, { cls := Value.type "tuple", data := Data.seq #[] }) ::
(nat_lit 537, { cls := Value.type "tuple", data := Data.seq #[vs "self" 970] }) ::
(nat_lit 538, { cls := Value.type "tuple", data := Data.seq #[] }) ::
(nat_lit 540, { cls := Value.type "code", data := Data.fields #[vs "flush" 967, vs "StringIO.flush" 968, vs "/claim/cut.py" 969, vi 367 0, vi 1 0, vi 0 0, vi 0 0, vi 3 0, vr 535, Value.bool true, vi 318 0, vr 536, vn, vr 537, vr 538, vr 539, vi 971 0, vi 367 0, vs "/claim/cut.py" 972] }) ::
(nat_lit 541, { cls := Value.type "function", data := Data.func { name := so "flush", qualname := so "StringIO.flush", params := Mine.fA [17, 18], body := Mine.fB [17, 18], scope := Mine.fS [17, 18], globals := 3, closure := [], defaults := vn, kwdefaults := vn, pyModule := vs "io" 444, code := vr 540 } }) ::
(nat_lit 542, { cls := Value.type "tuple", data := Data.seq #[] }) ::
(nat_lit 544, { cls := Value.type "tuple", data := Data.seq #[vs "self" 977] }) ::
(nat_lit 545, { cls := Value.type "tuple", data := Data.seq #[] }) ::
(nat_lit 547, { cls := Value.type "code", data := Data.fields #[vs "fileno" 974, vs "StringIO.fileno" 975, vs "/claim/cut.py" 976, vi 370 0, vi 1 0, vi 0 0, vi 0 0, vi 3 0, vr 542, Value.bool true, vi 318 0, vr 543, vn, vr 544, vr 545, vr 546, vi 978 0, vi 370 0, vs "/claim/cut.py" 979] }) ::
(nat_lit 548, { cls := Value.type "function", data := Data.func { name := so "fileno", qualname := so "StringIO.fileno", params := Mine.fA [17, 19], body := Mine.fB [17, 19], scope := Mine.fS [17, 19], globals := 3, closure := [], defaults := vn, kwdefaults := vn, pyModule := vs "io" 444, code := vr 547 } }) ::
(nat_lit 549, { cls := Value.type "tuple", data := Data.seq #[] }) ::
(nat_lit 551, { cls := Value.type "tuple", data := Data.seq #[vs "self" 984] }) ::
(nat_lit 552, { cls := Value.type "tuple", data := Data.seq #[] }) ::
(nat_lit 554, { cls := Value.type "code", data := Data.fields #[vs "detach" 981, vs "StringIO.detach" 982, vs "/claim/cut.py" 983, vi 373 0, vi 1 0, vi 0 0, vi 0 0, vi 3 0, vr 549, Value.bool true, vi 318 0, vr 550, vn, vr 551, vr 552, vr 553, vi 985 0, vi 373 0, vs "/claim/cut.py" 986] }) ::
(nat_lit 555, { cls := Value.type "function", data := Data.func { name := so "detach", qualname := so "StringIO.detach", params := Mine.fA [17, 20], body := Mine.fB [17, 20], scope := Mine.fS [17, 20], globals := 3, closure := [], defaults := vn, kwdefaults := vn, pyModule := vs "io" 444, code := vr 554 } }) ::
(nat_lit 556, { cls := Value.type "tuple", data := Data.seq #[] }) ::
(nat_lit 558, { cls := Value.type "tuple", data := Data.seq #[vs "self" 991] }) ::
(nat_lit 559, { cls := Value.type "tuple", data := Data.seq #[] }) ::
(nat_lit 561, { cls := Value.type "code", data := Data.fields #[vs "getvalue" 988, vs "StringIO.getvalue" 989, vs "/claim/cut.py" 990, vi 376 0, vi 1 0, vi 0 0, vi 0 0, vi 3 0, vr 556, Value.bool true, vi 318 0, vr 557, vn, vr 558, vr 559, vr 560, vi 992 0, vi 376 0, vs "/claim/cut.py" 993] }) ::
(nat_lit 562, { cls := Value.type "function", data := Data.func { name := so "getvalue", qualname := so "StringIO.getvalue", params := Mine.fA [17, 21], body := Mine.fB [17, 21], scope := Mine.fS [17, 21], globals := 3, closure := [], defaults := vn, kwdefaults := vn, pyModule := vs "io" 444, code := vr 561 } }) ::
(nat_lit 563, { cls := Value.type "tuple", data := Data.seq #[] }) ::
(nat_lit 565, { cls := Value.type "tuple", data := Data.seq #[vs "self" 998] }) ::
(nat_lit 566, { cls := Value.type "tuple", data := Data.seq #[] }) ::
(nat_lit 568, { cls := Value.type "code", data := Data.fields #[vs "tell" 995, vs "StringIO.tell" 996, vs "/claim/cut.py" 997, vi 379 0, vi 1 0, vi 0 0, vi 0 0, vi 3 0, vr 563, Value.bool true, vi 318 0, vr 564, vn, vr 565, vr 566, vr 567, vi 999 0, vi 379 0, vs "/claim/cut.py" 1000] }) ::
(nat_lit 569, { cls := Value.type "function", data := Data.func { name := so "tell", qualname := so "StringIO.tell", params := Mine.fA [17, 22], body := Mine.fB [17, 22], scope := Mine.fS [17, 22], globals := 3, closure := [], defaults := vn, kwdefaults := vn, pyModule := vs "io" 444, code := vr 568 } }) ::
(nat_lit 570, { cls := Value.type "tuple", data := Data.seq #[vi 0 1002] }) ::
(nat_lit 571, { cls := Value.type "tuple", data := Data.seq #[] }) ::
(nat_lit 573, { cls := Value.type "tuple", data := Data.seq #[vs "self" 1006, vs "pos" 1007, vs "whence" 1008] }) ::
(nat_lit 574, { cls := Value.type "tuple", data := Data.seq #[] }) ::
(nat_lit 576, { cls := Value.type "code", data := Data.fields #[vs "seek" 1003, vs "StringIO.seek" 1004, vs "/claim/cut.py" 1005, vi 383 0, vi 3 0, vi 3 0, vi 0 0, vi 3 0, vr 571, Value.bool true, vi 318 0, vr 572, vn, vr 573, vr 574, vr 575, vi 1009 0, vi 383 0, vs "/claim/cut.py" 1010] }) ::
(nat_lit 577, { cls := Value.type "function", data := Data.func { name := so "seek", qualname := so "StringIO.seek", params := Mine.fA [17, 23], body := Mine.fB [17, 23], scope := Mine.fS [17, 23], globals := 3, closure := [], defaults := vr 570, kwdefaults := vn, pyModule := vs "io" 444, code := vr 576 } }) ::
(nat_lit 578, { cls := Value.type "tuple", data := Data.seq #[vn] }) ::
(nat_lit 579, { cls := Value.type "tuple", data := Data.seq #[] }) ::
(nat_lit 581, { cls := Value.type "tuple", data := Data.seq #[vs "self" 1015, vs "pos" 1016] }) ::
(nat_lit 582, { cls := Value.type "tuple", data := Data.seq #[] }) ::
(nat_lit 584, { cls := Value.type "code", data := Data.fields #[vs "truncate" 1012, vs "StringIO.truncate" 1013, vs "/claim/cut.py" 1014, vi 400 0, vi 2 0, vi 2 0, vi 0 0, vi 3 0, vr 579, Value.bool true, vi 318 0, vr 580, vn, vr 581, vr 582, vr 583, vi 1017 0, vi 400 0, vs "/claim/cut.py" 1018] }) ::
(nat_lit 585, { cls := Value.type "function", data := Data.func { name := so "truncate", qualname := so "StringIO.truncate", params := Mine.fA [17, 24], body := Mine.fB [17, 24], scope := Mine.fS [17, 24], globals := 3, closure := [], defaults := vr 578, kwdefaults := vn, pyModule := vs "io" 444, code := vr 584 } }) ::
(nat_lit 586, { cls := Value.type "tuple", data := Data.seq #[vi (-1) 1021] }) ::
(nat_lit 587, { cls := Value.type "tuple", data := Data.seq #[] }) ::
(nat_lit 589, { cls := Value.type "tuple", data := Data.seq #[vs "self" 1025, vs "size" 1026, vs "start" 1027, vs "stop" 1028] }) ::
(nat_lit 590, { cls := Value.type "tuple", data := Data.seq #[] }) ::
(nat_lit 592, { cls := Value.type "code", data := Data.fields #[vs "read" 1022, vs "StringIO.read" 1023, vs "/claim/cut.py" 1024, vi 403 0, vi 2 0, vi 2 0, vi 0 0, vi 3 0, vr 587, Value.bool true, vi 318 0, vr 588, vn, vr 589, vr 590, vr 591, vi 1029 0, vi 403 0, vs "/claim/cut.py" 1030] }) ::
(nat_lit 593, { cls := Value.type "function", data := Data.func { name := so "read", qualname := so "StringIO.read", params := Mine.fA [17, 25], body := Mine.fB [17, 25], scope := Mine.fS [17, 25], globals := 3, closure := [], defaults := vr 586, kwdefaults := vn, pyModule := vs "io" 444, code := vr 592 } }) ::
(nat_lit 594, { cls := Value.type "tuple", data := Data.seq #[vi (-1) 1033] }) ::
(nat_lit 595, { cls := Value.type "tuple", data := Data.seq #[] }) ::
(nat_lit 597, { cls := Value.type "tuple", data := Data.seq #[vs "self" 1037, vs "size" 1038] }) ::
(nat_lit 598, { cls := Value.type "tuple", data := Data.seq #[] }) ::
(nat_lit 600, { cls := Value.type "code", data := Data.fields #[vs "readline" 1034, vs "StringIO.readline" 1035, vs "/claim/cut.py" 1036, vi 417 0, vi 2 0, vi 2 0, vi 0 0, vi 3 0, vr 595, Value.bool true, vi 318 0, vr 596, vn, vr 597, vr 598, vr 599, vi 1039 0, vi 417 0, vs "/claim/cut.py" 1040] }) ::
(nat_lit 601, { cls := Value.type "function", data := Data.func { name := so "readline", qualname := so "StringIO.readline", params := Mine.fA [17, 26], body := Mine.fB [17, 26], scope := Mine.fS [17, 26], globals := 3, closure := [], defaults := vr 594, kwdefaults := vn, pyModule := vs "io" 444, code := vr 600 } }) ::
(nat_lit 602, { cls := Value.type "tuple", data := Data.seq #[vi (-1) 1043] }) ::
(nat_lit 603, { cls := Value.type "tuple", data := Data.seq #[] }) ::
(nat_lit 605, { cls := Value.type "tuple", data := Data.seq #[vs "self" 1047, vs "hint" 1048] }) ::
(nat_lit 606, { cls := Value.type "tuple", data := Data.seq #[] }) ::
(nat_lit 608, { cls := Value.type "code", data := Data.fields #[vs "readlines" 1044, vs "StringIO.readlines" 1045, vs "/claim/cut.py" 1046, vi 424 0, vi 2 0, vi 2 0, vi 0 0, vi 3 0, vr 603, Value.bool true, vi 318 0, vr 604, vn, vr 605, vr 606, vr 607, vi 1049 0, vi 424 0, vs "/claim/cut.py" 1050] }) ::
(nat_lit 609, { cls := Value.type "function", data := Data.func { name := so "readlines", qualname := so "StringIO.readlines", params := Mine.fA [17, 27], body := Mine.fB [17, 27], scope := Mine.fS [17, 27], globals := 3, closure := [], defaults := vr 602, kwdefaults := vn, pyModule := vs "io" 444, code := vr 608 } }) ::
(nat_lit 610, { cls := Value.type "tuple", data := Data.seq #[] }) ::
(nat_lit 612, { cls := Value.type "tuple", data := Data.seq #[vs "self" 1055] }) ::
(nat_lit 613, { cls := Value.type "tuple", data := Data.seq #[] }) ::
(nat_lit 615, { cls := Value.type "code", data := Data.fields #[vs "__iter__" 1052, vs "StringIO.__iter__" 1053, vs "/claim/cut.py" 1054, vi 427 0, vi 1 0, vi 0 0, vi 0 0, vi 3 0, vr 610, Value.bool true, vi 318 0, vr 611, vn, vr 612, vr 613, vr 614, vi 1056 0, vi 427 0, vs "/claim/cut.py" 1057] }) ::
(nat_lit 616, { cls := Value.type "function", data := Data.func { name := so "__iter__", qualname := so "StringIO.__iter__", params := Mine.fA [17, 28], body := Mine.fB [17, 28], scope := Mine.fS [17, 28], globals := 3, closure := [], defaults := vn, kwdefaults := vn, pyModule := vs "io" 444, code := vr 615 } }) ::
(nat_lit 617, { cls := Value.type "tuple", data := Data.seq #[] }) ::
(nat_lit 619, { cls := Value.type "tuple", data := Data.seq #[vs "self" 1062, vs "line" 1063] }) ::
(nat_lit 620, { cls := Value.type "tuple", data := Data.seq #[] }) ::
(nat_lit 622, { cls := Value.type "code", data := Data.fields #[vs "__next__" 1059, vs "StringIO.__next__" 1060, vs "/claim/cut.py" 1061, vi 431 0, vi 1 0, vi 0 0, vi 0 0, vi 3 0, vr 617, Value.bool true, vi 318 0, vr 618, vn, vr 619, vr 620, vr 621, vi 1064 0, vi 431 0, vs "/claim/cut.py" 1065] }) ::
(nat_lit 623, { cls := Value.type "function", data := Data.func { name := so "__next__", qualname := so "StringIO.__next__", params := Mine.fA [17, 29], body := Mine.fB [17, 29], scope := Mine.fS [17, 29], globals := 3, closure := [], defaults := vn, kwdefaults := vn, pyModule := vs "io" 444, code := vr 622 } }) ::
(nat_lit 624, { cls := Value.type "tuple", data := Data.seq #[] }) ::
(nat_lit 626, { cls := Value.type "tuple", data := Data.seq #[vs "self" 1070, vs "s" 1071, vs "n" 1072, vs "m" 1073, vs "start" 1074, vs "buf" 1075] }) ::
(nat_lit 627, { cls := Value.type "tuple", data := Data.seq #[] }) ::
(nat_lit 629, { cls := Value.type "code", data := Data.fields #[vs "write" 1067, vs "StringIO.write" 1068, vs "/claim/cut.py" 1069, vi 438 0, vi 2 0, vi 2 0, vi 0 0, vi 3 0, vr 624, Value.bool true, vi 318 0, vr 625, vn, vr 626, vr 627, vr 628, vi 1076 0, vi 438 0, vs "/claim/cut.py" 1077] }) ::
(nat_lit 630, { cls := Value.type "function", data := Data.func { name := so "write", qualname := so "StringIO.write", params := Mine.fA [17, 30], body := Mine.fB [17, 30], scope := Mine.fS [17, 30], globals := 3, closure := [], defaults := vn, kwdefaults := vn, pyModule := vs "io" 444, code := vr 629 } }) ::
(nat_lit 631, { cls := Value.type "tuple", data := Data.seq #[] }) ::
(nat_lit 633, { cls := Value.type "tuple", data := Data.seq #[vs "self" 1082, vs "lines" 1083] }) ::
(nat_lit 634, { cls := Value.type "tuple", data := Data.seq #[] }) ::
(nat_lit 636, { cls := Value.type "code", data := Data.fields #[vs "writelines" 1079, vs "StringIO.writelines" 1080, vs "/claim/cut.py" 1081, vi 457 0, vi 2 0, vi 2 0, vi 0 0, vi 3 0, vr 631, Value.bool true, vi 318 0, vr 632, vn, vr 633, vr 634, vr 635, vi 1084 0, vi 457 0, vs "/claim/cut.py" 1085] }) ::
(nat_lit 637, { cls := Value.type "function", data := Data.func { name := so "writelines", qualname := so "StringIO.writelines", params := Mine.fA [17, 31], body := Mine.fB [17, 31], scope := Mine.fS [17, 31], globals := 3, closure := [], defaults := vn, kwdefaults := vn, pyModule := vs "io" 444, code := vr 636 } }) ::
(nat_lit 638, { cls := Value.type "tuple", data := Data.seq #[] }) ::
(nat_lit 640, { cls := Value.type "tuple", data := Data.seq #[vs "self" 1090] }) ::
(nat_lit 641, { cls := Value.type "tuple", data := Data.seq #[] }) ::
(nat_lit 643, { cls := Value.type "code", data := Data.fields #[vs "__repr__" 1087, vs "StringIO.__repr__" 1088, vs "/claim/cut.py" 1089, vi 460 0, vi 1 0, vi 0 0, vi 0 0, vi 3 0, vr 638, Value.bool true, vi 318 0, vr 639, vn, vr 640, vr 641, vr 642, vi 1091 0, vi 460 0, vs "/claim/cut.py" 1092] }) ::
(nat_lit 644, { cls := Value.type "function", data := Data.func { name := so "__repr__", qualname := so "StringIO.__repr__", params := Mine.fA [17, 32], body := Mine.fB [17, 32], scope := Mine.fS [17, 32], globals := 3, closure := [], defaults := vn, kwdefaults := vn, pyModule := vs "io" 444, code := vr 643 } }) ::
(nat_lit 645, { cls := Value.type "tuple", data := Data.seq #[vs "__buf" 1094, vs "__newline" 1095, vs "__pos" 1096] }) ::
(nat_lit 646, { cls := Value.type "dict", data := Data.dict #[{ hash := kh P (so "__module__"), key := vs "__module__" 821, val := vs "_io" 826 }, { hash := kh P (so "__firstlineno__"), key := vs "__firstlineno__" 825, val := vi 257 824 }, { hash := kh P (so "__init__"), key := vs "__init__" 838, val := vr 417 }, { hash := kh P (so "_StringIO__translated"), key := vs "_StringIO__translated" 847, val := vr 424 }, { hash := kh P (so "_StringIO__check"), key := vs "_StringIO__check" 854, val := vr 431 }, { hash := kh P (so "_StringIO__check_dot"), key := vs "_StringIO__check_dot" 861, val := vr 438 }, { hash := kh P (so "_StringIO__line"), key := vs "_StringIO__line" 876, val := vr 445 }, { hash := kh P (so "closed"), key := vs "closed" 884, val := vr 453 }, { hash := kh P (so "line_buffering"), key := vs "line_buffering" 892, val := vr 461 }, { hash := kh P (so "newlines"), key := vs "newlines" 900, val := vr 469 }, { hash := kh P (so "encoding"), key := vs "encoding" 908, val := vr 477 }, { hash := kh P (so "errors"), key := vs "errors" 916, val := vr 485 }, { hash := kh P (so "close"), key := vs "close" 923, val := vr 492 }, { hash := kh P (so "__enter__"), key := vs "__enter__" 930, val := vr 499 }, { hash := kh P (so "__exit__"), key := vs "__exit__" 938, val := vr 506 }, { hash := kh P (so "readable"), key := vs "readable" 945, val := vr 513 }, { hash := kh P (so "writable"), key := vs "writable" 952, val := vr 520 }, { hash := kh P (so "seekable"), key := vs "seekable" 959, val := vr 527 }, { hash := kh P (so "isatty"), key := vs "isatty" 966, val := vr 534 }, { hash := kh P (so "flush"), key := vs "flush" 973, val := vr 541 }, { hash := kh P (so "fileno"), key := vs "fileno" 980, val := vr 548 }, { hash := kh P (so "detach"), key := vs "detach" 987, val := vr 555 }, { hash := kh P (so "getvalue"), key := vs "getvalue" 994, val := vr 562 }, { hash := kh P (so "tell"), key := vs "tell" 1001, val := vr 569 }, { hash := kh P (so "seek"), key := vs "seek" 1011, val := vr 577 }, { hash := kh P (so "truncate"), key := vs "truncate" 1019, val := vr 585 }, { hash := kh P (so "read"), key := vs "read" 1031, val := vr 593 }, { hash := kh P (so "readline"), key := vs "readline" 1041, val := vr 601 }, { hash := kh P (so "readlines"), key := vs "readlines" 1051, val := vr 609 }, { hash := kh P (so "__iter__"), key := vs "__iter__" 1058, val := vr 616 }, { hash := kh P (so "__next__"), key := vs "__next__" 1066, val := vr 623 }, { hash := kh P (so "write"), key := vs "write" 1078, val := vr 630 }, { hash := kh P (so "writelines"), key := vs "writelines" 1086, val := vr 637 }, { hash := kh P (so "__repr__"), key := vs "__repr__" 1093, val := vr 644 }, { hash := kh P (so "__static_attributes__"), key := vs "__static_attributes__" 1097, val := vr 645 }, { hash := kh P (so "__doc__"), key := vs "__doc__" 1098, val := vn }] 2 }) ::
(nat_lit 647, { cls := Value.type "type", data := Data.cls { name := so "StringIO", bases := [vr 170], mro := [vr 647, vr 170, vr 143, Value.type "object"], ns := 646, qualname := so "StringIO" }, slots := #[some (vr 403), none, some (vs "StringIO" 814), some (vs "StringIO" 822), some vn, some (Value.bool true)] }) ::
(nat_lit 650, { cls := Value.type "tuple", data := Data.seq #[] }) ::
(nat_lit 652, { cls := Value.type "tuple", data := Data.seq #[vs "name" 1106, vs "x" 1107, vs "t" 1108] }) ::
(nat_lit 653, { cls := Value.type "tuple", data := Data.seq #[] }) ::
(nat_lit 655, { cls := Value.type "code", data := Data.fields #[vs "_kind" 1103, vs "_kind" 1104, vs "/claim/cut.py" 1105, vi 463 0, vi 2 0, vi 0 0, vi 0 0, vi 3 0, vr 650, Value.bool true, vi 318 0, vr 651, vn, vr 652, vr 653, vr 654, vi 1109 0, vi 463 0, vs "/claim/cut.py" 1110] }) ::
(nat_lit 656, { cls := Value.type "function", data := Data.func { name := so "_kind", qualname := so "_kind", params := Mine.fA [19], body := Mine.fB [19], scope := Mine.fS [19], globals := 3, closure := [], defaults := vn, kwdefaults := vn, pyModule := vs "os.path" 1101, code := vr 655 } }) ::
(nat_lit 657, { cls := Value.type "tuple", data := Data.seq #[] }) ::
(nat_lit 659, { cls := Value.type "tuple", data := Data.seq #[vs "name" 1115, vs "x" 1116, vs "k" 1117] }) ::
(nat_lit 660, { cls := Value.type "tuple", data := Data.seq #[] }) ::
(nat_lit 662, { cls := Value.type "code", data := Data.fields #[vs "_fspath" 1112, vs "_fspath" 1113, vs "/claim/cut.py" 1114, vi 484 0, vi 2 0, vi 0 0, vi 0 0, vi 3 0, vr 657, Value.bool true, vi 318 0, vr 658, vn, vr 659, vr 660, vr 661, vi 1118 0, vi 484 0, vs "/claim/cut.py" 1119] }) ::
(nat_lit 663, { cls := Value.type "function", data := Data.func { name := so "_fspath", qualname := so "_fspath", params := Mine.fA [20], body := Mine.fB [20], scope := Mine.fS [20], globals := 3, closure := [], defaults := vn, kwdefaults := vn, pyModule := vs "os.path" 1101, code := vr 662 } }) ::
(nat_lit 664, { cls := Value.type "tuple", data := Data.seq #[] }) ::
(nat_lit 666, { cls := Value.type "tuple", data := Data.seq #[vs "funcname" 1124, vs "args" 1125, vs "s" 1126, vs "k" 1127] }) ::
(nat_lit 667, { cls := Value.type "tuple", data := Data.seq #[] }) ::
(nat_lit 669, { cls := Value.type "code", data := Data.fields #[vs "_check_arg_types" 1121, vs "_check_arg_types" 1122, vs "/claim/cut.py" 1123, vi 489 0, vi 1 0, vi 0 0, vi 0 0, vi 7 0, vr 664, Value.bool true, vi 318 0, vr 665, vn, vr 666, vr 667, vr 668, vi 1128 0, vi 489 0, vs "/claim/cut.py" 1129] }) ::
(nat_lit 670, { cls := Value.type "function", data := Data.func { name := so "_check_arg_types", qualname := so "_check_arg_types", params := Mine.fA [21], body := Mine.fB [21], scope := Mine.fS [21], globals := 3, closure := [], defaults := vn, kwdefaults := vn, pyModule := vs "os.path" 1101, code := vr 669 } }) ::
(nat_lit 671, { cls := Value.type "tuple", data := Data.seq #[] }) ::
(nat_lit 673, { cls := Value.type "tuple", data := Data.seq #[vs "s" 1134] }) ::
(nat_lit 674, { cls := Value.type "tuple", data := Data.seq #[] }) ::
(nat_lit 676, { cls := Value.type "code", data := Data.fields #[vs "isabs" 1131, vs "isabs" 1132, vs "/claim/cut.py" 1133, vi 494 0, vi 1 0, vi 0 0, vi 0 0, vi 3 0, vr 671, Value.bool true, vi 318 0, vr 672, vn, vr 673, vr 674, vr 675, vi 1135 0, vi 494 0, vs "/claim/cut.py" 1136] }) ::
(nat_lit 677, { cls := Value.type "function", data := Data.func { name := so "isabs", qualname := so "isabs", params := Mine.fA [22], body := Mine.fB [22], scope := Mine.fS [22], globals := 3, closure := [], defaults := vn, kwdefaults := vn, pyModule := vs "os.path" 1101, code := vr 676 } }) ::
(nat_lit 678, { cls := Value.type "tuple", data := Data.seq #[] }) ::
(nat_lit 680, { cls := Value.type "tuple", data := Data.seq #[vs "a" 1141, vs "p" 1142, vs "b" 1143, vs "sep" 1144, vs "path" 1145] }) ::
(nat_lit 681, { cls := Value.type "tuple", data := Data.seq #[] }) ::
(nat_lit 683, { cls := Value.type "code", data := Data.fields #[vs "join" 1138, vs "join" 1139, vs "/claim/cut.py" 1140, vi 497 0, vi 1 0, vi 0 0, vi 0 0, vi 7 0, vr 678, Value.bool true, vi 318 0, vr 679, vn, vr 680, vr 681, vr 682, vi 1146 0, vi 497 0, vs "/claim/cut.py" 1147] }) ::
(nat_lit 684, { cls := Value.type "function", data := Data.func { name := so "join", qualname := so "join", params := Mine.fA [23], body := Mine.fB [23], scope := Mine.fS [23], globals := 3, closure := [], defaults := vn, kwdefaults := vn, pyModule := vs "os.path" 1101, code := vr 683 } }) ::
(nat_lit 685, { cls := Value.type "tuple", data := Data.seq #[] }) ::
(nat_lit 687, { cls := Value.type "tuple", data := Data.seq #[vs "p" 1152, vs "sep" 1153, vs "i" 1154, vs "head" 1155] }) ::
(nat_lit 688, { cls := Value.type "tuple", data := Data.seq #[] }) ::
(nat_lit 690, { cls := Value.type "code", data := Data.fields #[vs "dirname" 1149, vs "dirname" 1150, vs "/claim/cut.py" 1151, vi 517 0, vi 1 0, vi 0 0, vi 0 0, vi 3 0, vr 685, Value.bool true, vi 318 0, vr 686, vn, vr 687, vr 688, vr 689, vi 1156 0, vi 517 0, vs "/claim/cut.py" 1157] }) ::
(nat_lit 691, { cls := Value.type "function", data := Data.func { name := so "dirname", qualname := so "dirname", params := Mine.fA [24], body := Mine.fB [24], scope := Mine.fS [24], globals := 3, closure := [], defaults := vn, kwdefaults := vn, pyModule := vs "os.path" 1101, code := vr 690 } }) ::
(nat_lit 699, { cls := Value.type "tuple", data := Data.seq #[vn, vn, Value.bool false, Value.bool false] }) ::
(nat_lit 700, { cls := Value.type "tuple", data := Data.seq #[] }) ::
(nat_lit 702, { cls := Value.type "tuple", data := Data.seq #[vs "self" 1176, vs "instream" 1177, vs "infile" 1178, vs "posix" 1179, vs "punctuation_chars" 1180, vs "t" 1181] }) ::
(nat_lit 703, { cls := Value.type "tuple", data := Data.seq #[] }) ::
(nat_lit 705, { cls := Value.type "code", data := Data.fields #[vs "__init__" 1173, vs "shlex.__init__" 1174, vs "/claim/cut.py" 1175, vi 528 0, vi 5 0, vi 0 0, vi 0 0, vi 3 0, vr 700, Value.bool true, vi 318 0, vr 701, vn, vr 702, vr 703, vr 704, vi 1182 0, vi 528 0, vs "/claim/cut.py" 1183] }) ::
(nat_lit 706, { cls := Value.type "function", data := Data.func { name := so "__init__", qualname := so "shlex.__init__", params := Mine.fA [26, 0], body := Mine.fB [26, 0], scope := Mine.fS [26, 0], globals := 3, closure := [], defaults := vr 699, kwdefaults := vn, pyModule := vs "cpy313.shlex" 1159, code := vr 705 } }) ::
(nat_lit 707, { cls := Value.type "tuple", data := Data.seq #[] }) ::
(nat_lit 709, { cls := Value.type "tuple", data := Data.seq #[vs "self" 1188] }) ::
(nat_lit 710, { cls := Value.type "tuple", data := Data.seq #[] }) ::
(nat_lit 712, { cls := Value.type "code", data := Data.fields #[vs "punctuation_chars" 1185, vs "shlex.punctuation_chars" 1186, vs "/claim/cut.py" 1187, vi 569 0, vi 1 0, vi 0 0, vi 0 0, vi 3 0, vr 707, Value.bool true, vi 318 0, vr 708, vn, vr 709, vr 710, vr 711, vi 1189 0, vi 569 0, vs "/claim/cut.py" 1190] }) ::
(nat_lit 713, { cls := Value.type "function", data := Data.func { name := so "punctuation_chars", qualname := so "shlex.punctuation_chars", params := Mine.fA [26, 1], body := Mine.fB [26, 1], scope := Mine.fS [26, 1], globals := 3, closure := [], defaults := vn, kwdefaults := vn, pyModule := vs "cpy313.shlex" 1159, code := vr 712 } }) ::
(nat_lit 714, { cls := Value.type "property", data := Data.fields #[vr 713, vn, vn, vn, vs "punctuation_chars" 1192, Value.bool false] }) ::
(nat_lit 715, { cls := Value.type "tuple", data := Data.seq #[] }) ::
(nat_lit 717, { cls := Value.type "tuple", data := Data.seq #[vs "self" 1196, vs "tok" 1197] }) ::
(nat_lit 718, { cls := Value.type "tuple", data := Data.seq #[] }) ::
(nat_lit 720, { cls := Value.type "code", data := Data.fields #[vs "push_token" 1193, vs "shlex.push_token" 1194, vs "/claim/cut.py" 1195, vi 573 0, vi 2 0, vi 0 0, vi 0 0, vi 3 0, vr 715, Value.bool true, vi 318 0, vr 716, vn, vr 717, vr 718, vr 719, vi 1198 0, vi 573 0, vs "/claim/cut.py" 1199] }) ::
(nat_lit 721, { cls := Value.type "function", data := Data.func { name := so "push_token", qualname := so "shlex.push_token", params := Mine.fA [26, 2], body := Mine.fB [26, 2], scope := Mine.fS [26, 2], globals := 3, closure := [], defaults := vn, kwdefaults := vn, pyModule := vs "cpy313.shlex" 1159, code := vr 720 } }) ::
(nat_lit 722, { cls := Value.type "tuple", data := Data.seq #[vn] }) ::
(nat_lit 723, { cls := Value.type "tuple", data := Data.seq #[] }) ::
(nat_lit 725, { cls := Value.type "tuple", data := Data.seq #[vs "self" 1204, vs "newstream" 1205, vs "newfile" 1206] }) ::
(nat_lit 726, { cls := Value.type "tuple", data := Data.seq #[] }) ::
(nat_lit 728, { cls := Value.type "code", data := Data.fields #[vs "push_source" 1201, vs "shlex.push_source" 1202, vs "/claim/cut.py" 1203, vi 576 0, vi 3 0, vi 0 0, vi 0 0, vi 3 0, vr 723, Value.bool true, vi 318 0, vr 724, vn, vr 725, vr 726, vr 727, vi 1207 0, vi 576 0, vs "/claim/cut.py" 1208] }) ::
(nat_lit 729, { cls := Value.type "function", data := Data.func { name := so "push_source", qualname := so "shlex.push_source", params := Mine.fA [26, 3], body := Mine.fB [26, 3], scope := Mine.fS [26, 3], globals := 3, closure := [], defaults := vr 722, kwdefaults := vn, pyModule := vs "cpy313.shlex" 1159, code := vr 728 } }) ::
(nat_lit 730, { cls := Value.type "tuple", data := Data.seq #[] }) ::
(nat_lit 732, { cls := Value.type "tuple", data := Data.seq #[vs "self" 1213] }) ::
(nat_lit 733, { cls := Value.type "tuple", data := Data.seq #[] }) ::
(nat_lit 735, { cls := Value.type "code", data := Data.fields #[vs "pop_source" 1210, vs "shlex.pop_source" 1211, vs "/claim/cut.py" 1212, vi 589 0, vi 1 0, vi 0 0, vi 0 0, vi 3 0, vr 730, Value.bool true, vi 318 0, vr 731, vn, vr 732, vr 733, vr 734, vi 1214 0, vi 589 0, vs "/claim/cut.py" 1215] }) ::
(nat_lit 736, { cls := Value.type "function", data := Data.func { name := so "pop_source", qualname := so "shlex.pop_source", params := Mine.fA [26, 4], body := Mine.fB [26, 4], scope := Mine.fS [26, 4], globals := 3, closure := [], defaults := vn, kwdefaults := vn, pyModule := vs "cpy313.shlex" 1159, code := vr 735 } }) ::
(nat_lit 737, { cls := Value.type "tuple", data := Data.seq #[] }) ::
(nat_lit 739, { cls := Value.type "tuple", data := Data.seq #[vs "self" 1220, vs "tok" 1221, vs "raw" 1222, vs "spec" 1223, vs "newfile" 1224, vs "newstream" 1225] }) ::
(nat_lit 740, { cls := Value.type "tuple", data := Data.seq #[] }) ::
(nat_lit 742, { cls := Value.type "code", data := Data.fields #[vs "get_token" 1217, vs "shlex.get_token" 1218, vs "/claim/cut.py" 1219, vi 596 0, vi 1 0, vi 0 0, vi 0 0, vi 3 0, vr 737, Value.bool true, vi 318 0, vr 738, vn, vr 739, vr 740, vr 741, vi 1226 0, vi 596 0, vs "/claim/cut.py" 1227] }) ::
(nat_lit 743, { cls := Value.type "function", data := Data.func { name := so "get_token", qualname := so "shlex.get_token", params := Mine.fA [26, 5], body := Mine.fB [26, 5], scope := Mine.fS [26, 5], globals := 3, closure := [], defaults := vn, kwdefaults := vn, pyModule := vs "cpy313.shlex" 1159, code := vr 742 } }) ::
(nat_lit 744, { cls := Value.type "tuple", data := Data.seq #[] }) ::
(nat_lit 746, { cls := Value.type "tuple", data := Data.seq #[vs "self" 1232, vs "quoted" 1233, vs "escapedstate" 1234, vs "nextchar" 1235, vs "result" 1236] }) ::
(nat_lit 747, { cls := Value.type "tuple", data := Data.seq #[] }) ::
(nat_lit 749, { cls := Value.type "code", data := Data.fields #[vs "read_token" 1229, vs "shlex.read_token" 1230, vs "/claim/cut.py" 1231, vi 623 0, vi 1 0, vi 0 0, vi 0 0, vi 3 0, vr 744, Value.bool true, vi 318 0, vr 745, vn, vr 746, vr 747, vr 748, vi 1237 0, vi 623 0, vs "/claim/cut.py" 1238] }) ::
(nat_lit 750, { cls := Value.type "function", data := Data.func { name := so "read_token", qualname := so "shlex.read_token", params := Mine.fA [26, 6], body := Mine.fB [26, 6], scope := Mine.fS [26, 6], globals := 3, closure := [], defaults := vn, kwdefaults := vn, pyModule := vs "cpy313.shlex" 1159, code := vr 749 } }) ::
(nat_lit 751, { cls := Value.type "tuple", data := Data.seq #[] }) ::
(nat_lit 753, { cls := Value.type "tuple", data := Data.seq #[vs "self" 1243, vs "newfile" 1244] }) ::
(nat_lit 754, { cls := Value.type "tuple", data := Data.seq #[] }) ::
(nat_lit 756, { cls := Value.type "code", data := Data.fields #[vs "sourcehook" 1240, vs "shlex.sourcehook" 1241, vs "/claim/cut.py" 1242, vi 760 0, vi 2 0, vi 0 0, vi 0 0, vi 3 0, vr 751, Value.bool true, vi 318 0, vr 752, vn, vr 753, vr 754, vr 755, vi 1245 0, vi 760 0, vs "/claim/cut.py" 1246] }) ::
(nat_lit 757, { cls := Value.type "function", data := Data.func { name := so "sourcehook", qualname := so "shlex.sourcehook", params := Mine.fA [26, 7], body := Mine.fB [26, 7], scope := Mine.fS [26, 7], globals := 3, closure := [], defaults := vn, kwdefaults := vn, pyModule := vs "cpy313.shlex" 1159, code := vr 756 } }) ::
(nat_lit 758, { cls := Value.type "tuple", data := Data.seq #[vn, vn] }) ::
(nat_lit 759, { cls := Value.type "tuple", data := Data.seq #[] }) ::
(nat_lit 761, { cls := Value.type "tuple", data := Data.seq #[vs "self" 1251, vs "infile" 1252, vs "lineno" 1253] }) ::
(nat_lit 762, { cls := Value.type "tuple", data := Data.seq #[] }) ::
(nat_lit 764, { cls := Value.type "code", data := Data.fields #[vs "error_leader" 1248, vs "shlex.error_leader" 1249, vs "/claim/cut.py" 1250, vi 767 0, vi 3 0, vi 0 0, vi 0 0, vi 3 0, vr 759, Value.bool true, vi 318 0, vr 760, vn, vr 761, vr 762, vr 763, vi 1254 0, vi 767 0, vs "/claim/cut.py" 1255] }) ::
(nat_lit 765, { cls := Value.type "function", data := Data.func { name := so "error_leader", qualname := so "shlex.error_leader", params := Mine.fA [26, 8], body := Mine.fB [26, 8], scope := Mine.fS [26, 8], globals := 3, closure := [], defaults := vr 758, kwdefaults := vn, pyModule := vs "cpy313.shlex" 1159, code := vr 764 } }) ::
(nat_lit 766, { cls := Value.type "tuple", data := Data.seq #[] }) ::
(nat_lit 768, { cls := Value.type "tuple", data := Data.seq #[vs "self" 1260] }) ::
(nat_lit 769, { cls := Value.type "tuple", data := Data.seq #[] }) ::
(nat_lit 771, { cls := Value.type "code", data := Data.fields #[vs "__iter__" 1257, vs "shlex.__iter__" 1258, vs "/claim/cut.py" 1259, vi 770 0, vi 1 0, vi 0 0, vi 0 0, vi 3 0, vr 766, Value.bool true, vi 318 0, vr 767, vn, vr 768, vr 769, vr 770, vi 1261 0, vi 770 0, vs "/claim/cut.py" 1262] }) ::
(nat_lit 772, { cls := Value.type "function", data := Data.func { name := so "__iter__", qualname := so "shlex.__iter__", params := Mine.fA [26, 9], body := Mine.fB [26, 9], scope := Mine.fS [26, 9], globals := 3, closure := [], defaults := vn, kwdefaults := vn, pyModule := vs "cpy313.shlex" 1159, code := vr 771 } }) ::
(nat_lit 773, { cls := Value.type "tuple", data := Data.seq #[] }) ::
(nat_lit 775, { cls := Value.type "tuple", data := Data.seq #[vs "self" 1267, vs "token" 1268] }) ::
(nat_lit 776, { cls := Value.type "tuple", data := Data.seq #[] }) ::
(nat_lit 778, { cls := Value.type "code", data := Data.fields #[vs "__next__" 1264, vs "shlex.__next__" 1265, vs "/claim/cut.py" 1266, vi 773 0, vi 1 0, vi 0 0, vi 0 0, vi 3 0, vr 773, Value.bool true, vi 318 0, vr 774, vn, vr 775, vr 776, vr 777, vi 1269 0, vi 773 0, vs "/claim/cut.py" 1270] }) ::
(nat_lit 779, { cls := Value.type "function", data := Data.func { name := so "__next__", qualname := so "shlex.__next__", params := Mine.fA [26, 10], body := Mine.fB [26, 10], scope := Mine.fS [26, 10], globals := 3, closure := [], defaults := vn, kwdefaults := vn, pyModule := vs "cpy313.shlex" 1159, code := vr 778 } }) ::
(nat_lit 780, { cls := Value.type "tuple", data := Data.seq #[vs "_punctuation_chars" 1272, vs "_pushback_chars" 1273, vs "commenters" 1274, vs "debug" 1275, vs "eof" 1276, vs "escape" 1277, vs "escapedquotes" 1278, vs "filestack" 1279, vs "infile" 1280, vs "instream" 1281, vs "lineno" 1282, vs "posix" 1283, vs "pushback" 1284, vs "quotes" 1285, vs "source" 1286, vs "state" 1287, vs "token" 1288, vs "whitespace" 1289, vs "whitespace_split" 1290, vs "wordchars" 1291] }) ::
(nat_lit 781, { cls := Value.type "dict", data := Data.dict #[{ hash := kh P (so "__module__"), key := vs "__module__" 1168, val := vs "cpy313.shlex" 1159 }, { hash := kh P (so "__firstlineno__"), key := vs "__firstlineno__" 1172, val := vi 526 1171 }, { hash := kh P (so "__init__"), key := vs "__init__" 1184, val := vr 706 }, { hash := kh P (so "punctuation_chars"), key := vs "punctuation_chars" 1192, val := vr 714 }, { hash := kh P (so "push_token"), key := vs "push_token" 1200, val := vr 721 }, { hash := kh P (so "push_source"), key := vs "push_source" 1209, val := vr 729 }, { hash := kh P (so "pop_source"), key := vs "pop_source" 1216, val := vr 736 }, { hash := kh P (so "get_token"), key := vs "get_token" 1228, val := vr 743 }, { hash := kh P (so "read_token"), key := vs "read_token" 1239, val := vr 750 }, { hash := kh P (so "sourcehook"), key := vs "sourcehook" 1247, val := vr 757 }, { hash := kh P (so "error_leader"), key := vs "error_leader" 1256, val := vr 765 }, { hash := kh P (so "__iter__"), key := vs "__iter__" 1263, val := vr 772 }, { hash := kh P (so "__next__"), key := vs "__next__" 1271, val := vr 779 }, { hash := kh P (so "__static_attributes__"), key := vs "__static_attributes__" 1292, val := vr 780 }, { hash := kh P (so "__dict__"), key := vs "__dict__" 1294, val := vr 783 }, { hash := kh P (so "__weakref__"), key := vs "__weakref__" 1296, val := vr 784 }, { hash := kh P (so "__doc__"), key := vs "__doc__" 1297, val := vn }] 4 }) ::
(nat_lit 782, { cls := Value.type "type", data := Data.cls { name := so "shlex", bases := [Value.type "object"], mro := [vr 782, Value.type "object"], ns := 781, qualname := so "shlex" }, slots := #[none, none, some (vs "shlex" 1161), some (vs "shlex" 1169), some (Value.builtin "object.__new__"), some (Value.bool true)] }) ::
(nat_lit 783, { cls := Value.type "getset_descriptor", data := Data.fields #[vs "__dict__" 1293, vr 782, Value.builtin "function.__dict__", Value.builtin "function.__dict__#set"] }) ::
(nat_lit 784, { cls := Value.type "getset_descriptor", data := Data.fields #[vs "__weakref__" 1295, vr 782, Value.builtin "ExceptionGroup.__weakref__", vn] }) ::
(nat_lit 787, { cls := Value.type "builtin_function_or_method", data := Data.fields #[Value.builtin "re.Pattern.search", vr 99] }) ::
(nat_lit 788, { cls := Value.type "tuple", data := Data.seq #[] }) ::
(nat_lit 790, { cls := Value.type "tuple", data := Data.seq #[vs "s" 1305] }) ::
(nat_lit 791, { cls := Value.type "tuple", data := Data.seq #[] }) ::
(nat_lit 793, { cls := Value.type "code", data := Data.fields #[vs "quote" 1302, vs "quote" 1303, vs "/claim/cut.py" 1304, vi 779 0, vi 1 0, vi 0 0, vi 0 0, vi 3 0, vr 788, Value.bool true, vi 318 0, vr 789, vn, vr 790, vr 791, vr 792, vi 1306 0, vi 779 0, vs "/claim/cut.py" 1307] }) ::
(nat_lit 794, { cls := Value.type "function", data := Data.func { name := so "quote", qualname := so "quote", params := Mine.fA [28], body := Mine.fB [28], scope := Mine.fS [28], globals := 3, closure := [], defaults := vn, kwdefaults := vn, pyModule := vs "cpy313.shlex" 1159, code := vr 793 } }) ::
(nat_lit 795, { cls := Value.type "tuple", data := Data.seq #[] }) ::
(nat_lit 797, { cls := Value.type "tuple", data := Data.seq #[vs "text" 1314, vs "stream" 1315, vs "_law_give" 1316] }) ::
(nat_lit 798, { cls := Value.type "tuple", data := Data.seq #[vs "text" 1317, vs "place" 1318] }) ::
(nat_lit 800, { cls := Value.type "code", data := Data.fields #[vs "_law_stream" 1311, vs "_law_stream" 1312, vs "/claim/cut.py" 1313, vi 786 0, vi 1 0, vi 0 0, vi 0 0, vi 3 0, vr 795, Value.bool true, vi 318 0, vr 796, vn, vr 797, vr 798, vr 799, vi 1319 0, vi 786 0, vs "/claim/cut.py" 1320] }) ::
(nat_lit 801, { cls := Value.type "function", data := Data.func { name := so "_law_stream", qualname := so "_law_stream", params := Mine.fA [30], body := Mine.fB [30], scope := Mine.fS [30], globals := 3, closure := [], defaults := vn, kwdefaults := vn, pyModule := vs "law_in0140_01" 1309, code := vr 800 } }) ::
(nat_lit 802, { cls := Value.type "tuple", data := Data.seq #[] }) ::
(nat_lit 805, { cls := Value.type "code", data := Data.fields #[vs "_law_words" 1322, vs "_law_words" 1323, vs "/claim/cut.py" 1324, vi 796 0, vi 1 0, vi 0 0, vi 0 0, vi 3 0, vr 802, Value.bool true, vi 318 0, vr 803, vn, vn, vn, vr 804, vi 1325 0, vi 796 0, vs "/claim/cut.py" 1326] }) ::
(nat_lit 806, { cls := Value.type "function", data := Data.func { name := so "_law_words", qualname := so "_law_words", params := Mine.fA [31], body := Mine.fB [31], scope := Mine.fS [31], globals := 3, closure := [], defaults := vn, kwdefaults := vn, pyModule := vs "law_in0140_01" 1309, code := vr 805 } }) ::
(nat_lit 807, { cls := Value.type "tuple", data := Data.seq #[] }) ::
(nat_lit 809, { cls := Value.type "tuple", data := Data.seq #[vs "word" 1331, vs "doubled" 1332, vs "told" 1333] }) ::
(nat_lit 810, { cls := Value.type "tuple", data := Data.seq #[] }) ::
(nat_lit 812, { cls := Value.type "code", data := Data.fields #[vs "_law_escaped" 1328, vs "_law_escaped" 1329, vs "/claim/cut.py" 1330, vi 803 0, vi 2 0, vi 0 0, vi 0 0, vi 3 0, vr 807, Value.bool true, vi 318 0, vr 808, vn, vr 809, vr 810, vr 811, vi 1334 0, vi 803 0, vs "/claim/cut.py" 1335] }) ::
(nat_lit 813, { cls := Value.type "function", data := Data.func { name := so "_law_escaped", qualname := so "_law_escaped", params := Mine.fA [32], body := Mine.fB [32], scope := Mine.fS [32], globals := 3, closure := [], defaults := vn, kwdefaults := vn, pyModule := vs "law_in0140_01" 1309, code := vr 812 } }) ::
(nat_lit 814, { cls := Value.type "tuple", data := Data.seq #[] }) ::
(nat_lit 816, { cls := Value.type "tuple", data := Data.seq #[vs "word" 1340, vs "by_repr" 1341] }) ::
(nat_lit 817, { cls := Value.type "tuple", data := Data.seq #[] }) ::
(nat_lit 819, { cls := Value.type "code", data := Data.fields #[vs "_law_netrc" 1337, vs "_law_netrc" 1338, vs "/claim/cut.py" 1339, vi 806 0, vi 2 0, vi 0 0, vi 0 0, vi 3 0, vr 814, Value.bool true, vi 318 0, vr 815, vn, vr 816, vr 817, vr 818, vi 1342 0, vi 806 0, vs "/claim/cut.py" 1343] }) ::
(nat_lit 820, { cls := Value.type "function", data := Data.func { name := so "_law_netrc", qualname := so "_law_netrc", params := Mine.fA [33], body := Mine.fB [33], scope := Mine.fS [33], globals := 3, closure := [], defaults := vn, kwdefaults := vn, pyModule := vs "law_in0140_01" 1309, code := vr 819 } }) ::
(nat_lit 821, { cls := Value.type "tuple", data := Data.seq #[] }) ::
(nat_lit 823, { cls := Value.type "tuple", data := Data.seq #[vs "word" 1348, vs "by_repr" 1349] }) ::
(nat_lit 824, { cls := Value.type "tuple", data := Data.seq #[] }) ::
(nat_lit 826, { cls := Value.type "code", data := Data.fields #[vs "_law_shell" 1345, vs "_law_shell" 1346, vs "/claim/cut.py" 1347, vi 812 0, vi 2 0, vi 0 0, vi 0 0, vi 3 0, vr 821, Value.bool true, vi 318 0, vr 822, vn, vr 823, vr 824, vr 825, vi 1350 0, vi 812 0, vs "/claim/cut.py" 1351] }) ::
(nat_lit 827, { cls := Value.type "function", data := Data.func { name := so "_law_shell", qualname := so "_law_shell", params := Mine.fA [34], body := Mine.fB [34], scope := Mine.fS [34], globals := 3, closure := [], defaults := vn, kwdefaults := vn, pyModule := vs "law_in0140_01" 1309, code := vr 826 } }) ::
(nat_lit 828, { cls := Value.type "tuple", data := Data.seq #[] }) ::
(nat_lit 830, { cls := Value.type "tuple", data := Data.seq #[vs "line" 1356, vs "words" 1357, vs "lexer" 1358, vs "word" 1359, vs "by_repr" 1360, vs "due" 1361, vs "whole" 1362, vs "token" 1363] }) ::
(nat_lit 831, { cls := Value.type "tuple", data := Data.seq #[] }) ::
(nat_lit 833, { cls := Value.type "code", data := Data.fields #[vs "_law_first" 1353, vs "_law_first" 1354, vs "/claim/cut.py" 1355, vi 818 0, vi 2 0, vi 0 0, vi 0 0, vi 3 0, vr 828, Value.bool true, vi 318 0, vr 829, vn, vr 830, vr 831, vr 832, vi 1364 0, vi 818 0, vs "/claim/cut.py" 1365] }) ::
(nat_lit 834, { cls := Value.type "function", data := Data.func { name := so "_law_first", qualname := so "_law_first", params := Mine.fA [35], body := Mine.fB [35], scope := Mine.fS [35], globals := 3, closure := [], defaults := vn, kwdefaults := vn, pyModule := vs "law_in0140_01" 1309, code := vr 833 } }) ::
(nat_lit 835, { cls := Value.type "tuple", data := Data.seq #[] }) ::
(nat_lit 837, { cls := Value.type "tuple", data := Data.seq #[vs "line" 1370, vs "words" 1371, vs "lexer" 1372, vs "word" 1373, vs "by_repr" 1374, vs "due" 1375, vs "whole" 1376, vs "token" 1377] }) ::
(nat_lit 838, { cls := Value.type "tuple", data := Data.seq #[] }) ::
(nat_lit 840, { cls := Value.type "code", data := Data.fields #[vs "_law_second" 1367, vs "_law_second" 1368, vs "/claim/cut.py" 1369, vi 828 0, vi 2 0, vi 0 0, vi 0 0, vi 3 0, vr 835, Value.bool true, vi 318 0, vr 836, vn, vr 837, vr 838, vr 839, vi 1378 0, vi 828 0, vs "/claim/cut.py" 1379] }) ::
(nat_lit 841, { cls := Value.type "function", data := Data.func { name := so "_law_second", qualname := so "_law_second", params := Mine.fA [36], body := Mine.fB [36], scope := Mine.fS [36], globals := 3, closure := [], defaults := vn, kwdefaults := vn, pyModule := vs "law_in0140_01" 1309, code := vr 840 } }) ::
(nat_lit 842, { cls := Value.type "tuple", data := Data.seq #[] }) ::
(nat_lit 845, { cls := Value.type "code", data := Data.fields #[vs "law" 1381, vs "law" 1382, vs "/claim/cut.py" 1383, vi 841 0, vi 1 0, vi 0 0, vi 0 0, vi 3 0, vr 842, Value.bool true, vi 318 0, vr 843, vn, vn, vn, vr 844, vi 1384 0, vi 841 0, vs "/claim/cut.py" 1385] }) ::
(nat_lit 846, { cls := Value.type "function", data := Data.func { name := so "law", qualname := so "law", params := Mine.fA [37], body := Mine.fB [37], scope := Mine.fS [37], globals := 3, closure := [], defaults := vn, kwdefaults := vn, pyModule := vs "law_in0140_01" 1309, code := vr 845 } }) :: []
noncomputable abbrev as : List Nat := [2, 3, 38, 40, 41, 43, 44, 45, 46, 48, 49, 51, 52, 60, 62, 63, 65, 66, 67, 69, 70, 72, 73, 74, 76, 77, 79, 80, 81, 83, 84, 86, 87, 88, 89, 90, 91, 92, 98, 99, 100, 102, 103, 105, 106, 107, 109, 110, 112, 113, 114, 121, 122, 123, 124, 134, 136, 137, 139, 140, 141, 142, 143, 144, 145, 146, 149, 156, 157, 158, 161, 168, 169, 170, 173, 180, 181, 183, 184, 186, 187, 188, 190, 191, 193, 194, 195, 197, 198, 200, 201, 202, 204, 205, 207, 208, 209, 210, 212, 213, 215, 216, 217, 219, 220, 222, 223, 224, 226, 227, 229, 230, 231, 233, 234, 236, 237, 238, 240, 241, 243, 244, 245, 247, 248, 250, 251, 252, 254, 255, 257, 258, 259, 261, 262, 264, 265, 266, 268, 269, 271, 272, 273, 275, 276, 278, 279, 280, 282, 283, 285, 286, 287, 289, 290, 292, 293, 294, 296, 297, 299, 300, 301, 302, 304, 305, 307, 308, 309, 310, 312, 313, 315, 316, 317, 318, 320, 321, 323, 324, 325, 326, 328, 329, 331, 332, 333, 335, 336, 338, 339, 340, 342, 343, 345, 346, 347, 348, 350, 351, 353, 354, 355, 356, 358, 359, 361, 362, 363, 365, 366, 368, 369, 370, 372, 373, 375, 376, 377, 379, 380, 382, 383, 384, 386, 387, 389, 390, 391, 393, 394, 396, 397, 398, 399, 400, 403, 410, 411, 413, 414, 416, 417, 418, 420, 421, 423, 424, 425, 427, 428, 430, 431, 432, 434, 435, 437, 438, 439, 441, 442, 444, 445, 446, 448, 449, 451, 452, 453, 454, 456, 457, 459, 460, 461, 462, 464, 465, 467, 468, 469, 470, 472, 473, 475, 476, 477, 478, 480, 481, 483, 484, 485, 486, 488, 489, 491, 492, 493, 495, 496, 498, 499, 500, 502, 503, 505, 506, 507, 509, 510, 512, 513, 514, 516, 517, 519, 520, 521, 523, 524, 526, 527, 528, 530, 531, 533, 534, 535, 537, 538, 540, 541, 542, 544, 545, 547, 548, 549, 551, 552, 554, 555, 556, 558, 559, 561, 562, 563, 565, 566, 568, 569, 570, 571, 573, 574, 576, 577, 578, 579, 581, 582, 584, 585, 586, 587, 589, 590, 592, 593, 594, 595, 597, 598, 600, 601, 602, 603, 605, 606, 608, 609, 610, 612, 613, 615, 616, 617, 619, 620, 622, 623, 624, 626, 627, 629, 630, 631, 633, 634, 636, 637, 638, 640, 641, 643, 644, 645, 646, 647, 650, 652, 653, 655, 656, 657, 659, 660, 662, 663, 664, 666, 667, 669, 670, 671, 673, 674, 676, 677, 678, 680, 681, 683, 684, 685, 687, 688, 690, 691, 699, 700, 702, 703, 705, 706, 707, 709, 710, 712, 713, 714, 715, 717, 718, 720, 721, 722, 723, 725, 726, 728, 729, 730, 732, 733, 735, 736, 737, 739, 740, 742, 743, 744, 746, 747, 749, 750, 751, 753, 754, 756, 757, 758, 759, 761, 762, 764, 765, 766, 768, 769, 771, 772, 773, 775, 776, 778, 779, 780, 781, 782, 783, 784, 787, 788, 790, 791, 793, 794, 795, 797, 798, 800, 801, 802, 805, 806, 807, 809, 810, 812, 813, 814, 816, 817, 819, 820, 821, 823, 824, 826, 827, 828, 830, 831, 833, 834, 835, 837, 838, 840, 841, 842, 845, 846]
end Mine
end
section
open PySem PySem.W PyProof.Rows
set_option Elab.async false
set_option maxRecDepth 100000
set_option maxHeartbeats 80000000
namespace Mine
noncomputable abbrev x0 : Obj := { cls := vn, data := Data.fields #[] }
noncomputable abbrev xt : Obj := { cls := Value.type "tuple", data := Data.seq #[] }
noncomputable abbrev xf (n q : String) (p : List Nat) : Obj := { cls := vn, data := Data.func { name := so n, qualname := so q, params := Mine.fA p, body := Mine.fB p, scope := Mine.fS p, globals := 0, closure := [], defaults := vn, kwdefaults := vn } }
noncomputable abbrev xb (b : String) (v : Value) : Obj := { cls := Value.type "builtin_function_or_method", data := Data.fields #[Value.builtin b, v] }
noncomputable abbrev xs (a b c : Nat) : Obj := { cls := Value.type "super", data := Data.fields #[vr a, vr b, vr c] }
noncomputable abbrev xr (a b : Nat) (n : String) (k : Nat) : Obj := { cls := Value.type "frame", slots := #[some (vr a), some (vr 3), some (vr b), none, some (vs n k), none, some (vr 0)] }
noncomputable def X : Params → Frag := fun P =>
(nat_lit 0, boot_o_0 P) ::
(nat_lit 1, { cls := Value.type "dict", data := Data.dict #[{ hash := kh P (so "builtins"), key := vs "builtins" 162, val := vr 4 }, { hash := kh P (so "__main__"), key := vs "__main__" 163, val := vr 5 }, { hash := kh P (so "_sre"), key := vs "_sre" 244, val := vr 12 }, { hash := kh P (so "_collections"), key := vs "_collections" 292, val := vr 30 }] 4 }) ::
(nat_lit 4, boot_o_4 P) ::
(nat_lit 5, boot_o_5 P) ::
(nat_lit 6, boot_o_6 P) ::
(nat_lit 7, boot_o_7 P) ::
(nat_lit 8, boot_o_8 P) ::
(nat_lit 9, boot_o_9 P) ::
(nat_lit 10, boot_o_10 P) ::
(nat_lit 11, { cls := Value.type "dict", data := Data.dict #[{ hash := kh P (so "__name__"), key := vs "__name__" 247, val := vs "_sre" 246 }, { hash := kh P (so "__doc__"), key := vs "__doc__" 248, val := vn }, { hash := kh P (so "__package__"), key := vs "__package__" 250, val := vs "" 249 }, { hash := kh P (so "__loader__"), key := vs "__loader__" 251, val := Value.builtin "off-the-table:_sre.__loader__:shared#opaque" }, { hash := kh P (so "__spec__"), key := vs "__spec__" 252, val := Value.builtin "off-the-table:_sre.__spec__:shared#opaque" }, { hash := kh P (so "compile"), key := vs "compile" 253, val := Value.builtin "_sre.compile" }, { hash := kh P (so "template"), key := vs "template" 254, val := Value.builtin "off-the-table:_sre.template:shared#opaque" }, { hash := kh P (so "getcodesize"), key := vs "getcodesize" 255, val := Value.builtin "off-the-table:_sre.getcodesize:shared#opaque" }, { hash := kh P (so "ascii_iscased"), key := vs "ascii_iscased" 256, val := Value.builtin "off-the-table:_sre.ascii_iscased:shared#opaque" }, { hash := kh P (so "unicode_iscased"), key := vs "unicode_iscased" 257, val := Value.builtin "off-the-table:_sre.unicode_iscased:shared#opaque" }, { hash := kh P (so "ascii_tolower"), key := vs "ascii_tolower" 258, val := Value.builtin "off-the-table:_sre.ascii_tolower:shared#opaque" }, { hash := kh P (so "unicode_tolower"), key := vs "unicode_tolower" 259, val := Value.builtin "off-the-table:_sre.unicode_tolower:shared#opaque" }, { hash := kh P (so "MAGIC"), key := vs "MAGIC" 261, val := vi 20230612 260 }, { hash := kh P (so "CODESIZE"), key := vs "CODESIZE" 263, val := vi 4 262 }, { hash := kh P (so "MAXREPEAT"), key := vs "MAXREPEAT" 265, val := vi 4294967295 264 }, { hash := kh P (so "MAXGROUPS"), key := vs "MAXGROUPS" 267, val := vi 1073741823 266 }, { hash := kh P (so "copyright"), key := vs "copyright" 269, val := vs " SRE 2.2.2 Copyright (c) 1997-2002 by Secret Labs AB " 268 }] 17 }) ::
(nat_lit 12, { cls := Value.type "module", dict := some 11 }) ::
(nat_lit 13, { cls := Value.type "dict", data := Data.dict #[{ hash := kh P (so "__module__"), key := vs "__module__" 189, val := vs "_frozen_importlib" 186 }, { hash := kh P (so "__firstlineno__"), key := vs "__firstlineno__" 190, val := vi 971 187 }, { hash := kh P (so "__doc__"), key := vs "__doc__" 191, val := Value.builtin "_frozen_importlib.BuiltinImporter.__doc__:str#opaque" }, { hash := kh P (so "_ORIGIN"), key := vs "_ORIGIN" 192, val := vs "built-in" 188 }, { hash := kh P (so "find_spec"), key := vs "find_spec" 193, val := Value.builtin "_frozen_importlib.BuiltinImporter.find_spec#opaque" }, { hash := kh P (so "create_module"), key := vs "create_module" 194, val := Value.builtin "_frozen_importlib.BuiltinImporter.create_module#opaque" }, { hash := kh P (so "exec_module"), key := vs "exec_module" 195, val := Value.builtin "_frozen_importlib.BuiltinImporter.exec_module#opaque" }, { hash := kh P (so "get_code"), key := vs "get_code" 196, val := Value.builtin "_frozen_importlib.BuiltinImporter.get_code#opaque" }, { hash := kh P (so "get_source"), key := vs "get_source" 197, val := Value.builtin "_frozen_importlib.BuiltinImporter.get_source#opaque" }, { hash := kh P (so "is_package"), key := vs "is_package" 198, val := Value.builtin "_frozen_importlib.BuiltinImporter.is_package#opaque" }, { hash := kh P (so "load_module"), key := vs "load_module" 199, val := Value.builtin "_frozen_importlib.BuiltinImporter.load_module#opaque" }, { hash := kh P (so "__static_attributes__"), key := vs "__static_attributes__" 200, val := vr 15 }, { hash := kh P (so "__dict__"), key := vs "__dict__" 202, val := vr 16 }, { hash := kh P (so "__weakref__"), key := vs "__weakref__" 204, val := vr 17 }] 14 }) ::
(nat_lit 14, { cls := Value.type "type", data := Data.cls { name := so "BuiltinImporter", bases := [Value.type "object"], mro := [vr 14, Value.type "object"], ns := 13, qualname := so "BuiltinImporter" } }) ::
(nat_lit 15, xt) ::
(nat_lit 16, { cls := Value.type "getset_descriptor", data := Data.fields #[vs "__dict__" 201, vr 14, Value.builtin "function.__dict__", Value.builtin "function.__dict__#set"] }) ::
(nat_lit 17, { cls := Value.type "getset_descriptor", data := Data.fields #[vs "__weakref__" 203, vr 14, Value.builtin "ExceptionGroup.__weakref__", vn] }) ::
(nat_lit 18, { cls := vn, data := Data.seq #[vi 13 0, Value.str { cps := #[6, 189, 10, 95, 95, 109, 111, 100, 117, 108, 101, 95, 95, 6, 186, 17, 95, 102, 114, 111, 122, 101, 110, 95, 105, 109, 112, 111, 114, 116, 108, 105, 98, 6, 190, 15, 95, 95, 102, 105, 114, 115, 116, 108, 105, 110, 101, 110, 111, 95, 95, 4, 187, 0, 971, 6, 191, 7, 95, 95, 100, 111, 99, 95, 95, 9, 52, 95, 102, 114, 111, 122, 101, 110, 95, 105, 109, 112, 111, 114, 116, 108, 105, 98, 46, 66, 117, 105, 108, 116, 105, 110, 73, 109, 112, 111, 114, 116, 101, 114, 46, 95, 95, 100, 111, 99, 95, 95, 58, 115, 116, 114, 35, 111, 112, 97, 113, 117, 101, 6, 192, 7, 95, 79, 82, 73, 71, 73, 78, 6, 188, 8, 98, 117, 105, 108, 116, 45, 105, 110, 6, 193, 9, 102, 105, 110, 100, 95, 115, 112, 101, 99, 9, 50, 95, 102, 114, 111, 122, 101, 110, 95, 105, 109, 112, 111, 114, 116, 108, 105, 98, 46, 66, 117, 105, 108, 116, 105, 110, 73, 109, 112, 111, 114, 116, 101, 114, 46, 102, 105, 110, 100, 95, 115, 112, 101, 99, 35, 111, 112, 97, 113, 117, 101, 6, 194, 13, 99, 114, 101, 97, 116, 101, 95, 109, 111, 100, 117, 108, 101, 9, 54, 95, 102, 114, 111, 122, 101, 110, 95, 105, 109, 112, 111, 114, 116, 108, 105, 98, 46, 66, 117, 105, 108, 116, 105, 110, 73, 109, 112, 111, 114, 116, 101, 114, 46, 99, 114, 101, 97, 116, 101, 95, 109, 111, 100, 117, 108, 101, 35, 111, 112, 97, 113, 117, 101, 6, 195, 11, 101, 120, 101, 99, 95, 109, 111, 100, 117, 108, 101, 9, 52, 95, 102, 114, 111, 122, 101, 110, 95, 105, 109, 112, 111, 114, 116, 108, 105, 98, 46, 66, 117, 105, 108, 116, 105, 110, 73, 109, 112, 111, 114, 116, 101, 114, 46, 101, 120, 101, 99, 95, 109, 111, 100, 117, 108, 101, 35, 111, 112, 97, 113, 117, 101, 6, 196, 8, 103, 101, 116, 95, 99, 111, 100, 101, 9, 49, 95, 102, 114, 111, 122, 101, 110, 95, 105, 109, 112, 111, 114, 116, 108, 105, 98, 46, 66, 117, 105, 108, 116, 105, 110, 73, 109, 112, 111, 114, 116, 101, 114, 46, 103, 101, 116, 95, 99, 111, 100, 101, 35, 111, 112, 97, 113, 117, 101, 6, 197, 10, 103, 101, 116, 95, 115, 111, 117, 114, 99, 101, 9, 51, 95, 102, 114, 111, 122, 101, 110, 95, 105, 109, 112, 111, 114, 116, 108, 105, 98, 46, 66, 117, 105, 108, 116, 105, 110, 73, 109, 112, 111, 114, 116, 101, 114, 46, 103, 101, 116, 95, 115, 111, 117, 114, 99, 101, 35, 111, 112, 97, 113, 117, 101, 6, 198, 10, 105, 115, 95, 112, 97, 99, 107, 97, 103, 101, 9, 51, 95, 102, 114, 111, 122, 101, 110, 95, 105, 109, 112, 111, 114, 116, 108, 105, 98, 46, 66, 117, 105, 108, 116, 105, 110, 73, 109, 112, 111, 114, 116, 101, 114, 46, 105, 115, 95, 112, 97, 99, 107, 97, 103, 101, 35, 111, 112, 97, 113, 117, 101, 6, 199, 11, 108, 111, 97, 100, 95, 109, 111, 100, 117, 108, 101, 9, 52, 95, 102, 114, 111, 122, 101, 110, 95, 105, 109, 112, 111, 114, 116, 108, 105, 98, 46, 66, 117, 105, 108, 116, 105, 110, 73, 109, 112, 111, 114, 116, 101, 114, 46, 108, 111, 97, 100, 95, 109, 111, 100, 117, 108, 101, 35, 111, 112, 97, 113, 117, 101, 6, 200, 21, 95, 95, 115, 116, 97, 116, 105, 99, 95, 97, 116, 116, 114, 105, 98, 117, 116, 101, 115, 95, 95, 4, 0, 0, 15, 6, 202, 8, 95, 95, 100, 105, 99, 116, 95, 95, 4, 0, 0, 16, 6, 204, 11, 95, 95, 119, 101, 97, 107, 114, 101, 102, 95, 95, 4, 0, 0, 17] } 0, Value.bool true, Value.bool true, vs "" 205, vi 21 0, Value.str { cps := #[6, 227, 10, 95, 95, 109, 111, 100, 117, 108, 101, 95, 95, 6, 217, 17, 95, 102, 114, 111, 122, 101, 110, 95, 105, 109, 112, 111, 114, 116, 108, 105, 98, 6, 228, 15, 95, 95, 102, 105, 114, 115, 116, 108, 105, 110, 101, 110, 111, 95, 95, 4, 218, 0, 562, 6, 229, 7, 95, 95, 100, 111, 99, 95, 95, 9, 47, 95, 102, 114, 111, 122, 101, 110, 95, 105, 109, 112, 111, 114, 116, 108, 105, 98, 46, 77, 111, 100, 117, 108, 101, 83, 112, 101, 99, 46, 95, 95, 100, 111, 99, 95, 95, 58, 115, 116, 114, 35, 111, 112, 97, 113, 117, 101, 6, 230, 8, 95, 95, 105, 110, 105, 116, 95, 95, 9, 44, 95, 102, 114, 111, 122, 101, 110, 95, 105, 109, 112, 111, 114, 116, 108, 105, 98, 46, 77, 111, 100, 117, 108, 101, 83, 112, 101, 99, 46, 95, 95, 105, 110, 105, 116, 95, 95, 35, 111, 112, 97, 113, 117, 101, 6, 231, 8, 95, 95, 114, 101, 112, 114, 95, 95, 9, 44, 95, 102, 114, 111, 122, 101, 110, 95, 105, 109, 112, 111, 114, 116, 108, 105, 98, 46, 77, 111, 100, 117, 108, 101, 83, 112, 101, 99, 46, 95, 95, 114, 101, 112, 114, 95, 95, 35, 111, 112, 97, 113, 117, 101, 6, 232, 6, 95, 95, 101, 113, 95, 95, 9, 42, 95, 102, 114, 111, 122, 101, 110, 95, 105, 109, 112, 111, 114, 116, 108, 105, 98, 46, 77, 111, 100, 117, 108, 101, 83, 112, 101, 99, 46, 95, 95, 101, 113, 95, 95, 35, 111, 112, 97, 113, 117, 101, 6, 233, 6, 99, 97, 99, 104, 101, 100, 9, 42, 95, 102, 114, 111, 122, 101, 110, 95, 105, 109, 112, 111, 114, 116, 108, 105, 98, 46, 77, 111, 100, 117, 108, 101, 83, 112, 101, 99, 46, 99, 97, 99, 104, 101, 100, 35, 111, 112, 97, 113, 117, 101, 6, 234, 6, 112, 97, 114, 101, 110, 116, 9, 42, 95, 102, 114, 111, 122, 101, 110, 95, 105, 109, 112, 111, 114, 116, 108, 105, 98, 46, 77, 111, 100, 117, 108, 101, 83, 112, 101, 99, 46, 112, 97, 114, 101, 110, 116, 35, 111, 112, 97, 113, 117, 101, 6, 235, 12, 104, 97, 115, 95, 108, 111, 99, 97, 116, 105, 111, 110, 9, 48, 95, 102, 114, 111, 122, 101, 110, 95, 105, 109, 112, 111, 114, 116, 108, 105, 98, 46, 77, 111, 100, 117, 108, 101, 83, 112, 101, 99, 46, 104, 97, 115, 95, 108, 111, 99, 97, 116, 105, 111, 110, 35, 111, 112, 97, 113, 117, 101, 6, 236, 21, 95, 95, 115, 116, 97, 116, 105, 99, 95, 97, 116, 116, 114, 105, 98, 117, 116, 101, 115, 95, 95, 4, 0, 0, 23, 6, 238, 8, 95, 95, 100, 105, 99, 116, 95, 95, 4, 0, 0, 24, 6, 240, 11, 95, 95, 119, 101, 97, 107, 114, 101, 102, 95, 95, 4, 0, 0, 25, 6, 241, 8, 95, 95, 104, 97, 115, 104, 95, 95, 0] } 0, Value.bool true, Value.bool true, vs "" 242] 1 }) ::
(nat_lit 19, { cls := Value.type "list", data := Data.seq #[] }) ::
(nat_lit 20, { cls := Value.type "dict", data := Data.dict #[{ hash := kh P (so "name"), key := vs "name" 208, val := vs "_sre" 207 }, { hash := kh P (so "loader"), key := vs "loader" 209, val := vr 14 }, { hash := kh P (so "origin"), key := vs "origin" 210, val := vs "built-in" 184 }, { hash := kh P (so "loader_state"), key := vs "loader_state" 211, val := vn }, { hash := kh P (so "submodule_search_locations"), key := vs "submodule_search_locations" 212, val := vn }, { hash := kh P (so "_uninitialized_submodules"), key := vs "_uninitialized_submodules" 213, val := vr 19 }, { hash := kh P (so "_set_fileattr"), key := vs "_set_fileattr" 214, val := Value.bool false }, { hash := kh P (so "_cached"), key := vs "_cached" 215, val := vn }, { hash := kh P (so "_initializing"), key := vs "_initializing" 243, val := Value.bool false }] 9 }) ::
(nat_lit 21, { cls := Value.type "dict", data := Data.dict #[{ hash := kh P (so "__module__"), key := vs "__module__" 227, val := vs "_frozen_importlib" 217 }, { hash := kh P (so "__firstlineno__"), key := vs "__firstlineno__" 228, val := vi 562 218 }, { hash := kh P (so "__doc__"), key := vs "__doc__" 229, val := Value.builtin "_frozen_importlib.ModuleSpec.__doc__:str#opaque" }, { hash := kh P (so "__init__"), key := vs "__init__" 230, val := Value.builtin "_frozen_importlib.ModuleSpec.__init__#opaque" }, { hash := kh P (so "__repr__"), key := vs "__repr__" 231, val := Value.builtin "_frozen_importlib.ModuleSpec.__repr__#opaque" }, { hash := kh P (so "__eq__"), key := vs "__eq__" 232, val := Value.builtin "_frozen_importlib.ModuleSpec.__eq__#opaque" }, { hash := kh P (so "cached"), key := vs "cached" 233, val := Value.builtin "_frozen_importlib.ModuleSpec.cached#opaque" }, { hash := kh P (so "parent"), key := vs "parent" 234, val := Value.builtin "_frozen_importlib.ModuleSpec.parent#opaque" }, { hash := kh P (so "has_location"), key := vs "has_location" 235, val := Value.builtin "_frozen_importlib.ModuleSpec.has_location#opaque" }, { hash := kh P (so "__static_attributes__"), key := vs "__static_attributes__" 236, val := vr 23 }, { hash := kh P (so "__dict__"), key := vs "__dict__" 238, val := vr 24 }, { hash := kh P (so "__weakref__"), key := vs "__weakref__" 240, val := vr 25 }, { hash := kh P (so "__hash__"), key := vs "__hash__" 241, val := vn }] 13 }) ::
(nat_lit 22, { cls := Value.type "type", data := Data.cls { name := so "ModuleSpec", bases := [Value.type "object"], mro := [vr 22, Value.type "object"], ns := 21, qualname := so "ModuleSpec" } }) ::
(nat_lit 23, { cls := Value.type "tuple", data := Data.seq #[vs "_cached" 219, vs "_set_fileattr" 220, vs "_uninitialized_submodules" 221, vs "loader" 222, vs "loader_state" 223, vs "name" 224, vs "origin" 225, vs "submodule_search_locations" 226] }) ::
(nat_lit 24, { cls := Value.type "getset_descriptor", data := Data.fields #[vs "__dict__" 237, vr 22, Value.builtin "function.__dict__", Value.builtin "function.__dict__#set"] }) ::
(nat_lit 25, { cls := Value.type "getset_descriptor", data := Data.fields #[vs "__weakref__" 239, vr 22, Value.builtin "ExceptionGroup.__weakref__", vn] }) ::
(nat_lit 26, { cls := vr 22, dict := some 20 }) ::
(nat_lit 27, { cls := vn, data := Data.seq #[vi 11 0, Value.str { cps := #[6, 247, 8, 95, 95, 110, 97, 109, 101, 95, 95, 6, 246, 4, 95, 115, 114, 101, 6, 248, 7, 95, 95, 100, 111, 99, 95, 95, 0, 6, 250, 11, 95, 95, 112, 97, 99, 107, 97, 103, 101, 95, 95, 6, 249, 0, 6, 251, 10, 95, 95, 108, 111, 97, 100, 101, 114, 95, 95, 4, 0, 0, 14, 6, 252, 8, 95, 95, 115, 112, 101, 99, 95, 95, 4, 0, 0, 26, 6, 253, 7, 99, 111, 109, 112, 105, 108, 101, 9, 12, 95, 115, 114, 101, 46, 99, 111, 109, 112, 105, 108, 101, 6, 254, 8, 116, 101, 109, 112, 108, 97, 116, 101, 9, 13, 95, 115, 114, 101, 46, 116, 101, 109, 112, 108, 97, 116, 101, 6, 255, 11, 103, 101, 116, 99, 111, 100, 101, 115, 105, 122, 101, 9, 16, 95, 115, 114, 101, 46, 103, 101, 116, 99, 111, 100, 101, 115, 105, 122, 101, 6, 256, 13, 97, 115, 99, 105, 105, 95, 105, 115, 99, 97, 115, 101, 100, 9, 18, 95, 115, 114, 101, 46, 97, 115, 99, 105, 105, 95, 105, 115, 99, 97, 115, 101, 100, 6, 257, 15, 117, 110, 105, 99, 111, 100, 101, 95, 105, 115, 99, 97, 115, 101, 100, 9, 20, 95, 115, 114, 101, 46, 117, 110, 105, 99, 111, 100, 101, 95, 105, 115, 99, 97, 115, 101, 100, 6, 258, 13, 97, 115, 99, 105, 105, 95, 116, 111, 108, 111, 119, 101, 114, 9, 18, 95, 115, 114, 101, 46, 97, 115, 99, 105, 105, 95, 116, 111, 108, 111, 119, 101, 114, 6, 259, 15, 117, 110, 105, 99, 111, 100, 101, 95, 116, 111, 108, 111, 119, 101, 114, 9, 20, 95, 115, 114, 101, 46, 117, 110, 105, 99, 111, 100, 101, 95, 116, 111, 108, 111, 119, 101, 114, 6, 261, 5, 77, 65, 71, 73, 67, 4, 260, 0, 20230612, 6, 263, 8, 67, 79, 68, 69, 83, 73, 90, 69, 4, 262, 0, 4, 6, 265, 9, 77, 65, 88, 82, 69, 80, 69, 65, 84, 4, 264, 0, 4294967295, 6, 267, 9, 77, 65, 88, 71, 82, 79, 85, 80, 83, 4, 266, 0, 1073741823, 6, 269, 9, 99, 111, 112, 121, 114, 105, 103, 104, 116, 6, 268, 53, 32, 83, 82, 69, 32, 50, 46, 50, 46, 50, 32, 67, 111, 112, 121, 114, 105, 103, 104, 116, 32, 40, 99, 41, 32, 49, 57, 57, 55, 45, 50, 48, 48, 50, 32, 98, 121, 32, 83, 101, 99, 114, 101, 116, 32, 76, 97, 98, 115, 32, 65, 66, 32] } 0, Value.bool true, Value.bool false, vs "_sre" 271, vi 29 0, Value.str { cps := #[6, 296, 8, 95, 95, 110, 97, 109, 101, 95, 95, 6, 295, 12, 95, 99, 111, 108, 108, 101, 99, 116, 105, 111, 110, 115, 6, 297, 7, 95, 95, 100, 111, 99, 95, 95, 9, 31, 95, 99, 111, 108, 108, 101, 99, 116, 105, 111, 110, 115, 46, 95, 95, 100, 111, 99, 95, 95, 58, 115, 116, 114, 35, 111, 112, 97, 113, 117, 101, 6, 299, 11, 95, 95, 112, 97, 99, 107, 97, 103, 101, 95, 95, 6, 298, 0, 6, 300, 10, 95, 95, 108, 111, 97, 100, 101, 114, 95, 95, 4, 0, 0, 14, 6, 301, 8, 95, 95, 115, 112, 101, 99, 95, 95, 4, 0, 0, 33, 6, 302, 15, 95, 99, 111, 117, 110, 116, 95, 101, 108, 101, 109, 101, 110, 116, 115, 9, 28, 95, 99, 111, 108, 108, 101, 99, 116, 105, 111, 110, 115, 46, 95, 99, 111, 117, 110, 116, 95, 101, 108, 101, 109, 101, 110, 116, 115, 6, 303, 5, 100, 101, 113, 117, 101, 8, 17, 99, 111, 108, 108, 101, 99, 116, 105, 111, 110, 115, 46, 100, 101, 113, 117, 101, 6, 304, 11, 100, 101, 102, 97, 117, 108, 116, 100, 105, 99, 116, 8, 23, 99, 111, 108, 108, 101, 99, 116, 105, 111, 110, 115, 46, 100, 101, 102, 97, 117, 108, 116, 100, 105, 99, 116, 6, 305, 15, 95, 100, 101, 113, 117, 101, 95, 105, 116, 101, 114, 97, 116, 111, 114, 8, 27, 99, 111, 108, 108, 101, 99, 116, 105, 111, 110, 115, 46, 95, 100, 101, 113, 117, 101, 95, 105, 116, 101, 114, 97, 116, 111, 114, 6, 306, 23, 95, 100, 101, 113, 117, 101, 95, 114, 101, 118, 101, 114, 115, 101, 95, 105, 116, 101, 114, 97, 116, 111, 114, 8, 35, 99, 111, 108, 108, 101, 99, 116, 105, 111, 110, 115, 46, 95, 100, 101, 113, 117, 101, 95, 114, 101, 118, 101, 114, 115, 101, 95, 105, 116, 101, 114, 97, 116, 111, 114, 6, 307, 12, 95, 116, 117, 112, 108, 101, 103, 101, 116, 116, 101, 114, 8, 24, 99, 111, 108, 108, 101, 99, 116, 105, 111, 110, 115, 46, 95, 116, 117, 112, 108, 101, 103, 101, 116, 116, 101, 114, 6, 308, 11, 79, 114, 100, 101, 114, 101, 100, 68, 105, 99, 116, 8, 23, 99, 111, 108, 108, 101, 99, 116, 105, 111, 110, 115, 46, 79, 114, 100, 101, 114, 101, 100, 68, 105, 99, 116] } 0, Value.bool true, Value.bool false, vs "_collections" 310] 1 }) ::
(nat_lit 28, { cls := Value.type "tuple", data := Data.seq #[vs "deque" 277] }) ::
(nat_lit 29, { cls := Value.type "dict", data := Data.dict #[{ hash := kh P (so "__name__"), key := vs "__name__" 296, val := vs "_collections" 295 }, { hash := kh P (so "__doc__"), key := vs "__doc__" 297, val := Value.builtin "off-the-table:_collections.__doc__:shared#opaque" }, { hash := kh P (so "__package__"), key := vs "__package__" 299, val := vs "" 298 }, { hash := kh P (so "__loader__"), key := vs "__loader__" 300, val := Value.builtin "off-the-table:_collections.__loader__:shared#opaque" }, { hash := kh P (so "__spec__"), key := vs "__spec__" 301, val := Value.builtin "off-the-table:_collections.__spec__:shared#opaque" }, { hash := kh P (so "_count_elements"), key := vs "_count_elements" 302, val := Value.builtin "_collections._count_elements" }, { hash := kh P (so "deque"), key := vs "deque" 303, val := Value.type "collections.deque" }, { hash := kh P (so "defaultdict"), key := vs "defaultdict" 304, val := Value.type "collections.defaultdict" }, { hash := kh P (so "_deque_iterator"), key := vs "_deque_iterator" 305, val := Value.builtin "off-the-table:_collections._deque_iterator:shared#opaque" }, { hash := kh P (so "_deque_reverse_iterator"), key := vs "_deque_reverse_iterator" 306, val := Value.builtin "off-the-table:_collections._deque_reverse_iterator:shared#opaque" }, { hash := kh P (so "_tuplegetter"), key := vs "_tuplegetter" 307, val := Value.type "collections._tuplegetter" }, { hash := kh P (so "OrderedDict"), key := vs "OrderedDict" 308, val := Value.type "collections.OrderedDict" }] 12 }) ::
(nat_lit 30, { cls := Value.type "module", dict := some 29 }) ::
(nat_lit 31, { cls := Value.type "list", data := Data.seq #[] }) ::
(nat_lit 32, { cls := Value.type "dict", data := Data.dict #[{ hash := kh P (so "name"), key := vs "name" 283, val := vs "_collections" 282 }, { hash := kh P (so "loader"), key := vs "loader" 284, val := vr 14 }, { hash := kh P (so "origin"), key := vs "origin" 285, val := vs "built-in" 281 }, { hash := kh P (so "loader_state"), key := vs "loader_state" 286, val := vn }, { hash := kh P (so "submodule_search_locations"), key := vs "submodule_search_locations" 287, val := vn }, { hash := kh P (so "_uninitialized_submodules"), key := vs "_uninitialized_submodules" 288, val := vr 31 }, { hash := kh P (so "_set_fileattr"), key := vs "_set_fileattr" 289, val := Value.bool false }, { hash := kh P (so "_cached"), key := vs "_cached" 290, val := vn }, { hash := kh P (so "_initializing"), key := vs "_initializing" 291, val := Value.bool false }] 9 }) ::
(nat_lit 33, { cls := vr 22, dict := some 32 }) ::
(nat_lit 34, xt) ::
(nat_lit 35, { cls := vn, data := Data.fields #[vi 3 0, vi 0 0, vr 43, vi 8 0, vi 0 0, vr 51, vi 17 0, vi 0 0, vr 58, vi 62 0, vi 0 0, vr 105, vi 67 0, vi 0 0, vr 112, vi 74 0, vi 0 0, vr 119, vi 76 0, vi 0 0, vr 132, vi 83 0, vi 0 0, vr 154, vi 85 0, vi 0 0, vr 166, vi 87 0, vi 0 0, vr 178, vi 257 0, vi 0 0, vr 408, vi 463 0, vi 0 0, vr 655, vi 484 0, vi 0 0, vr 662, vi 489 0, vi 0 0, vr 669, vi 494 0, vi 0 0, vr 676, vi 497 0, vi 0 0, vr 683, vi 517 0, vi 0 0, vr 690, vi 526 0, vi 0 0, vr 697, vi 779 0, vi 0 0, vr 793, vi 786 0, vi 0 0, vr 800, vi 796 0, vi 0 0, vr 805, vi 803 0, vi 0 0, vr 812, vi 806 0, vi 0 0, vr 819, vi 812 0, vi 0 0, vr 826, vi 818 0, vi 0 0, vr 833, vi 828 0, vi 0 0, vr 840, vi 841 0, vi 0 0, vr 845] }) ::
(nat_lit 36, { cls := Value.type "code", data := Data.fields #[vs "<module>" 319, vs "<module>" 320, vs "/claim/cut.py" 321, vi 1 0, vi 0 0, vi 0 0, vi 0 0, vi 0 0, vr 34, Value.bool false, vi 318 0, vr 35, vn, vn, vn, vn, vi 322 0, vi 1 0, vs "/claim/cut.py" 323] }) ::
(nat_lit 37, xr 36 3 "__main__" 164) ::
(nat_lit 39, x0) ::
(nat_lit 42, xf "_wall" "_wall" [2]) ::
(nat_lit 47, x0) ::
(nat_lit 50, xf "safe_repr" "safe_repr" [5]) ::
(nat_lit 53, xt) ::
(nat_lit 54, xb "type.__prepare__" (Value.type "type")) ::
(nat_lit 55, { cls := Value.type "dict", data := Data.dict #[{ hash := kh P (so "__module__"), key := vs "__module__" 353, val := vs "cpy313.netrc" 344 }, { hash := kh P (so "__qualname__"), key := vs "__qualname__" 355, val := vs "_netrclex" 354 }, { hash := kh P (so "__firstlineno__"), key := vs "__firstlineno__" 357, val := vi 17 356 }, { hash := kh P (so "__init__"), key := vs "__init__" 365, val := vr 66 }, { hash := kh P (so "_read_char"), key := vs "_read_char" 373, val := vr 73 }, { hash := kh P (so "get_token"), key := vs "get_token" 383, val := vr 80 }, { hash := kh P (so "push_token"), key := vs "push_token" 391, val := vr 87 }, { hash := kh P (so "__static_attributes__"), key := vs "__static_attributes__" 396, val := vr 88 }] 8 }) ::
(nat_lit 56, xt) ::
(nat_lit 57, { cls := vn, data := Data.fields #[vi 19 0, vi 4 0, vr 65, vi 25 0, vi 4 0, vr 72, vi 31 0, vi 4 0, vr 79, vi 58 0, vi 4 0, vr 86] }) ::
(nat_lit 58, { cls := Value.type "code", data := Data.fields #[vs "_netrclex" 348, vs "_netrclex" 349, vs "/claim/cut.py" 350, vi 17 0, vi 0 0, vi 0 0, vi 0 0, vi 0 0, vr 56, Value.bool false, vi 318 0, vr 57, vn, vn, vn, vn, vi 351 0, vi 17 0, vs "/claim/cut.py" 352] }) ::
(nat_lit 59, xr 58 55 "cpy313.netrc" 344) ::
(nat_lit 61, x0) ::
(nat_lit 64, xf "__init__" "_netrclex.__init__" [7, 0]) ::
(nat_lit 68, x0) ::
(nat_lit 71, xf "_read_char" "_netrclex._read_char" [7, 1]) ::
(nat_lit 75, x0) ::
(nat_lit 78, xf "get_token" "_netrclex.get_token" [7, 2]) ::
(nat_lit 82, x0) ::
(nat_lit 85, xf "push_token" "_netrclex.push_token" [7, 3]) ::
(nat_lit 93, xs 90 90 90) ::
(nat_lit 94, xb "object.__init_subclass__" (vr 90)) ::
(nat_lit 95, { cls := Value.type "list", data := Data.seq #[vi 14 407, vi 17 408, vi 4 409, vi 1 410, vi 1 411, vi 21 412, vi 9 413, vi 0 414, vi 604043296 415, vi 1 416, vi 0 417, vi 0 418, vi 0 419, vi 0 420, vi 0 421, vi 8 422, vi 4 423, vi 0 424, vi 13 425, vi 14 426, vi 21 427, vi 9 428, vi 0 429, vi 604043296 430, vi 1 431, vi 0 432, vi 0 433, vi 0 434, vi 0 435, vi 0 436, vi 8 437, vi 4 438, vi 0 439, vi 1 440] }) ::
(nat_lit 96, { cls := Value.type "dict", data := Data.dict #[] }) ::
(nat_lit 97, { cls := Value.type "tuple", data := Data.seq #[vn] }) ::
(nat_lit 101, x0) ::
(nat_lit 104, xf "_whence" "_whence" [10]) ::
(nat_lit 108, x0) ::
(nat_lit 111, xf "_index" "_index" [11]) ::
(nat_lit 115, xb "type.__prepare__" (Value.type "type")) ::
(nat_lit 116, { cls := Value.type "dict", data := Data.dict #[{ hash := kh P (so "__module__"), key := vs "__module__" 469, val := vs "io" 474 }, { hash := kh P (so "__qualname__"), key := vs "__qualname__" 471, val := vs "UnsupportedOperation" 470 }, { hash := kh P (so "__firstlineno__"), key := vs "__firstlineno__" 473, val := vi 74 472 }, { hash := kh P (so "__static_attributes__"), key := vs "__static_attributes__" 476, val := vr 121 }] 4 }) ::
(nat_lit 117, xt) ::
(nat_lit 118, x0) ::
(nat_lit 119, { cls := Value.type "code", data := Data.fields #[vs "UnsupportedOperation" 464, vs "UnsupportedOperation" 465, vs "/claim/cut.py" 466, vi 74 0, vi 0 0, vi 0 0, vi 0 0, vi 0 0, vr 117, Value.bool false, vi 318 0, vr 118, vn, vn, vn, vn, vi 467 0, vi 74 0, vs "/claim/cut.py" 468] }) ::
(nat_lit 120, xr 119 116 "io" 444) ::
(nat_lit 125, xs 123 123 123) ::
(nat_lit 126, xb "object.__init_subclass__" (vr 123)) ::
(nat_lit 127, xt) ::
(nat_lit 128, xb "type.__prepare__" (Value.type "type")) ::
(nat_lit 129, { cls := Value.type "dict", data := Data.dict #[{ hash := kh P (so "__module__"), key := vs "__module__" 491, val := vs "io" 496 }, { hash := kh P (so "__qualname__"), key := vs "__qualname__" 493, val := vs "IOBase" 492 }, { hash := kh P (so "__firstlineno__"), key := vs "__firstlineno__" 495, val := vi 76 494 }, { hash := kh P (so "__new__"), key := vs "__new__" 506, val := vr 140 }, { hash := kh P (so "__static_attributes__"), key := vs "__static_attributes__" 507, val := vr 141 }] 5 }) ::
(nat_lit 130, xt) ::
(nat_lit 131, { cls := vn, data := Data.fields #[vi 79 0, vi 4 0, vr 139] }) ::
(nat_lit 132, { cls := Value.type "code", data := Data.fields #[vs "IOBase" 486, vs "IOBase" 487, vs "/claim/cut.py" 488, vi 76 0, vi 0 0, vi 0 0, vi 0 0, vi 0 0, vr 130, Value.bool false, vi 318 0, vr 131, vn, vn, vn, vn, vi 489 0, vi 76 0, vs "/claim/cut.py" 490] }) ::
(nat_lit 133, xr 132 129 "io" 444) ::
(nat_lit 135, x0) ::
(nat_lit 138, xf "__new__" "IOBase.__new__" [13, 1]) ::
(nat_lit 147, xs 143 143 143) ::
(nat_lit 148, xb "object.__init_subclass__" (vr 143)) ::
(nat_lit 150, xb "type.__prepare__" (Value.type "type")) ::
(nat_lit 151, { cls := Value.type "dict", data := Data.dict #[{ hash := kh P (so "__module__"), key := vs "__module__" 523, val := vs "io" 528 }, { hash := kh P (so "__qualname__"), key := vs "__qualname__" 525, val := vs "BufferedIOBase" 524 }, { hash := kh P (so "__firstlineno__"), key := vs "__firstlineno__" 527, val := vi 83 526 }, { hash := kh P (so "__static_attributes__"), key := vs "__static_attributes__" 530, val := vr 156 }] 4 }) ::
(nat_lit 152, xt) ::
(nat_lit 153, x0) ::
(nat_lit 154, { cls := Value.type "code", data := Data.fields #[vs "BufferedIOBase" 518, vs "BufferedIOBase" 519, vs "/claim/cut.py" 520, vi 83 0, vi 0 0, vi 0 0, vi 0 0, vi 0 0, vr 152, Value.bool false, vi 318 0, vr 153, vn, vn, vn, vn, vi 521 0, vi 83 0, vs "/claim/cut.py" 522] }) ::
(nat_lit 155, xr 154 151 "io" 444) ::
(nat_lit 159, xs 158 158 158) ::
(nat_lit 160, xb "object.__init_subclass__" (vr 158)) ::
(nat_lit 162, xb "type.__prepare__" (Value.type "type")) ::
(nat_lit 163, { cls := Value.type "dict", data := Data.dict #[{ hash := kh P (so "__module__"), key := vs "__module__" 541, val := vs "io" 546 }, { hash := kh P (so "__qualname__"), key := vs "__qualname__" 543, val := vs "TextIOBase" 542 }, { hash := kh P (so "__firstlineno__"), key := vs "__firstlineno__" 545, val := vi 85 544 }, { hash := kh P (so "__static_attributes__"), key := vs "__static_attributes__" 548, val := vr 168 }] 4 }) ::
(nat_lit 164, xt) ::
(nat_lit 165, x0) ::
(nat_lit 166, { cls := Value.type "code", data := Data.fields #[vs "TextIOBase" 536, vs "TextIOBase" 537, vs "/claim/cut.py" 538, vi 85 0, vi 0 0, vi 0 0, vi 0 0, vi 0 0, vr 164, Value.bool false, vi 318 0, vr 165, vn, vn, vn, vn, vi 539 0, vi 85 0, vs "/claim/cut.py" 540] }) ::
(nat_lit 167, xr 166 163 "io" 444) ::
(nat_lit 171, xs 170 170 170) ::
(nat_lit 172, xb "object.__init_subclass__" (vr 170)) ::
(nat_lit 174, xb "type.__prepare__" (Value.type "type")) ::
(nat_lit 175, { cls := Value.type "dict", data := Data.dict #[{ hash := kh P (so "__module__"), key := vs "__module__" 559, val := vs "_io" 564 }, { hash := kh P (so "__qualname__"), key := vs "__qualname__" 561, val := vs "BytesIO" 560 }, { hash := kh P (so "__firstlineno__"), key := vs "__firstlineno__" 563, val := vi 87 562 }, { hash := kh P (so "__init__"), key := vs "__init__" 573, val := vr 187 }, { hash := kh P (so "_BytesIO__check"), key := vs "_BytesIO__check" 580, val := vr 194 }, { hash := kh P (so "_BytesIO__line"), key := vs "_BytesIO__line" 591, val := vr 201 }, { hash := kh P (so "closed"), key := vs "closed" 599, val := vr 209 }, { hash := kh P (so "close"), key := vs "close" 606, val := vr 216 }, { hash := kh P (so "__enter__"), key := vs "__enter__" 613, val := vr 223 }, { hash := kh P (so "__exit__"), key := vs "__exit__" 621, val := vr 230 }, { hash := kh P (so "readable"), key := vs "readable" 628, val := vr 237 }, { hash := kh P (so "writable"), key := vs "writable" 635, val := vr 244 }, { hash := kh P (so "seekable"), key := vs "seekable" 642, val := vr 251 }, { hash := kh P (so "isatty"), key := vs "isatty" 649, val := vr 258 }, { hash := kh P (so "flush"), key := vs "flush" 656, val := vr 265 }, { hash := kh P (so "fileno"), key := vs "fileno" 663, val := vr 272 }, { hash := kh P (so "detach"), key := vs "detach" 670, val := vr 279 }, { hash := kh P (so "getvalue"), key := vs "getvalue" 677, val := vr 286 }, { hash := kh P (so "getbuffer"), key := vs "getbuffer" 684, val := vr 293 }, { hash := kh P (so "tell"), key := vs "tell" 691, val := vr 300 }, { hash := kh P (so "seek"), key := vs "seek" 701, val := vr 308 }, { hash := kh P (so "truncate"), key := vs "truncate" 709, val := vr 316 }, { hash := kh P (so "read"), key := vs "read" 721, val := vr 324 }, { hash := kh P (so "read1"), key := vs "read1" 731, val := vr 332 }, { hash := kh P (so "readinto"), key := vs "readinto" 741, val := vr 339 }, { hash := kh P (so "readinto1"), key := vs "readinto1" 749, val := vr 346 }, { hash := kh P (so "readline"), key := vs "readline" 759, val := vr 354 }, { hash := kh P (so "readlines"), key := vs "readlines" 767, val := vr 362 }, { hash := kh P (so "__iter__"), key := vs "__iter__" 774, val := vr 369 }, { hash := kh P (so "__next__"), key := vs "__next__" 782, val := vr 376 }, { hash := kh P (so "write"), key := vs "write" 792, val := vr 383 }, { hash := kh P (so "writelines"), key := vs "writelines" 800, val := vr 390 }, { hash := kh P (so "__repr__"), key := vs "__repr__" 807, val := vr 397 }, { hash := kh P (so "__static_attributes__"), key := vs "__static_attributes__" 810, val := vr 398 }] 34 }) ::
(nat_lit 176, xt) ::
(nat_lit 177, { cls := vn, data := Data.fields #[vi 90 0, vi 4 0, vr 186, vi 96 0, vi 4 0, vr 193, vi 100 0, vi 4 0, vr 200, vi 114 0, vi 4 0, vr 207, vi 117 0, vi 4 0, vr 215, vi 120 0, vi 4 0, vr 222, vi 124 0, vi 4 0, vr 229, vi 127 0, vi 4 0, vr 236, vi 131 0, vi 4 0, vr 243, vi 135 0, vi 4 0, vr 250, vi 139 0, vi 4 0, vr 257, vi 143 0, vi 4 0, vr 264, vi 146 0, vi 4 0, vr 271, vi 149 0, vi 4 0, vr 278, vi 152 0, vi 4 0, vr 285, vi 155 0, vi 4 0, vr 292, vi 158 0, vi 4 0, vr 299, vi 162 0, vi 4 0, vr 307, vi 179 0, vi 4 0, vr 315, vi 182 0, vi 4 0, vr 323, vi 196 0, vi 4 0, vr 331, vi 199 0, vi 4 0, vr 338, vi 213 0, vi 4 0, vr 345, vi 216 0, vi 4 0, vr 353, vi 223 0, vi 4 0, vr 361, vi 226 0, vi 4 0, vr 368, vi 229 0, vi 4 0, vr 375, vi 236 0, vi 4 0, vr 382, vi 252 0, vi 4 0, vr 389, vi 255 0, vi 4 0, vr 396] }) ::
(nat_lit 178, { cls := Value.type "code", data := Data.fields #[vs "BytesIO" 554, vs "BytesIO" 555, vs "/claim/cut.py" 556, vi 87 0, vi 0 0, vi 0 0, vi 0 0, vi 0 0, vr 176, Value.bool false, vi 318 0, vr 177, vn, vn, vn, vn, vi 557 0, vi 87 0, vs "/claim/cut.py" 558] }) ::
(nat_lit 179, xr 178 175 "io" 444) ::
(nat_lit 182, x0) ::
(nat_lit 185, xf "__init__" "BytesIO.__init__" [16, 1]) ::
(nat_lit 189, x0) ::
(nat_lit 192, xf "__check" "BytesIO.__check" [16, 2]) ::
(nat_lit 196, x0) ::
(nat_lit 199, xf "__line" "BytesIO.__line" [16, 3]) ::
(nat_lit 203, x0) ::
(nat_lit 206, xf "closed" "BytesIO.closed" [16, 4]) ::
(nat_lit 211, x0) ::
(nat_lit 214, xf "close" "BytesIO.close" [16, 5]) ::
(nat_lit 218, x0) ::
(nat_lit 221, xf "__enter__" "BytesIO.__enter__" [16, 6]) ::
(nat_lit 225, x0) ::
(nat_lit 228, xf "__exit__" "BytesIO.__exit__" [16, 7]) ::
(nat_lit 232, x0) ::
(nat_lit 235, xf "readable" "BytesIO.readable" [16, 8]) ::
(nat_lit 239, x0) ::
(nat_lit 242, xf "writable" "BytesIO.writable" [16, 9]) ::
(nat_lit 246, x0) ::
(nat_lit 249, xf "seekable" "BytesIO.seekable" [16, 10]) ::
(nat_lit 253, x0) ::
(nat_lit 256, xf "isatty" "BytesIO.isatty" [16, 11]) ::
(nat_lit 260, x0) ::
(nat_lit 263, xf "flush" "BytesIO.flush" [16, 12]) ::
(nat_lit 267, x0) ::
(nat_lit 270, xf "fileno" "BytesIO.fileno" [16, 13]) ::
(nat_lit 274, x0) ::
(nat_lit 277, xf "detach" "BytesIO.detach" [16, 14]) ::
(nat_lit 281, x0) ::
(nat_lit 284, xf "getvalue" "BytesIO.getvalue" [16, 15]) ::
(nat_lit 288, x0) ::
(nat_lit 291, xf "getbuffer" "BytesIO.getbuffer" [16, 16]) ::
(nat_lit 295, x0) ::
(nat_lit 298, xf "tell" "BytesIO.tell" [16, 17]) ::
(nat_lit 303, x0) ::
(nat_lit 306, xf "seek" "BytesIO.seek" [16, 18]) ::
(nat_lit 311, x0) ::
(nat_lit 314, xf "truncate" "BytesIO.truncate" [16, 19]) ::
(nat_lit 319, x0) ::
(nat_lit 322, xf "read" "BytesIO.read" [16, 20]) ::
(nat_lit 327, x0) ::
(nat_lit 330, xf "read1" "BytesIO.read1" [16, 21]) ::
(nat_lit 334, x0) ::
(nat_lit 337, xf "readinto" "BytesIO.readinto" [16, 22]) ::
(nat_lit 341, x0) ::
(nat_lit 344, xf "readinto1" "BytesIO.readinto1" [16, 23]) ::
(nat_lit 349, x0) ::
(nat_lit 352, xf "readline" "BytesIO.readline" [16, 24]) ::
(nat_lit 357, x0) ::
(nat_lit 360, xf "readlines" "BytesIO.readlines" [16, 25]) ::
(nat_lit 364, x0) ::
(nat_lit 367, xf "__iter__" "BytesIO.__iter__" [16, 26]) ::
(nat_lit 371, x0) ::
(nat_lit 374, xf "__next__" "BytesIO.__next__" [16, 27]) ::
(nat_lit 378, x0) ::
(nat_lit 381, xf "write" "BytesIO.write" [16, 28]) ::
(nat_lit 385, x0) ::
(nat_lit 388, xf "writelines" "BytesIO.writelines" [16, 29]) ::
(nat_lit 392, x0) ::
(nat_lit 395, xf "__repr__" "BytesIO.__repr__" [16, 30]) ::
(nat_lit 401, xs 400 400 400) ::
(nat_lit 402, xb "object.__init_subclass__" (vr 400)) ::
(nat_lit 404, xb "type.__prepare__" (Value.type "type")) ::
(nat_lit 405, { cls := Value.type "dict", data := Data.dict #[{ hash := kh P (so "__module__"), key := vs "__module__" 821, val := vs "_io" 826 }, { hash := kh P (so "__qualname__"), key := vs "__qualname__" 823, val := vs "StringIO" 822 }, { hash := kh P (so "__firstlineno__"), key := vs "__firstlineno__" 825, val := vi 257 824 }, { hash := kh P (so "__init__"), key := vs "__init__" 838, val := vr 417 }, { hash := kh P (so "_StringIO__translated"), key := vs "_StringIO__translated" 847, val := vr 424 }, { hash := kh P (so "_StringIO__check"), key := vs "_StringIO__check" 854, val := vr 431 }, { hash := kh P (so "_StringIO__check_dot"), key := vs "_StringIO__check_dot" 861, val := vr 438 }, { hash := kh P (so "_StringIO__line"), key := vs "_StringIO__line" 876, val := vr 445 }, { hash := kh P (so "closed"), key := vs "closed" 884, val := vr 453 }, { hash := kh P (so "line_buffering"), key := vs "line_buffering" 892, val := vr 461 }, { hash := kh P (so "newlines"), key := vs "newlines" 900, val := vr 469 }, { hash := kh P (so "encoding"), key := vs "encoding" 908, val := vr 477 }, { hash := kh P (so "errors"), key := vs "errors" 916, val := vr 485 }, { hash := kh P (so "close"), key := vs "close" 923, val := vr 492 }, { hash := kh P (so "__enter__"), key := vs "__enter__" 930, val := vr 499 }, { hash := kh P (so "__exit__"), key := vs "__exit__" 938, val := vr 506 }, { hash := kh P (so "readable"), key := vs "readable" 945, val := vr 513 }, { hash := kh P (so "writable"), key := vs "writable" 952, val := vr 520 }, { hash := kh P (so "seekable"), key := vs "seekable" 959, val := vr 527 }, { hash := kh P (so "isatty"), key := vs "isatty" 966, val := vr 534 }, { hash := kh P (so "flush"), key := vs "flush" 973, val := vr 541 }, { hash := kh P (so "fileno"), key := vs "fileno" 980, val := vr 548 }, { hash := kh P (so "detach"), key := vs "detach" 987, val := vr 555 }, { hash := kh P (so "getvalue"), key := vs "getvalue" 994, val := vr 562 }, { hash := kh P (so "tell"), key := vs "tell" 1001, val := vr 569 }, { hash := kh P (so "seek"), key := vs "seek" 1011, val := vr 577 }, { hash := kh P (so "truncate"), key := vs "truncate" 1019, val := vr 585 }, { hash := kh P (so "read"), key := vs "read" 1031, val := vr 593 }, { hash := kh P (so "readline"), key := vs "readline" 1041, val := vr 601 }, { hash := kh P (so "readlines"), key := vs "readlines" 1051, val := vr 609 }, { hash := kh P (so "__iter__"), key := vs "__iter__" 1058, val := vr 616 }, { hash := kh P (so "__next__"), key := vs "__next__" 1066, val := vr 623 }, { hash := kh P (so "write"), key := vs "write" 1078, val := vr 630 }, { hash := kh P (so "writelines"), key := vs "writelines" 1086, val := vr 637 }, { hash := kh P (so "__repr__"), key := vs "__repr__" 1093, val := vr 644 }, { hash := kh P (so "__static_attributes__"), key := vs "__static_attributes__" 1097, val := vr 645 }] 36 }) ::
(nat_lit 406, xt) ::
(nat_lit 407, { cls := vn, data := Data.fields #[vi 260 0, vi 4 0, vr 416, vi 273 0, vi 4 0, vr 423, vi 281 0, vi 4 0, vr 430, vi 285 0, vi 4 0, vr 437, vi 289 0, vi 4 0, vr 444, vi 322 0, vi 4 0, vr 451, vi 326 0, vi 4 0, vr 459, vi 330 0, vi 4 0, vr 467, vi 334 0, vi 4 0, vr 475, vi 338 0, vi 4 0, vr 483, vi 341 0, vi 4 0, vr 491, vi 344 0, vi 4 0, vr 498, vi 348 0, vi 4 0, vr 505, vi 351 0, vi 4 0, vr 512, vi 355 0, vi 4 0, vr 519, vi 359 0, vi 4 0, vr 526, vi 363 0, vi 4 0, vr 533, vi 367 0, vi 4 0, vr 540, vi 370 0, vi 4 0, vr 547, vi 373 0, vi 4 0, vr 554, vi 376 0, vi 4 0, vr 561, vi 379 0, vi 4 0, vr 568, vi 383 0, vi 4 0, vr 576, vi 400 0, vi 4 0, vr 584, vi 403 0, vi 4 0, vr 592, vi 417 0, vi 4 0, vr 600, vi 424 0, vi 4 0, vr 608, vi 427 0, vi 4 0, vr 615, vi 431 0, vi 4 0, vr 622, vi 438 0, vi 4 0, vr 629, vi 457 0, vi 4 0, vr 636, vi 460 0, vi 4 0, vr 643] }) ::
(nat_lit 408, { cls := Value.type "code", data := Data.fields #[vs "StringIO" 816, vs "StringIO" 817, vs "/claim/cut.py" 818, vi 257 0, vi 0 0, vi 0 0, vi 0 0, vi 0 0, vr 406, Value.bool false, vi 318 0, vr 407, vn, vn, vn, vn, vi 819 0, vi 257 0, vs "/claim/cut.py" 820] }) ::
(nat_lit 409, xr 408 405 "io" 444) ::
(nat_lit 412, x0) ::
(nat_lit 415, xf "__init__" "StringIO.__init__" [17, 1]) ::
(nat_lit 419, x0) ::
(nat_lit 422, xf "__translated" "StringIO.__translated" [17, 2]) ::
(nat_lit 426, x0) ::
(nat_lit 429, xf "__check" "StringIO.__check" [17, 3]) ::
(nat_lit 433, x0) ::
(nat_lit 436, xf "__check_dot" "StringIO.__check_dot" [17, 4]) ::
(nat_lit 440, x0) ::
(nat_lit 443, xf "__line" "StringIO.__line" [17, 5]) ::
(nat_lit 447, x0) ::
(nat_lit 450, xf "closed" "StringIO.closed" [17, 6]) ::
(nat_lit 455, x0) ::
(nat_lit 458, xf "line_buffering" "StringIO.line_buffering" [17, 7]) ::
(nat_lit 463, x0) ::
(nat_lit 466, xf "newlines" "StringIO.newlines" [17, 8]) ::
(nat_lit 471, x0) ::
(nat_lit 474, xf "encoding" "StringIO.encoding" [17, 9]) ::
(nat_lit 479, x0) ::
(nat_lit 482, xf "errors" "StringIO.errors" [17, 10]) ::
(nat_lit 487, x0) ::
(nat_lit 490, xf "close" "StringIO.close" [17, 11]) ::
(nat_lit 494, x0) ::
(nat_lit 497, xf "__enter__" "StringIO.__enter__" [17, 12]) ::
(nat_lit 501, x0) ::
(nat_lit 504, xf "__exit__" "StringIO.__exit__" [17, 13]) ::
(nat_lit 508, x0) ::
(nat_lit 511, xf "readable" "StringIO.readable" [17, 14]) ::
(nat_lit 515, x0) ::
(nat_lit 518, xf "writable" "StringIO.writable" [17, 15]) ::
(nat_lit 522, x0) ::
(nat_lit 525, xf "seekable" "StringIO.seekable" [17, 16]) ::
(nat_lit 529, x0) ::
(nat_lit 532, xf "isatty" "StringIO.isatty" [17, 17]) ::
(nat_lit 536, x0) ::
(nat_lit 539, xf "flush" "StringIO.flush" [17, 18]) ::
(nat_lit 543, x0) ::
(nat_lit 546, xf "fileno" "StringIO.fileno" [17, 19]) ::
(nat_lit 550, x0) ::
(nat_lit 553, xf "detach" "StringIO.detach" [17, 20]) ::
(nat_lit 557, x0) ::
(nat_lit 560, xf "getvalue" "StringIO.getvalue" [17, 21]) ::
(nat_lit 564, x0) ::
(nat_lit 567, xf "tell" "StringIO.tell" [17, 22]) ::
(nat_lit 572, x0) ::
(nat_lit 575, xf "seek" "StringIO.seek" [17, 23]) ::
(nat_lit 580, x0) ::
(nat_lit 583, xf "truncate" "StringIO.truncate" [17, 24]) ::
(nat_lit 588, x0) ::
(nat_lit 591, xf "read" "StringIO.read" [17, 25]) ::
(nat_lit 596, x0) ::
(nat_lit 599, xf "readline" "StringIO.readline" [17, 26]) ::
(nat_lit 604, x0) ::
(nat_lit 607, xf "readlines" "StringIO.readlines" [17, 27]) ::
(nat_lit 611, x0) ::
(nat_lit 614, xf "__iter__" "StringIO.__iter__" [17, 28]) ::
(nat_lit 618, x0) ::
(nat_lit 621, xf "__next__" "StringIO.__next__" [17, 29]) ::
(nat_lit 625, x0) ::
(nat_lit 628, xf "write" "StringIO.write" [17, 30]) ::
(nat_lit 632, x0) ::
(nat_lit 635, xf "writelines" "StringIO.writelines" [17, 31]) ::
(nat_lit 639, x0) ::
(nat_lit 642, xf "__repr__" "StringIO.__repr__" [17, 32]) ::
(nat_lit 648, xs 647 647 647) ::
(nat_lit 649, xb "object.__init_subclass__" (vr 647)) ::
(nat_lit 651, x0) ::
(nat_lit 654, xf "_kind" "_kind" [19]) ::
(nat_lit 658, x0) ::
(nat_lit 661, xf "_fspath" "_fspath" [20]) ::
(nat_lit 665, x0) ::
(nat_lit 668, xf "_check_arg_types" "_check_arg_types" [21]) ::
(nat_lit 672, x0) ::
(nat_lit 675, xf "isabs" "isabs" [22]) ::
(nat_lit 679, x0) ::
(nat_lit 682, xf "join" "join" [23]) ::
(nat_lit 686, x0) ::
(nat_lit 689, xf "dirname" "dirname" [24]) ::
(nat_lit 692, xt) ::
(nat_lit 693, xb "type.__prepare__" (Value.type "type")) ::
(nat_lit 694, { cls := Value.type "dict", data := Data.dict #[{ hash := kh P (so "__module__"), key := vs "__module__" 1168, val := vs "cpy313.shlex" 1159 }, { hash := kh P (so "__qualname__"), key := vs "__qualname__" 1170, val := vs "shlex" 1169 }, { hash := kh P (so "__firstlineno__"), key := vs "__firstlineno__" 1172, val := vi 526 1171 }, { hash := kh P (so "__init__"), key := vs "__init__" 1184, val := vr 706 }, { hash := kh P (so "punctuation_chars"), key := vs "punctuation_chars" 1192, val := vr 714 }, { hash := kh P (so "push_token"), key := vs "push_token" 1200, val := vr 721 }, { hash := kh P (so "push_source"), key := vs "push_source" 1209, val := vr 729 }, { hash := kh P (so "pop_source"), key := vs "pop_source" 1216, val := vr 736 }, { hash := kh P (so "get_token"), key := vs "get_token" 1228, val := vr 743 }, { hash := kh P (so "read_token"), key := vs "read_token" 1239, val := vr 750 }, { hash := kh P (so "sourcehook"), key := vs "sourcehook" 1247, val := vr 757 }, { hash := kh P (so "error_leader"), key := vs "error_leader" 1256, val := vr 765 }, { hash := kh P (so "__iter__"), key := vs "__iter__" 1263, val := vr 772 }, { hash := kh P (so "__next__"), key := vs "__next__" 1271, val := vr 779 }, { hash := kh P (so "__static_attributes__"), key := vs "__static_attributes__" 1292, val := vr 780 }] 15 }) ::
(nat_lit 695, xt) ::
(nat_lit 696, { cls := vn, data := Data.fields #[vi 528 0, vi 4 0, vr 705, vi 570 0, vi 4 0, vr 712, vi 573 0, vi 4 0, vr 720, vi 576 0, vi 4 0, vr 728, vi 589 0, vi 4 0, vr 735, vi 596 0, vi 4 0, vr 742, vi 623 0, vi 4 0, vr 749, vi 760 0, vi 4 0, vr 756, vi 767 0, vi 4 0, vr 764, vi 770 0, vi 4 0, vr 771, vi 773 0, vi 4 0, vr 778] }) ::
(nat_lit 697, { cls := Value.type "code", data := Data.fields #[vs "shlex" 1163, vs "shlex" 1164, vs "/claim/cut.py" 1165, vi 526 0, vi 0 0, vi 0 0, vi 0 0, vi 0 0, vr 695, Value.bool false, vi 318 0, vr 696, vn, vn, vn, vn, vi 1166 0, vi 526 0, vs "/claim/cut.py" 1167] }) ::
(nat_lit 698, xr 697 694 "cpy313.shlex" 1159) ::
(nat_lit 701, x0) ::
(nat_lit 704, xf "__init__" "shlex.__init__" [26, 0]) ::
(nat_lit 708, x0) ::
(nat_lit 711, xf "punctuation_chars" "shlex.punctuation_chars" [26, 1]) ::
(nat_lit 716, x0) ::
(nat_lit 719, xf "push_token" "shlex.push_token" [26, 2]) ::
(nat_lit 724, x0) ::
(nat_lit 727, xf "push_source" "shlex.push_source" [26, 3]) ::
(nat_lit 731, x0) ::
(nat_lit 734, xf "pop_source" "shlex.pop_source" [26, 4]) ::
(nat_lit 738, x0) ::
(nat_lit 741, xf "get_token" "shlex.get_token" [26, 5]) ::
(nat_lit 745, x0) ::
(nat_lit 748, xf "read_token" "shlex.read_token" [26, 6]) ::
(nat_lit 752, x0) ::
(nat_lit 755, xf "sourcehook" "shlex.sourcehook" [26, 7]) ::
(nat_lit 760, x0) ::
(nat_lit 763, xf "error_leader" "shlex.error_leader" [26, 8]) ::
(nat_lit 767, x0) ::
(nat_lit 770, xf "__iter__" "shlex.__iter__" [26, 9]) ::
(nat_lit 774, x0) ::
(nat_lit 777, xf "__next__" "shlex.__next__" [26, 10]) ::
(nat_lit 785, xs 782 782 782) ::
(nat_lit 786, xb "object.__init_subclass__" (vr 782)) ::
(nat_lit 789, x0) ::
(nat_lit 792, xf "quote" "quote" [28]) ::
(nat_lit 796, x0) ::
(nat_lit 799, xf "_law_stream" "_law_stream" [30]) ::
(nat_lit 803, x0) ::
(nat_lit 804, xf "_law_words" "_law_words" [31]) ::
(nat_lit 808, x0) ::
(nat_lit 811, xf "_law_escaped" "_law_escaped" [32]) ::
(nat_lit 815, x0) ::
(nat_lit 818, xf "_law_netrc" "_law_netrc" [33]) ::
(nat_lit 822, x0) ::
(nat_lit 825, xf "_law_shell" "_law_shell" [34]) ::
(nat_lit 829, x0) ::
(nat_lit 832, xf "_law_first" "_law_first" [35]) ::
(nat_lit 836, x0) ::
(nat_lit 839, xf "_law_second" "_law_second" [36]) ::
(nat_lit 843, x0) ::
(nat_lit 844, xf "law" "law" [37]) :: []
noncomputable def mg : Nat → Frag → Frag → List Obj
  | 0, _, _ => []
  | n + 1, l, r => match l with
    | [] => match r with
      | [] => []
      | b :: r => b.2 :: mg n [] r
    | a :: l' => match r with
      | [] => a.2 :: mg n l' []
      | b :: r' => match Nat.blt a.1 b.1 with
        | true => a.2 :: mg n l' r
        | false => b.2 :: mg n l r'
noncomputable def O (P : Params) : List Obj := mg 1000 (K P) (X P)
noncomputable def ev : List Obj → List Obj
  | [] => []
  | [a] => [a]
  | a :: _ :: t => a :: ev t
noncomputable def od : List Obj → List Obj
  | [] => []
  | [_] => []
  | _ :: b :: t => b :: od t
noncomputable def tr : Nat → List Obj → BT
  | 0, _ => .nil
  | n + 1, l => match l with
    | [] => .nil
    | o :: r => .node o (tr n (ev r)) (tr n (od r))
noncomputable def cutD (j : Nat) (o : Obj) : Obj := match o with
  | ⟨c, d, .dict a _, s⟩ => ⟨c, d, .dict (a.toList.take j).toArray j, s⟩
  | o => o
noncomputable def cutM (j : Nat) (n : String) (k : Nat) (o : Obj) : Obj := match o with
  | ⟨c, d, .dict a _, s⟩ => match a.toList with
    | e :: l => ⟨c, d, .dict (({ e with val := vs n k } :: l).take j).toArray j, s⟩
    | [] => ⟨c, d, .dict a j, s⟩
  | o => o
noncomputable def cutF (j : Nat) (o : Obj) : Obj := match o with
  | ⟨c, d, .fields a, s⟩ => ⟨c, d, .fields (a.toList.take j).toArray, s⟩
  | o => o
noncomputable def noSub (o : Obj) : Obj := match o with
  | ⟨c, d, .cls k, s⟩ => ⟨c, d, .cls { k with subclasses := [] }, s⟩
  | o => o
noncomputable def TB (P : Params) : BT := ((tr 10 ((O P).take 34)).set 2 (cutD 13)).set 3 (cutM 11 "__main__" 164)
noncomputable def T0 (P : Params) : BT := (((tr 10 ((O P).take 38)).set 2 (cutD 13)).set 3 (cutM 11 "__main__" 164)).set 35 (cutF 0)
noncomputable def T14 (P : Params) : BT := ((((tr 10 ((O P).take 173)).set 3 (cutM 22 "io" 444)).set 35 (cutF 27)).set 158 noSub).set 170 noSub
noncomputable def T15 (P : Params) : BT := (((tr 10 ((O P).take 403)).set 3 (cutM 23 "io" 444)).set 35 (cutF 30)).set 170 noSub
noncomputable def T16 (P : Params) : BT := ((tr 10 ((O P).take 650)).set 3 (cutM 24 "io" 444)).set 35 (cutF 33)
noncomputable def T24 (P : Params) : BT := ((tr 10 ((O P).take 692)).set 3 (cutM 30 "cpy313.shlex" 1159)).set 35 (cutF 51)
noncomputable def T36 (P : Params) : BT := tr 10 (O P)
noncomputable abbrev St (t : BT) (n k : Nat) (os : OsState) : SharedT := ⟨t, n, {}, #[], {}, k, os⟩
end Mine
end
section
open PySem PySem.W PyProof.Rows
set_option Elab.async false
set_option maxRecDepth 100000
set_option maxHeartbeats 80000000
namespace Mine
noncomputable def topGoT (tb : String → Option Builtin) (p : Program) (w : World) (n₀ : Nat) (ann : Option Value) : Nat → SharedT → Thread → Option (SharedT × Thread)
  | 0, s, t => some (s, t)
  | n + 1, s, t => match through t with
    | true => none
    | false => match stepOk n₀ ann t with
      | false => none
      | true => match stepT (denote tb) p w s t with
        | some (s', t') => topGoT tb p w n₀ ann n s' t'
        | none => none
theorem topGoT_of {tb : String → Option Builtin} {p : Program} {w : World} {n₀ : Nat} {ann : Option Value} : ∀ {n : Nat} {s s' : SharedT} {t t' : Thread}, topGoT tb p w n₀ ann n s t = some (s', t') → topGo tb p w n₀ ann n s.abs t = some (s'.abs, t')
  | 0, _, _, _, _, h => by cases h; rfl
  | n + 1, s, s', t, t', h => by
    unfold topGoT at h
    unfold topGo
    cases he : through t with
    | true => rw [he] at h; cases h
    | false =>
      rw [he] at h
      cases hk : stepOk n₀ ann t with
      | false => rw [hk] at h; cases h
      | true =>
        rw [hk] at h
        cases hs : stepT (denote tb) p w s t with
        | none => rw [hs] at h; cases h
        | some r => obtain ⟨s₂, t₂⟩ := r; rw [hs] at h; rw [stepT_spec hs]; exact topGoT_of h
noncomputable abbrev n0 : Nat := 34
noncomputable abbrev an : Option Value := some (.ref 6)
noncomputable abbrev q0 : Pos := default
noncomputable abbrev ps (a b c : Nat) : Pos := { line := a, col := 0, endLine := b, endCol := c }
noncomputable def envP (p : Program) : Env := { scope := p.main.scope, locals := mainNs, globals := mainNs, cells := [], code := .ref 36, frame := some 37 }
noncomputable def cdP (p : Program) : Code := .body (behindTheImports p) (envP p)
noncomputable def opP (p : Program) (w : World) := match impEndsT treeTable (opening p) w 3000 (St .nil 0 1 (start (opening p)).1.os) (start (opening p)).2 with
  | some b => match fenceModules? p b.abs with
    | some s => toT? s
    | none => none
  | none => none
noncomputable def thP (p : Program) : Thread := ⟨denote treeTable (cdP p), cdP p, q0, [topFrame q0]⟩
noncomputable def preP (p : Program) (w : World) (s : SharedT) := topGoT treeTable p w n0 an 12 s (topStub p)
noncomputable def pcP (p : Program) (w : World) (i j n : Nat) (s : SharedT) (q : Pos) := segRunT treeTable p w n0 an 1 n s (piecesOf (((behindTheImports p).drop i).take j) (envP p) (cdP p) q [topFrame q0])
theorem opP_id : opP = opP := rfl
theorem thP_id : thP = thP := rfl
theorem cdP_id : cdP = cdP := rfl
theorem preP_id : preP = preP := rfl
theorem pcP_id : pcP = pcP := rfl
end Mine
lay_quick Mine.opP Mine.thP Mine.preP Mine.pcP
name_quick opQ for Mine.opP by Mine.opP_id

name_quick thQ for Mine.thP by Mine.thP_id
name_quick preQ for Mine.preP by Mine.preP_id
name_quick pcQ for Mine.pcP by Mine.pcP_id
end
section
open PySem PySem.W PyProof.Rows
set_option Elab.async false
set_option maxRecDepth 100000
set_option maxHeartbeats 80000000
namespace Mine
theorem op_q (w : World) : PySem.W.Fast.opQ pw w = some (St (TB w.params) 34 318 (start (opening pw)).1.os) := by kernel_rfl
theorem pre_q (w : World) (os : OsState) : PySem.W.Fast.preQ pw w (St (TB w.params) 34 318 os) = some (St (T0 w.params) 38 324 os, PySem.W.Fast.thQ pw) := by kernel_rfl
theorem pc1_q (w : World) (os : OsState) : PySem.W.Fast.pcQ pw w 0 14 1500 (St (T0 w.params) 38 324 os) q0 = some (.next, St (T14 w.params) 173 552 os, cdP pw, ps 85 86 21) := by kernel_rfl
theorem pc2_q (w : World) (os : OsState) : PySem.W.Fast.pcQ pw w 14 1 1300 (St (T14 w.params) 173 552 os) (ps 85 86 21) = some (.next, St (T15 w.params) 403 814 os, cdP pw, ps 87 256 17) := by kernel_rfl
theorem pc3_q (w : World) (os : OsState) : PySem.W.Fast.pcQ pw w 15 1 1600 (St (T15 w.params) 403 814 os) (ps 87 256 17) = some (.next, St (T16 w.params) 650 1101 os, cdP pw, ps 257 461 17) := by kernel_rfl
theorem pc4_q (w : World) (os : OsState) : PySem.W.Fast.pcQ pw w 16 20 1200 (St (T16 w.params) 650 1101 os) (ps 257 461 17) = some (.next, St (T36 w.params) 847 1387 os, cdP pw, ps 841 844 63) := by kernel_rfl
end Mine
end
section
open PySem PySem.W PyProof.Rows
set_option Elab.async false
set_option maxRecDepth 100000
set_option maxHeartbeats 80000000
namespace Mine
noncomputable def HB (P : Params) : Heap := absHeap (TB P) 34 {}
noncomputable def HE (P : Params) : Heap := absHeap (T36 P) 847 {}
noncomputable def vix : List Nat := [0, 1, 2, 4, 7, 8, 10, 11, 12, 13, 14, 15, 16, 17, 19, 20, 21, 22, 23, 24, 26, 27, 28, 30, 31, 32, 33, 34, 35, 36, 37]
noncomputable def loose : List PySem.Str := ["safe_repr", "_twin_re_1", "UnsupportedOperation", "IOBase", "BufferedIOBase", "TextIOBase", "BytesIO", "StringIO", "shlex", "_find_unsafe"]
noncomputable abbrev XtP (p : Program) : Shared → Bool := fun s => xlAt (view p vix) [] s && recOk [] s
noncomputable def lkP (p : Program) (H0 H1 : Heap) : Bool := staticsOk (importedModules p.main.body) H0 H1 && namesBound p H1 && laidKept H0 H1
noncomputable def seP (p : Program) (H1 : Heap) (os : OsState) := openSeen (view p vix) loose (importedModules p.main.body) (XtP p) true ⟨H1, #[], {}, 1387, os⟩
noncomputable def gdP (p : Program) := openGood (view p vix) loose
theorem lkP_id : lkP = lkP := rfl
theorem seP_id : seP = seP := rfl
theorem gdP_id : gdP = gdP := rfl
end Mine
lay_quick Mine.lkP Mine.seP Mine.gdP
name_quick lkQ for Mine.lkP by Mine.lkP_id
name_quick seQ for Mine.seP by Mine.seP_id
name_quick gdQ for Mine.gdP by Mine.gdP_id
end
section
open PySem PySem.W PyProof.Rows
set_option Elab.async false
set_option maxRecDepth 100000
set_option maxHeartbeats 80000000
namespace Mine
noncomputable def getA (t : BT) (a : Nat) : Option Obj := match t.get a with
  | some o => alive o
  | none => none
theorem rules_HL2_n : True := by
  w_top off
  k_with_none
  trivial
theorem map_get {t : BT} {n : Nat} : ∀ {l : List Nat} {r : List Obj}, l.all (fun a => Nat.blt a n) = true → l.map (getA t) = r.map some → l.map (absHeap t n {}).get? = r.map some
  | [], [], _, _ => rfl
  | a :: l, [], _, h => by cases h
  | [], o :: r, _, h => by cases h
  | a :: l, o :: r, hn, h => by
    rw [List.all_cons, Bool.and_eq_true] at hn
    rw [List.map_cons, List.map_cons] at h ⊢
    injection h with h1 h2
    have lt : a < n := Nat.le_of_ble_eq_true hn.1
    refine congr (congrArg _ ?_) (map_get hn.2 h2)
    unfold getA at h1
    cases g : t.get a with
    | none => rw [g] at h1; cases h1
    | some o' => rw [g] at h1; exact (abs_get lt g).trans h1
theorem get_q0 (w : World) : as.map (getA (T36 w.params)) = ((K w.params).map Prod.snd).map some := by kernel_rfl
theorem get_q (w : World) : as.map (HE w.params).get? = (K w.params).map fun p => some p.2 := by
  have h := map_get (t := T36 w.params) (n := 847) (l := as) (r := (K w.params).map Prod.snd) (by decide +kernel) (get_q0 w)
  exact h.trans (List.map_map (l := K w.params) (f := Prod.snd) (g := some))
theorem lk_q (w : World) : PySem.W.Fast.lkQ pw (HB w.params) (HE w.params) = true := by kernel_rfl
theorem se_q (w : World) (os : OsState) : PySem.W.Fast.seQ pw (HE w.params) os = PySem.W.Fast.gdQ pw := by kernel_rfl
end Mine
end
section
open PySem PySem.W PyProof.Rows
set_option Elab.async false
set_option maxRecDepth 100000
set_option maxHeartbeats 80000000
namespace Mine
theorem rules_HC_n : True := by
  w_top off
  k_with_none
  trivial
theorem op_of {p : Program} {w : World} {a : SharedT} {N : Nat} (h : opP p w = some a) (le : Nat.ble 3000 N = true) : (fencedOpening treeTable p w N).map (fun s => (s.heap, s.gens, s.drawn, s.toks)) = some (absHeap a.tree a.n a.life, a.gens, a.drawn, a.toks) := by
  unfold opP at h
  split at h
  · rename_i b hb
    split at h
    · rename_i s hs
      have e := toT_abs h
      have m := impEndsT_of hb
      have m2 := importEnds_mono (N - 3000) _ _ _ _ m
      rw [show 3000 + (N - 3000) = N by have := Nat.le_of_ble_eq_true le; omega] at m2
      have m3 : importEnds treeTable (opening p) w N (start (opening p)).1 (start (opening p)).2 = some b.abs := m2
      unfold fencedOpening
      rw [m3]
      show (fenceModules? p b.abs).map _ = _
      rw [hs, ← e]
      rfl
    · cases h
  · cases h
theorem open_w (w : World) : (fencedOpening treeTable pw w 11048).map (fun s => (s.heap, s.gens, s.drawn, s.toks)) = some (HB w.params, #[], {}, 318) :=
  op_of ((congrFun (congrFun PySem.W.Fast.opQ_eq pw) w).trans (op_q w)) (Nat.ble_eq_true_of_le (by decide))
theorem pc_of {w : World} {i j n : Nat} {s s' : SharedT} {q q' : Pos} (h : PySem.W.Fast.pcQ pw w i j n s q = some (.next, s', cdP pw, q')) :
    segRun treeTable pw w n0 an 1 n s.abs (piecesOf (((behindTheImports pw).drop i).take j) (envP pw) (cdP pw) q [topFrame q0]) = some (.next, s'.abs, cdP pw, q') :=
  segRun_of ((congrFun (congrFun (congrFun (congrFun (congrFun (congrFun (congrFun PySem.W.Fast.pcQ_eq pw) w) i) j) n) s) q).trans h)
theorem pre_w (w : World) (os : OsState) : topGo treeTable pw w n0 an 12 (St (TB w.params) 34 318 os).abs (topStub pw) = some ((St (T0 w.params) 38 324 os).abs, thP pw) :=
  topGoT_of (((congrFun (congrFun (congrFun PySem.W.Fast.preQ_eq pw) w) _).trans (pre_q w os)).trans (congrArg (fun t => some (St (T0 w.params) 38 324 os, t)) (congrFun PySem.W.Fast.thQ_eq pw).symm))
theorem cut_app {α : Type} (l : List α) (i j : Nat) : (l.drop i).take j ++ l.drop (i + j) = l.drop i := by
  rw [← List.drop_drop]; exact List.take_append_drop _ _
theorem run_w (w : World) (os : OsState) : topRun treeTable pw w n0 an (12 + (1 + (1500 + (1300 + (1600 + (1200 + 2)))))) ⟨HB w.params, #[], {}, 318, os⟩ (topStub pw) = some ⟨HE w.params, #[], {}, 1387, os⟩ := by
  refine go_top (pre_w w os) ?_
  refine piece_block (s' := (St (T0 w.params) 38 324 os).abs) (p' := q0) rfl ?_
  rw [show behindTheImports pw = (behindTheImports pw).drop 0 from rfl, ← cut_app _ 0 14]
  refine piece_app (pc_of (pc1_q w os)) ?_
  rw [← cut_app _ (0 + 14) 1]
  refine piece_app (pc_of (pc2_q w os)) ?_
  rw [← cut_app _ (0 + 14 + 1) 1]
  refine piece_app (pc_of (pc3_q w os)) ?_
  rw [← cut_app _ (0 + 14 + 1 + 1) 20]
  refine piece_app (pc_of (pc4_q w os)) ?_
  rw [show (behindTheImports pw).drop (0 + 14 + 1 + 1 + 20) = [] from rfl]
  refine piece_nil ?_
  rfl
noncomputable def qv : Program := view pw vix
noncomputable abbrev Xt : Shared → Bool := fun s => xlAt qv [] s && recOk PySem.Challenge.rw_in0140_01.row.records s
theorem size_w (w : World) : ((HB w.params).isNs mainGlobals && (#[] : Array GenState).size == 0, (HB w.params).objs.size, (HB w.params).nsMap mainGlobals "__annotations__") = (true, n0, an) := by kernel_rfl
theorem left0 : LeftO pw (view pw vix) loose (XtP pw) (fun s => as.map s.heap.get?) (fun w => (K w.params).map fun p => some p.2) 11048 :=
  LeftO.of_pieces open_w size_w run_w (Nat.ble_eq_true_of_le (by decide)) (fun w => funext fun os => by
    have h1 := (congrFun (congrFun (congrFun PySem.W.Fast.lkQ_eq pw) (HB w.params)) (HE w.params)).trans (lk_q w)
    have h2 := ((congrFun (congrFun (congrFun PySem.W.Fast.seQ_eq pw) (HE w.params)) os).trans (se_q w os)).trans (congrFun PySem.W.Fast.gdQ_eq pw).symm
    unfold lkP at h1
    rw [Bool.and_eq_true, Bool.and_eq_true] at h1
    refine Prod.ext ?_ (Prod.ext h2 (get_q w))
    show (_ && _ && gensDone _ && _) = true
    rw [h1.1.1, h1.1.2, h1.2]
    rfl)
theorem left : LeftO pw qv loose Xt (fun s => as.map s.heap.get?) (fun w => (K w.params).map fun p => some p.2) 11048 := left0
end Mine
end
section
open PySem PySem.W PyProof.Rows
set_option Elab.async false
set_option maxRecDepth 100000
set_option maxHeartbeats 80000000
namespace Mine
noncomputable def lw (p : Program) : OpenLaw := { prog := p, name := (PySem.Str.ofString "law"), about := [(PySem.Str.ofString "safe_repr")], foot := 8, most := some 63, bound := none, writes := false }
noncomputable def wrd (p : Program) (n : Str) : Bool := readsOut p p.main.body n
noncomputable def we1 (p : Program) : Bool := decide (8 ≤ (behindTheImports p).length)
noncomputable def wez (p : Program) : Bool := (["type", "isinstance", "issubclass", "getattr", "hasattr"] : List Str).all (fun n => (lw p).about != [n])
theorem wrd_id : wrd = wrd := rfl
noncomputable def wc1 (p : Program) : Bool := sreFenced p.main
theorem wc1_id : wc1 = wc1 := rfl
noncomputable def wc2 (p : Program) : Bool := ((moduleNames p.main.body).isEmpty || lookedIntoSs (moduleNames p.main.body) p.main.body)
theorem wc2_id : wc2 = wc2 := rfl
noncomputable def wc3 (p : Program) : Bool := namesResolve p
theorem wc3_id : wc3 = wc3 := rfl
noncomputable def wc4 (p : Program) : Bool := p.boundNames.all (fun n => !worldNames.contains n)
theorem wc4_id : wc4 = wc4 := rfl
noncomputable def wg2 (p : Program) : Bool := (importedModules p.main.body).all cThrough.contains
theorem wg2_id : wg2 = wg2 := rfl
noncomputable def wc5 (p : Program) : Bool := noRoadLSs { strict := false, foot := none, bare := [] } p.main.body
theorem wc5_id : wc5 = wc5 := rfl
noncomputable def wc6 (p : Program) : Bool := namesMeet p p.main.body fun _ n => attrL n
theorem wc6_id : wc6 = wc6 := rfl
noncomputable def wd2 (p : Program) : Bool := ((lw p).row.raises.all fun ct => match ct.1 with | .builtin n => !(lw p).row.prog.boundNames.contains (Str.ofString n) && !ofTheWorld.contains n | .own _ => true)
theorem wd2_id : wd2 = wd2 := rfl
noncomputable def wd3 (p : Program) : Bool := (lw p).row.toRowW.solid
theorem wd3_id : wd3 = wd3 := rfl
noncomputable def wd4 (p : Program) : Bool := (lw p).row.pre.litsOk
theorem wd4_id : wd4 = wd4 := rfl
noncomputable def wd5 (p : Program) : Bool := (lw p).row.prog.boundNames.contains (lw p).row.name
theorem wd5_id : wd5 = wd5 := rfl
noncomputable def wd6 (p : Program) : Bool := !startupNames.contains (lw p).row.name
theorem wd6_id : wd6 = wd6 := rfl
noncomputable def we2 (p : Program) : Bool := (lw p).footing.all footLine
theorem we2_id : we2 = we2 := rfl
noncomputable def we3 (p : Program) : Bool := noClassBlock p (lw p).footing
theorem we3_id : we3 = we3 := rfl
noncomputable def we4 (p : Program) : Bool := noRoadLSs { strict := true, foot := some (lw p).bound', writes := (lw p).writes, may := (lw p).may } (lw p).footing
theorem we4_id : we4 = we4 := rfl
noncomputable def we5 (p : Program) : Bool := defStands (lw p).about (lw p).above
theorem we5_id : we5 = we5 := rfl
noncomputable def we6 (p : Program) : Bool := (lw p).namesIt
theorem we6_id : we6 = we6 := rfl
noncomputable def we7 (p : Program) : Bool := (lw p).bound'.all (fun n => !builtinNamed n || (lw p).about == [n] || !(lw p).reads n)
theorem we7_id : we7 = we7 := rfl
noncomputable def we8 (p : Program) : Bool := (p.main.body.flatMap importedNames).all (fun n => !(lw p).reads n || (drawsOf n p.main.body).all fun mn => mn.2 != ("attrgetter" : Str) && mn.2 != ("methodcaller" : Str))
theorem we8_id : we8 = we8 := rfl
noncomputable def we9 (p : Program) : Bool := namesMeet p (lw p).footing (fun sc n => (!(["type", "isinstance", "issubclass", "getattr", "hasattr"] : List Str).contains n || sc.names.lookup n == some .globalImplicit) && ((lw p).may != some n || sc.kind == .module || sc.names.lookup n == some .globalImplicit))
theorem we9_id : we9 = we9 := rfl
noncomputable def wf0 (p : Program) : Bool := (lw p).own.contains (lw p).name
theorem wf0_id : wf0 = wf0 := rfl
noncomputable def wf1 (p : Program) : Bool := (lw p).own.eraseDups.length == (lw p).own.length
theorem wf1_id : wf1 = wf1 := rfl
noncomputable def wf4 (p : Program) : Bool := (lw p).own.all (fun n => !builtinNamed n)
theorem wf4_id : wf4 = wf4 := rfl
noncomputable def wf2 (p : Program) : Bool := namesMeet p (lw p).above (fun _ n => !(lw p).own.contains n)
theorem wf2_id : wf2 = wf2 := rfl
noncomputable def wf3 (p : Program) : Bool := namesMeet p (lw p).footing fun sc n => sc.kind == .module || sc.names.lookup n != some .globalExplicit
theorem wf3_id : wf3 = wf3 := rfl
end Mine
lay_quick Mine.wrd Mine.wc1 Mine.wc2 Mine.wc3 Mine.wc4 Mine.wg2 Mine.wc5 Mine.wc6 Mine.wd2 Mine.wd3 Mine.wd4 Mine.wd5 Mine.wd6 Mine.we2 Mine.we3 Mine.we4 Mine.we5 Mine.we6 Mine.we7 Mine.we8 Mine.we9 Mine.wf0 Mine.wf1 Mine.wf4 Mine.wf2 Mine.wf3
name_quick wrdQ for Mine.wrd by Mine.wrd_id
name_quick wc1Q for Mine.wc1 by Mine.wc1_id
name_quick wc2Q for Mine.wc2 by Mine.wc2_id
name_quick wc3Q for Mine.wc3 by Mine.wc3_id
name_quick wc4Q for Mine.wc4 by Mine.wc4_id
name_quick wg2Q for Mine.wg2 by Mine.wg2_id
name_quick wc5Q for Mine.wc5 by Mine.wc5_id
name_quick wc6Q for Mine.wc6 by Mine.wc6_id
name_quick wd2Q for Mine.wd2 by Mine.wd2_id
name_quick wd3Q for Mine.wd3 by Mine.wd3_id
name_quick wd4Q for Mine.wd4 by Mine.wd4_id
name_quick wd5Q for Mine.wd5 by Mine.wd5_id
name_quick wd6Q for Mine.wd6 by Mine.wd6_id
name_quick we2Q for Mine.we2 by Mine.we2_id
name_quick we3Q for Mine.we3 by Mine.we3_id
name_quick we4Q for Mine.we4 by Mine.we4_id
name_quick we5Q for Mine.we5 by Mine.we5_id
name_quick we6Q for Mine.we6 by Mine.we6_id
name_quick we7Q for Mine.we7 by Mine.we7_id
name_quick we8Q for Mine.we8 by Mine.we8_id
name_quick we9Q for Mine.we9 by Mine.we9_id
name_quick wf0Q for Mine.wf0 by Mine.wf0_id
name_quick wf1Q for Mine.wf1 by Mine.wf1_id
name_quick wf4Q for Mine.wf4 by Mine.wf4_id
name_quick wf2Q for Mine.wf2 by Mine.wf2_id
name_quick wf3Q for Mine.wf3 by Mine.wf3_id
namespace Mine
theorem wc1_q : wc1 pw = true := (congrFun PySem.W.Fast.wc1Q_eq pw).trans (by kernel_rfl)
theorem wc2_q : wc2 pw = true := (congrFun PySem.W.Fast.wc2Q_eq pw).trans (by kernel_rfl)
theorem wc3_q : wc3 pw = true := (congrFun PySem.W.Fast.wc3Q_eq pw).trans (by kernel_rfl)
theorem wc4_q : wc4 pw = true := (congrFun PySem.W.Fast.wc4Q_eq pw).trans (by kernel_rfl)
theorem wg2_q : wg2 pw = true := (congrFun PySem.W.Fast.wg2Q_eq pw).trans (by kernel_rfl)
theorem wc5_q : wc5 pw = true := (congrFun PySem.W.Fast.wc5Q_eq pw).trans (by kernel_rfl)
theorem wc6_q : wc6 pw = true := (congrFun PySem.W.Fast.wc6Q_eq pw).trans (by kernel_rfl)
theorem wd2_q : wd2 pw = true := (congrFun PySem.W.Fast.wd2Q_eq pw).trans (by kernel_rfl)
theorem wd3_q : wd3 pw = true := (congrFun PySem.W.Fast.wd3Q_eq pw).trans (by kernel_rfl)
theorem wd4_q : wd4 pw = true := (congrFun PySem.W.Fast.wd4Q_eq pw).trans (by kernel_rfl)
theorem wd5_q : wd5 pw = true := (congrFun PySem.W.Fast.wd5Q_eq pw).trans (by kernel_rfl)
theorem wd6_q : wd6 pw = true := (congrFun PySem.W.Fast.wd6Q_eq pw).trans (by kernel_rfl)
theorem we2_q : we2 pw = true := (congrFun PySem.W.Fast.we2Q_eq pw).trans (by kernel_rfl)
theorem we3_q : we3 pw = true := (congrFun PySem.W.Fast.we3Q_eq pw).trans (by kernel_rfl)
theorem we4_q : we4 pw = true := (congrFun PySem.W.Fast.we4Q_eq pw).trans (by kernel_rfl)
theorem we5_q : we5 pw = true := (congrFun PySem.W.Fast.we5Q_eq pw).trans (by kernel_rfl)
theorem we6_q : we6 pw = true := (congrFun PySem.W.Fast.we6Q_eq pw).trans (by kernel_rfl)
theorem we7_q : we7 pw = true := (congrFun PySem.W.Fast.we7Q_eq pw).trans (by kernel_rfl)
theorem we8_q : we8 pw = true := (congrFun PySem.W.Fast.we8Q_eq pw).trans (by kernel_rfl)
theorem we9_q : we9 pw = true := (congrFun PySem.W.Fast.we9Q_eq pw).trans (by kernel_rfl)
theorem wf0_q : wf0 pw = true := (congrFun PySem.W.Fast.wf0Q_eq pw).trans (by kernel_rfl)
theorem wf1_q : wf1 pw = true := (congrFun PySem.W.Fast.wf1Q_eq pw).trans (by kernel_rfl)
theorem wf4_q : wf4 pw = true := (congrFun PySem.W.Fast.wf4Q_eq pw).trans (by kernel_rfl)
theorem wf2_q : wf2 pw = true := (congrFun PySem.W.Fast.wf2Q_eq pw).trans (by kernel_rfl)
theorem wf3_q : wf3 pw = true := (congrFun PySem.W.Fast.wf3Q_eq pw).trans (by kernel_rfl)
theorem wrd_q0 : wrd pw (PySem.Str.ofString "vars") = false := (congrFun (congrFun PySem.W.Fast.wrdQ_eq pw) _).trans (by kernel_rfl)
theorem wrd_q1 : wrd pw (PySem.Str.ofString "dir") = false := (congrFun (congrFun PySem.W.Fast.wrdQ_eq pw) _).trans (by kernel_rfl)
theorem wrd_q2 : wrd pw (PySem.Str.ofString "locals") = false := (congrFun (congrFun PySem.W.Fast.wrdQ_eq pw) _).trans (by kernel_rfl)
theorem wg1_ok : (["vars", "dir", "locals"] : List Str).filter (readsOut pw pw.main.body) = [] := by
  have h0 : readsOut pw pw.main.body (PySem.Str.ofString "vars") = false := wrd_q0
  have h1 : readsOut pw pw.main.body (PySem.Str.ofString "dir") = false := wrd_q1
  have h2 : readsOut pw pw.main.body (PySem.Str.ofString "locals") = false := wrd_q2
  rw [List.filter_cons_of_neg (by rw [h0]; decide), List.filter_cons_of_neg (by rw [h1]; decide), List.filter_cons_of_neg (by rw [h2]; decide), List.filter_nil]
theorem looks_of {p : Program} (h1 : wc1 p = true) (h2 : wc2 p = true) (h3 : wc3 p = true) (h4 : wc4 p = true) (h5 : wc5 p = true) (h6 : wc6 p = true) (g1 : (["vars", "dir", "locals"] : List Str).filter (readsOut p p.main.body) = []) (g2 : wg2 p = true) : looksOpen p = true := by
  have e : looksOpen p = (wc1 p && wc2 p && wc3 p && wc4 p && noRoadLSs { strict := !wg2 p, foot := none, bare := (["vars", "dir", "locals"] : List Str).filter (readsOut p p.main.body) } p.main.body && wc6 p) := rfl
  rw [e, g1, g2, h1, h2, h3, h4, h6]
  have e2 : noRoadLSs { strict := !true, foot := none, bare := [] } p.main.body = wc5 p := rfl
  rw [e2, h5]
  rfl
theorem part_of {p : Program} (h : looksOpen p = true) (h2 : wd2 p = true) (h3 : wd3 p = true) (h4 : wd4 p = true) : (lw p).row.partSaid = true := by
  have e : (lw p).row.partSaid = (looksOpen p && true && true && true && wd2 p && true && true && wd3 p && wd4 p && true && true && true && true && true) := rfl
  rw [e, h, h2, h3, h4]
  rfl
theorem said_of {p : Program} (h : (lw p).row.partSaid = true) (h1 : wd5 p = true) (h2 : wd6 p = true) (k1 : we1 p = true) (k2 : we2 p = true) (k3 : we3 p = true) (k4 : we4 p = true) (k5 : we5 p = true) (k6 : we6 p = true) (k7 : we7 p = true) (k8 : we8 p = true) (k9 : we9 p = true)
    (l0 : wf0 p = true) (l1 : wf1 p = true) (l4 : wf4 p = true) (l2 : wf2 p = true) (l3 : wf3 p = true) : (lw p).wellSaid = true := by
  have e : (lw p).wellSaid = ((lw p).row.partSaid && wd5 p && wd6 p && we1 p && we2 p && we3 p && true && true && we4 p && we5 p && we6 p && wez p && we7 p && true && we8 p && we9 p && wf0 p && wf1 p && wf4 p && wf2 p && wf3 p) := rfl
  have z : wez p = true := by kernel_rfl
  rw [e, h, h1, h2, k1, k2, k3, k4, k5, k6, z, k7, k8, k9, l0, l1, l4, l2, l3]
  rfl
theorem we1_q : we1 pw = true := by kernel_rfl
theorem wsq_ok : OpenLaw.wellSaid PySem.Challenge.rw_in0140_01 = true :=
  said_of (p := pw) (part_of (looks_of wc1_q wc2_q wc3_q wc4_q wc5_q wc6_q wg1_ok wg2_q) wd2_q wd3_q wd4_q) wd5_q wd6_q we1_q we2_q we3_q we4_q we5_q we6_q we7_q we8_q we9_q wf0_q wf1_q wf4_q wf2_q wf3_q
end Mine
end
section
open PySem PySem.W PyProof.Rows
set_option Elab.async false
set_option maxRecDepth 100000
set_option maxHeartbeats 80000000
namespace Mine
theorem hd {d : DefRec} (hd : defOf qv (Str.ofString "law") = some (d, [])) (hp : pw.theDef (Str.ofString "law") = some (d.params, d.body, d.scope)) (hk : kwWritten? d.params.kwonlyargs d.params.kw_defaults = some [])
   (hc : WalkO qv loose (XL qv []) (Hook.says (kHook K as (fun _ => by kernel_rfl))) PySem.Challenge.rw_in0140_01.row.toRowW d [] fun f vs => PySem.call f vs) : PySem.Challenge.rw_in0140_01.Holds := by
  w_on
  refine holds_law wsq_ok (fun said => ?_)
  refine holds_open (q := qv) (loose := loose) (Xt := Xt) (XP := XL qv []) (Yf := Hook.obs (kHook K as (fun _ => by kernel_rfl))) (Ya := Hook.val (kHook K as (fun _ => by kernel_rfl))) (YP := Hook.says (kHook K as (fun _ => by kernel_rfl))) (N := 11048) ?hl (Hook.of (kHook K as (fun _ => by kernel_rfl))) (Hook.keeps (kHook K as (fun _ => by kernel_rfl))) (fun s e => xl_of s (Bool.and_eq_true_iff.mp e).1) XL.keeps hd hp hk (fun s e => recFacts_of (Bool.and_eq_true_iff.mp e).2) (by rfl) (by first | assumption | decide +kernel) (by decide +kernel) ⟨rfl, rfl, rfl, rfl, rfl, by decide +kernel⟩ ?hw ?hc
  case hl => exact left
  case hw => w_witness2
  case hc => exact hc
end Mine
end
section
open PySem PySem.W PyProof.Rows PySem.Calls PySem.Spec PyProof
namespace Mine
noncomputable abbrev arnd (dp un : Nat) (gd : Option (List Code)) (env : Env) (outer : List Env) : Around := { handled := none, depth := dp, frames := some (env :: outer), guards := gd, units := un }
end Mine
end
section
open PySem PySem.W PyProof.Rows PySem.Calls PySem.Spec PyProof
set_option maxRecDepth 100000
namespace Mine
inductive Pick (p : Addr × Obj) : List (Addr × Obj) → List (Addr × Obj) → Prop
  | head {r} : Pick p (p :: r) r
  | tail {q r r'} : Pick p r r' → Pick p (q :: r) (q :: r')
theorem Pick.mem {p : Addr × Obj} {l r : List (Addr × Obj)} (h : Pick p l r) : ∀ q, q ∈ p :: r → q ∈ l := by
  induction h with
  | head => exact fun q hq => hq
  | tail _ ih =>
    intro q hq
    rcases List.mem_cons.mp hq with rfl | hq
    · exact .tail _ (ih _ (.head _))
    · rcases List.mem_cons.mp hq with rfl | hq
      · exact .head _
      · exact .tail _ (ih _ (.tail _ hq))
theorem Pick.news {p : Addr × Obj} {l r : List (Addr × Obj)} {h₀ h : Heap} {L : Addr} (P : Pick p l r) (N : News h₀ L h l) : News h₀ L h (p :: r) := fun q hq => N q (P.mem q hq)
theorem Pick.news2 {p q : Addr × Obj} {l r r' : List (Addr × Obj)} {h₀ h : Heap} {L : Addr} (P : Pick p l r) (P' : Pick q r r') (N : News h₀ L h l) : News h₀ L h (p :: q :: r') := fun z hz => by
  rcases List.mem_cons.mp hz with rfl | hz
  · exact N _ (P.mem _ (.head _))
  · exact N _ (P.mem _ (.tail _ (P'.mem _ hz)))
theorem slice_one {S : Str} {n : Nat} {c : Nat} {p q : Int} (hc : S.cps[n]? = some c) (hp : p = n) (hq : q = (n : Int) + 1) : Txt.slice S (some p) (some q) = ⟨#[c]⟩ := by
  subst hp hq
  have hl : n < S.cps.size := (Array.getElem?_eq_some_iff.mp hc).1
  have h := eq_of_beq (slice_closes (x := S) (i := n) (j := (n : Int) + 1) ⟨by omega, by omega, by simp; omega⟩)
  rw [h]
  have e : ((n : Int) + 1 - n).toNat = 1 := by omega
  rw [e]
  have e2 : (S.cps.toList.drop ((n : Int)).toNat).take 1 = [c] := by
    have : ((n : Int)).toNat = n := by omega
    rw [this]
    have hn : S.cps.toList[n]? = some c := by simpa using hc
    obtain ⟨hlt, hx⟩ := List.getElem?_eq_some_iff.mp hn
    rw [List.drop_eq_getElem_cons hlt, hx]; rfl
  rw [e2]
theorem slice_cut {A B : Str} (hB : B.length = 1) : Txt.slice (A ++ B) none (some (-1)) = A := by
  have hlen : (A ++ B).length = A.length + 1 := by
    show (A.cps ++ B.cps).size = _
    rw [Array.size_append]
    have : B.cps.size = 1 := hB
    rw [this]; rfl
  have h := eq_of_beq (slice_closes_to_neg (x := A ++ B) (j := -1) (k := (A.length : Int)) (by omega) (by rw [hlen]; omega) (by rw [hlen]; omega))
  rw [h]
  obtain ⟨a⟩ := A
  obtain ⟨b⟩ := B
  show Str.mk _ = _
  congr 1
  apply Array.ext'
  show List.take _ (List.drop _ (a ++ b).toList) = a.toList
  have e1 : ((0 : Int)).toNat = 0 := rfl
  simp only [Array.toList_append, e1, List.drop_zero]
  have e2 : (((Str.mk a).length : Int) - 0).toNat = a.toList.length := by
    show ((a.size : Int) - 0).toNat = _
    simp
  rw [e2, List.take_left]
theorem news_tl2 {h₀ h : Heap} {L : Addr} {a b : Addr × Obj} {r : List (Addr × Obj)} (N : News h₀ L h (a :: b :: r)) : News h₀ L h (a :: r) := fun q hq => by
  rcases List.mem_cons.mp hq with rfl | hq
  · exact N _ (.head _)
  · exact N _ (.tail _ (.tail _ hq))
theorem allLt_all {d : Addr} : ∀ {l : List (Addr × Obj)}, AllLt d l → ∀ q ∈ l, q.1 < d
  | [], _ => by intro q hq; cases hq
  | p :: l, h => by
    intro q hq
    rcases List.mem_cons.mp hq with e | hq
    · rw [e]; exact h.1
    · exact allLt_all h.2 q hq
end Mine
end
section
open PySem PySem.W PyProof.Rows PySem.Calls PySem.Spec PyProof
set_option maxRecDepth 100000
namespace Mine
noncomputable abbrev tx (l : List Nat) : Str := ⟨l.toArray⟩
theorem tx_len (l : List Nat) : (tx l).length = l.length := by simp [Str.length]
noncomputable def okc (c : Nat) : Bool := [97, 39, 34, 92, 32, 10, 98, 35, 9, 105, 116, 115].contains c
noncomputable def okw (w : List Nat) : Prop := (∀ c ∈ w, okc c = true) ∧ w.length ≤ 6
noncomputable def escc (q c : Nat) : List Nat := if c = q ∨ c = 92 then [92, c] else if c = 10 then [92, 110] else if c = 9 then [92, 116] else [c]
noncomputable def repQ (w : List Nat) : Nat := if w.contains 39 && !w.contains 34 then 34 else 39
noncomputable def repL (w : List Nat) : List Nat := repQ w :: (w.flatMap (escc (repQ w)) ++ [repQ w])
noncomputable def let4 (c : Nat) : Bool := [97, 98, 105, 116, 115].contains c
noncomputable def quoC (c : Nat) : List Nat := if c = 39 then [39, 34, 39, 34, 39] else [c]
noncomputable def quoL (w : List Nat) : List Nat := if w = [] then [39, 39] else if w.all let4 then w else 39 :: (w.flatMap quoC ++ [39])
noncomputable def netC (c : Nat) : Nat := if c = 10 then 110 else if c = 9 then 116 else c
noncomputable def netL (w : List Nat) (b : Bool) : List Nat × Bool :=
  if b && w.contains 39 && !w.contains 34 then (w.map netC, true)
  else if !b && !w.isEmpty && w.all (fun c => c == 97 || c == 98) then (w, true)
  else ([39], false)
noncomputable def esdC (d : Bool) (c : Nat) : List Nat := if c = 92 then (if d then [92, 92] else [92]) else if c = 10 then [92, 110] else if c = 9 then [92, 116] else [c]
noncomputable def escL (w : List Nat) (d : Bool) : List Nat := w.flatMap (esdC d)
noncomputable def sheL (w : List Nat) (b : Bool) : List Nat × Bool :=
  if !b then (w, true)
  else if w.contains 39 && w.contains 34 then (escL (w.takeWhile (· != 39)) true ++ [92], false)
  else (escL w (!w.contains 39), true)
noncomputable def encL (p : List Nat × Bool) : List Nat := if p.2 then repL p.1 else quoL p.1

theorem okc_cases {c : Nat} (h : okc c = true) : c = 97 ∨ c = 39 ∨ c = 34 ∨ c = 92 ∨ c = 32 ∨ c = 10 ∨ c = 98 ∨ c = 35 ∨ c = 9 ∨ c = 105 ∨ c = 116 ∨ c = 115 := by
  unfold okc at h
  simp only [List.contains_cons, List.contains_nil, Bool.or_false, Bool.or_eq_true, beq_iff_eq] at h
  exact h
theorem okc_lt {c : Nat} (h : okc c = true) : c < 128 := by
  rcases okc_cases h with h | h | h | h | h | h | h | h | h | h | h | h <;> omega
theorem reprChar_ok {q c : Nat} (h : okc c = true) (hq : q = 34 ∨ q = 39) : Builtin.Str.reprChar q c = escc q c := by
  rcases hq with rfl | rfl <;> rcases okc_cases h with h | h | h | h | h | h | h | h | h | h | h | h <;> subst h <;> decide +kernel
theorem foldl_app {f : Nat → List Nat} : ∀ (l : List Nat) (acc : Array Nat), (l.foldl (fun out c => out ++ (f c).toArray) acc).toList = acc.toList ++ l.flatMap f
  | [], acc => by simp
  | c :: l, acc => by
    rw [List.foldl_cons, foldl_app l]
    simp
theorem repQ_is (w : List Nat) : repQ w = 34 ∨ repQ w = 39 := by
  unfold repQ
  split <;> simp
theorem flatMap_congr' {f g : Nat → List Nat} : ∀ {l : List Nat}, (∀ c ∈ l, f c = g c) → l.flatMap f = l.flatMap g
  | [], _ => rfl
  | c :: l, h => by
    rw [List.flatMap_cons, List.flatMap_cons, h c (.head _), flatMap_congr' fun d hd => h d (.tail _ hd)]
theorem reprText_ok {w : List Nat} (h : ∀ c ∈ w, okc c = true) : reprText (tx w) = tx (repL w) := by
  have hq : reprQuote (tx w) = repQ w := by
    unfold reprQuote repQ tx
    simp only [List.contains_toArray]
  unfold reprText
  rw [hq]
  show Str.mk _ = Str.mk _
  congr 1
  apply Array.ext'
  rw [Array.toList_push, ← Array.foldl_toList, foldl_app]
  show [repQ w] ++ w.flatMap (Builtin.Str.reprChar (repQ w)) ++ [repQ w] = repQ w :: (w.flatMap (escc (repQ w)) ++ [repQ w])
  rw [flatMap_congr' fun c hc => reprChar_ok (h c hc) (repQ_is w)]
  simp

noncomputable def subC (c : Nat) (z : List Nat) (d : Nat) : List Nat := if d = c then z else [d]
theorem sub_free (c : Nat) (z : List Nat) : ∀ l : List Nat, c ∉ l → l.flatMap (subC c z) = l
  | [], _ => rfl
  | k :: r, h => by
    have h1 : ¬ k = c := fun e => h (e ▸ List.mem_cons_self ..)
    rw [List.flatMap_cons, sub_free c z r fun m => h (List.mem_cons_of_mem _ m)]
    unfold subC
    rw [if_neg h1]; rfl
theorem sub_join (c : Nat) (z : Str) : ∀ parts : List Str, (∀ p ∈ parts, c ∉ p.cps.toList) → (Str.join ⟨#[c]⟩ parts).cps.toList.flatMap (subC c z.cps.toList) = (Str.join z parts).cps.toList
  | [], _ => rfl
  | [p], h => sub_free c _ _ (h p (List.mem_singleton.mpr rfl))
  | p :: q :: r, h => by
    have ih := sub_join c z (q :: r) fun a ha => h a (List.mem_cons_of_mem _ ha)
    show (p ++ ⟨#[c]⟩ ++ Str.join ⟨#[c]⟩ (q :: r)).cps.toList.flatMap _ = (p ++ z ++ Str.join z (q :: r)).cps.toList
    simp only [Str.cps_append, Array.toList_append, List.flatMap_append]
    rw [ih, sub_free c _ _ (h p (List.mem_cons_self ..))]
    simp [subC]
theorem replace_sub (x z : Str) (c : Nat) : (Txt.replace x ⟨#[c]⟩ z).cps.toList = x.cps.toList.flatMap (subC c z.cps.toList) := by
  rw [StrLaws.replace_one, ← sub_join c z _ (StrLaws.split_free x c), StrLaws.join_split]
theorem replace_tx (w z : List Nat) (c : Nat) : Txt.replace (tx w) (tx [c]) (tx z) = tx (w.flatMap (subC c z)) := by
  have h := replace_sub (tx w) (tx z) c
  have e : (Txt.replace (tx w) (tx [c]) (tx z)).cps.toList = w.flatMap (subC c z) := h
  show Txt.replace (tx w) (tx [c]) (tx z) = Str.mk (w.flatMap (subC c z)).toArray
  rw [← e]
theorem in_tx (w : List Nat) (c : Nat) : (Builtin.Str.occurrences (tx w) (tx [c]) 0 (tx w).length 1).isEmpty = !w.contains c := by
  have h := StrLaws.found_one (tx w) c
  have e : (tx w).cps.toList = w := rfl
  rw [e] at h
  have h2 : decide (c ∈ w) = w.contains c := by
    rw [Bool.eq_iff_iff, decide_eq_true_eq, List.contains_iff_mem]
  rw [h2] at h
  rw [← h, Bool.not_not]
theorem tx_inj {a b : List Nat} (h : tx a = tx b) : a = b := by
  have := congrArg (fun s => s.cps.toList) h
  simpa using this
theorem tx_beq (a b : List Nat) : (tx a == tx b) = (a == b) := by
  rw [Bool.eq_iff_iff, beq_iff_eq, beq_iff_eq]
  exact ⟨tx_inj, fun h => by rw [h]⟩
theorem tx_app (a b : List Nat) : tx a ++ tx b = tx (a ++ b) := by
  show Str.mk (a.toArray ++ b.toArray) = Str.mk _
  rw [List.append_toArray]
theorem lit_ap : Str.ofString "'" = tx [39] := by decide +kernel
theorem lit_qt : Str.ofString "\"" = tx [34] := by decide +kernel
theorem lit_bs : Str.ofString "\\" = tx [92] := by decide +kernel
theorem lit_bs2 : Str.ofString "\\\\" = tx [92, 92] := by decide +kernel
theorem lit_nl : Str.ofString "\n" = tx [10] := by decide +kernel
theorem lit_tb : Str.ofString "\t" = tx [9] := by decide +kernel
theorem lit_bn : Str.ofString "\\n" = tx [92, 110] := by decide +kernel
theorem lit_bt : Str.ofString "\\t" = tx [92, 116] := by decide +kernel
theorem lit_n : Str.ofString "n" = tx [110] := by decide +kernel
theorem lit_t : Str.ofString "t" = tx [116] := by decide +kernel
theorem lit_e : Str.ofString "" = tx [] := by decide +kernel
theorem lit_ab : Str.ofString "ab" = tx [97, 98] := by decide +kernel
theorem lit_sp : Str.ofString " " = tx [32] := by decide +kernel
theorem lit_ee : Str.ofString "''" = tx [39, 39] := by decide +kernel
theorem lit_q5 : Str.ofString "'\"'\"'" = tx [39, 34, 39, 34, 39] := by decide +kernel
/-- the toks are never none behind a step -/
theorem gen_toks {α : Type} {M : Model} {A : Around} {t : Sem α} {Q : α → Shared → Prop} {E : Value → Shared → Prop} {hp : Heap} {g : Array GenState} {d : Drawn} {X : Nat} {os : OsState} (h0 : 0 < X) (h : ∀ tk, 0 < tk → wpAny M A t Q E ⟨hp, g, d, tk, os⟩) : wpAny M A t Q E ⟨hp, g, d, X, os⟩ := h X h0

section
open Builtin Builtin.Str
theorem rep_rule {prog : Program} {w : World} {A : Around} {E : Value → Shared → Prop} {s : Shared} {x y z : Str} {t u v : Tok} {Q : Value → Shared → Prop} {l zz : List Nat} {c : Nat} (hx : x = tx l) (hy : y = tx [c]) (hz : z = tx zz)
    (hu : u ≠ 0) (hv : v ≠ 0) (huv : u ≠ v) (hyz : (y == z) = false) (hb : l.length ≤ 1000) (hb2 : zz.length ≤ 14)
    (hq : ∀ t' k, @LE.le Nat _ s.toks k → Q (.str (tx (l.flatMap (subC c zz))) t') { s with toks := k }) : wpAny (model prog w) A (call (.builtin "str.replace") [.str x t, .str y u, .str z v]) Q E s := by
  subst hx; subst hy; subst hz
  have few := StrLaws.occ_length_le (tx l) (tx [c]) 0 (tx l).length ((tx l).length + 1)
  have h14 : (l.length + 1) * zz.length ≤ (l.length + 1) * 14 := Nat.mul_le_mul_left _ hb2
  have out := replace_tx l zz c
  unfold Txt.replace at out
  refine call_gives F.slot_str_replace (typeIs_str _ _ _) F.entry_str_replace (F.args_str_replace_3 _ _ _) (gives_str_replace _ _ _ t u v fun _ => ⟨by simp [hu, hv], by simp [huv], hyz, ?small⟩) ?_
  case small =>
    have all := Nat.mul_le_mul_right (tx zz).length few
    simp only [tx_len] at all ⊢
    exact decide_eq_false (by show ¬ _ > 2 ^ 24; omega)
  split at out
  · rename_i none
    rw [if_pos none]
    exact (congrArg (fun y => Q (.str y t) s) out).mpr (hq t s.toks (Nat.le_refl _))
  · rename_i some
    rw [if_neg some]
    refine ⟨fits_replaced _ (by simp only [tx_len]; omega), ?_⟩
    rw [out]
    exact hq _ _ (Nat.le_succ _)
end

theorem sub_len (c : Nat) (z : List Nat) (k : Nat) (hk : 1 ≤ k) (hz : z.length ≤ k) : ∀ l : List Nat, (l.flatMap (subC c z)).length ≤ k * l.length
  | [] => by simp
  | d :: l => by
    have ih := sub_len c z k hk hz l
    rw [List.flatMap_cons, List.length_append, List.length_cons]
    have : (subC c z d).length ≤ k := by
      unfold subC
      split
      · exact hz
      · exact hk
    rw [Nat.mul_add]; omega
theorem esc_true (l : List Nat) : escL l true = ((l.flatMap (subC 92 [92, 92])).flatMap (subC 10 [92, 110])).flatMap (subC 9 [92, 116]) := by
  unfold escL
  rw [List.flatMap_assoc, List.flatMap_assoc]
  refine flatMap_congr' fun c _ => ?_
  unfold esdC subC
  by_cases h1 : c = 92
  · subst h1; rfl
  · by_cases h2 : c = 10
    · subst h2; rfl
    · by_cases h3 : c = 9
      · subst h3; rfl
      · simp [h1, h2, h3]
theorem esc_false (l : List Nat) : escL l false = (l.flatMap (subC 10 [92, 110])).flatMap (subC 9 [92, 116]) := by
  unfold escL
  rw [List.flatMap_assoc]
  refine flatMap_congr' fun c _ => ?_
  unfold esdC subC
  by_cases h1 : c = 92
  · subst h1; rfl
  · by_cases h2 : c = 10
    · subst h2; rfl
    · by_cases h3 : c = 9
      · subst h3; rfl
      · simp [h1, h2, h3]

open Builtin Builtin.Str in
theorem strip_tx (w : List Nat) : (Txt.stripChars (tx w) (tx [97, 98]) == tx []) = w.all (fun c => c == 97 || c == 98) := by
  have hg : ∀ c, (tx [97, 98]).cps.contains c = (c == 97 || c == 98) := fun c => by
    simp only [List.contains_toArray, List.contains_cons, List.contains_nil, Bool.or_false]
  have hfun : (tx [97, 98]).cps.contains = fun c => (c == 97 || c == 98) := funext hg
  have hlen : (tx w).length = w.length := tx_len w
  have hget : ∀ k, (tx w).cps.getD k 0 = w.getD k 0 := fun k => (getD_list (tx w) k).symm
  unfold Txt.stripChars
  rw [hfun]
  generalize hG : (fun c : Nat => (c == 97 || c == 98)) = G
  rw [Rows.stripBy_eq]
  obtain ⟨l0, l1, l2⟩ := lo_facts G (tx w)
  obtain ⟨h0, h1, h2, h3⟩ := hi_facts G (tx w) (stripLo G true (tx w)) l0
  generalize stripLo G true (tx w) = lo at *
  generalize stripHi G true (tx w) lo = hi at *
  rw [hlen] at l0 l2 h1 h2
  have hsz : (strSub (tx w) lo hi).cps.size = hi - lo := by
    show (w.toArray.extract lo hi).size = _
    rw [Array.size_extract]
    have : w.toArray.size = w.length := by simp
    rw [this]; omega
  rcases l2 with l2 | l2
  · have hall : w.all G = true := by
      rw [List.all_eq_true]
      intro c hc
      obtain ⟨k, hk, rfl⟩ := List.getElem_of_mem hc
      have := l1 k (by omega)
      rw [hget] at this
      simpa [List.getD, hk] using this
    rw [hall]
    have he : strSub (tx w) lo hi = tx [] := by
      have : (strSub (tx w) lo hi).cps = #[] := Array.eq_empty_of_size_eq_zero (by rw [hsz]; omega)
      show Str.mk _ = Str.mk #[]
      exact congrArg Str.mk this
    rw [he, tx_beq]; rfl
  · rw [hget] at l2
    by_cases hlt : lo < w.length
    · have hne : hi ≠ lo := fun e => by
        have := h2 lo (by omega) hlt
        rw [hget] at this
        rw [this] at l2; cases l2
      have hall : w.all G = false := by
        rw [List.all_eq_false]
        refine ⟨w[lo], List.getElem_mem hlt, ?_⟩
        have : w.getD lo 0 = w[lo] := by simp [List.getD, hlt]
        rw [this] at l2
        rw [l2]; exact Bool.false_ne_true
      rw [hall]
      apply Bool.eq_false_iff.mpr
      intro h
      have h := eq_of_beq h
      have : (strSub (tx w) lo hi).cps.size = 0 := by rw [h]; rfl
      omega
    · have hlo : lo = w.length := by omega
      have hall : w.all G = true := by
        rw [List.all_eq_true]
        intro c hc
        obtain ⟨k, hk, rfl⟩ := List.getElem_of_mem hc
        have := l1 k (by omega)
        rw [hget] at this
        simpa [List.getD, hk] using this
      rw [hall]
      have he : strSub (tx w) lo hi = tx [] := by
        have : (strSub (tx w) lo hi).cps = #[] := Array.eq_empty_of_size_eq_zero (by rw [hsz]; omega)
        show Str.mk _ = Str.mk #[]
        exact congrArg Str.mk this
      rw [he, tx_beq]; rfl
theorem net_true (l : List Nat) : l.map netC = (l.flatMap (subC 10 [110])).flatMap (subC 9 [116]) := by
  rw [List.flatMap_assoc]
  induction l with
  | nil => rfl
  | cons c l ih =>
    rw [List.map_cons, List.flatMap_cons, ih]
    have : (subC 10 [110] c).flatMap (subC 9 [116]) = [netC c] := by
      unfold netC subC
      by_cases h1 : c = 10
      · subst h1; rfl
      · by_cases h2 : c = 9
        · subst h2; rfl
        · simp [h1, h2]
    rw [this]; rfl
theorem not_beq_nil (w : List Nat) : (tx w != tx []) = !w.isEmpty := by
  show (!(tx w == tx [])) = _
  rw [tx_beq]; cases w <;> rfl

theorem takeWhile_free (c : Nat) : ∀ (a b : List Nat), c ∉ a → (b = [] ∨ ∃ r, b = c :: r) → (a ++ b).takeWhile (· != c) = a
  | [], b, _, h => by
    rcases h with rfl | ⟨r, rfl⟩
    · rfl
    · simp
  | k :: a, b, h, hb => by
    have h1 : (k != c) = true := by
      simp only [bne_iff_ne]
      exact fun e => h (e ▸ List.mem_cons_self ..)
    rw [List.cons_append, List.takeWhile_cons, if_pos h1, takeWhile_free c a b (fun m => h (List.mem_cons_of_mem _ m)) hb]
theorem split_head {l : List (Str × Tok)} {wd : List Nat} {y : Str} (h : l.map (fun x => x.1) = Txt.split (tx wd) (Str.ofString "'")) (h2 : (l.map (fun x => x.1))[Int.toNat 0]? = some y) : y = tx (wd.takeWhile (· != 39)) := by
  rw [h, lit_ap] at h2
  have hj := StrLaws.join_split (tx wd) ⟨#[39]⟩
  have hf := StrLaws.split_free (tx wd) 39
  cases hs : Txt.split (tx wd) (tx [39]) with
  | nil => rw [hs] at h2; cases h2
  | cons p r =>
    rw [hs] at h2 hf hj
    have hy : p = y := by simpa using h2
    subst hy
    have hp := hf p (List.mem_cons_self ..)
    have hw : ∃ b, wd = p.cps.toList ++ b ∧ (b = [] ∨ ∃ z, b = 39 :: z) := by
      have hc := congrArg (fun s => s.cps.toList) hj
      cases r with
      | nil => exact ⟨[], by simpa [Str.join] using hc.symm, .inl rfl⟩
      | cons q r' =>
        have : (Str.join ⟨#[39]⟩ (p :: q :: r')) = p ++ ⟨#[39]⟩ ++ Str.join ⟨#[39]⟩ (q :: r') := rfl
        rw [this] at hc
        simp only [Str.cps_append, Array.toList_append] at hc
        have hc' : wd = p.cps.toList ++ [39] ++ (Str.join ⟨#[39]⟩ (q :: r')).cps.toList := hc.symm
        exact ⟨39 :: (Str.join ⟨#[39]⟩ (q :: r')).cps.toList, hc'.trans (List.append_assoc ..), .inr ⟨_, rfl⟩⟩
    obtain ⟨b, hb, hb2⟩ := hw
    have ht : wd.takeWhile (· != 39) = p.cps.toList := by
      rw [hb]
      exact takeWhile_free 39 _ _ hp hb2
    rw [ht]
theorem takeWhile_le (p : Nat → Bool) : ∀ l : List Nat, (l.takeWhile p).length ≤ l.length
  | [] => by simp
  | k :: l => by
    rw [List.takeWhile_cons]
    split
    · have := takeWhile_le p l; simp; exact this
    · simp

theorem escL_len (d : Bool) : ∀ l : List Nat, (escL l d).length ≤ 2 * l.length
  | [] => by simp [escL]
  | c :: l => by
    have ih := escL_len d l
    have e : escL (c :: l) d = esdC d c ++ escL l d := by unfold escL; rw [List.flatMap_cons]
    rw [e, List.length_append, List.length_cons]
    have : (esdC d c).length ≤ 2 := by
      unfold esdC
      repeat' split
      all_goals simp
    omega
end Mine
end
section
open PySem PySem.W PyProof.Rows PySem.Calls PySem.Spec PyProof
set_option maxRecDepth 100000
namespace Mine
theorem execs_one {M : Model} {A : Around} {st : Stmt} {env : Env} {Q : Flow → Shared → Prop} {E : Value → Shared → Prop} {s : Shared} (h : wpAny M A (exec st env) Q E s) : wpAny M A (execs [st] env) Q E s :=
  wpAny_execs_cons (wpAny_mono h (fun f s' h' => by cases f <;> first | exact wpAny_execs_nil h' | exact h') (fun _ _ z => z))
theorem exg1 {M : Model} {A : Around} {st : Stmt} {env : Env} {Q : Flow → Shared → Prop} {E : Value → Shared → Prop} {hp : Heap} {g : Array GenState} {d : Drawn} {X : Nat} {os : OsState} (h : ∀ tk, wpAny M A (exec st env) Q E ⟨hp, g, d, tk, os⟩) : wpAny M A (execs [st] env) Q E ⟨hp, g, d, X + 1, os⟩ := execs_one (h _)
theorem exg {M : Model} {A : Around} {st : Stmt} {rest : List Stmt} {env : Env} {Q : Flow → Shared → Prop} {E : Value → Shared → Prop} {hp : Heap} {g : Array GenState} {d : Drawn} {X : Nat} {os : OsState} (h : ∀ tk, wpAny M A (exec st env) (fun f s' => match f with | .next => wpAny M A (execs rest env) Q E s' | f => Q f s') E ⟨hp, g, d, tk, os⟩) : wpAny M A (execs (st :: rest) env) Q E ⟨hp, g, d, X + 1, os⟩ := wpAny_execs_cons (h _)
theorem gen_toks0 {α : Type} {M : Model} {A : Around} {t : Sem α} {Q : α → Shared → Prop} {E : Value → Shared → Prop} {hp : Heap} {g : Array GenState} {d : Drawn} {X : Nat} {os : OsState} (_ : 0 < X) (h : ∀ tk, wpAny M A t Q E ⟨hp, g, d, tk, os⟩) : wpAny M A t Q E ⟨hp, g, d, X, os⟩ := h X
theorem rm0 {x b R : Nat} (h : x + b < R) : x < R := Nat.lt_of_le_of_lt (Nat.le_add_right x b) h
theorem rmA {x a b R : Nat} (h : x + b < R) (e : a ≤ b) : x + a < R := Nat.lt_of_le_of_lt (Nat.add_le_add_left e x) h
theorem rmB {x a c b R : Nat} (h : x + b < R) (e : a + c ≤ b) : x + a + c < R := by rw [Nat.add_assoc]; exact rmA h e
theorem rmC {x a c d b R : Nat} (h : x + b < R) (e : a + (c + d) ≤ b) : x + a + c + d < R := by rw [Nat.add_assoc]; exact rmB h e
theorem sb_refl {α : Type} {l : List α} : ∀ q, q ∈ l → q ∈ l := fun _ h => h
theorem sb_keep {α : Type} {a : α} {l l' : List α} (h : ∀ q, q ∈ l → q ∈ l') : ∀ q, q ∈ a :: l → q ∈ a :: l' := fun q hq => by
  rcases List.mem_cons.mp hq with rfl | hq
  · exact List.Mem.head _
  · exact List.Mem.tail _ (h q hq)
theorem sb_skip {α : Type} {b : α} {l l' : List α} (h : ∀ q, q ∈ l → q ∈ l') : ∀ q, q ∈ l → q ∈ b :: l' := fun q hq => List.Mem.tail _ (h q hq)
theorem storeX_LL {M : Model} {A : Around} {E : Value → Shared → Prop} {s : Shared} {h₀ : Heap} {L a : Addr} {m : Str → Option Value} {cn : Str} {cs : Scope} {ccd : Value} {cl : List (Str × Addr)} {x : Str} {v : Value} {Q : Unit → Shared → Prop} {news : List (Addr × Obj)} (F : Fr h₀ L s.heap m) (N : News h₀ L s.heap news)
  (h : ∀ (h' : Heap), let m' : Str → Option Value := fun y => if y = x then some v else m y; Fr h₀ L h' m' → News h₀ L h' news → Q () ⟨h', s.gens, s.drawn, s.toks + 1, s.os⟩) (a1 : cs.kind = .function) (a2 : (envX cn cs L a ccd cl).kindOf x = some NameKind.local) : wpAny M A (storeName (envX cn cs L a ccd cl) x v) Q E s := storeX_L F N h a1 a2
theorem ifn {z k : Str} {v r w : Option Value} (h : z ≠ k) (e : r = w) : (if z = k then v else r) = w := (if_neg h).trans e
theorem ifr {z k : Str} {v r w : Option Value} (h : z ≠ k) (e : w = r) : w = (if z = k then v else r) := e.trans (if_neg h).symm
noncomputable def SetStep (h₀ : Heap) (L : Addr) (m : Str → Option Value) (d : Addr) (o o' : Obj) (news : List (Addr × Obj)) (Q : Unit → Shared → Prop) (s : Shared) : Prop := ∃ news', Upd d o o' news news' ∧ ∀ h', Fr h₀ L h' m → News h₀ L h' news' → Q () ⟨h', s.gens, s.drawn, s.toks + 2, s.os⟩
theorem SetStep.intro {h₀ : Heap} {L : Addr} {m : Str → Option Value} {d : Addr} {o o' : Obj} {news news' : List (Addr × Obj)} {Q : Unit → Shared → Prop} {s : Shared} (u : Upd d o o' news news') (h : ∀ h', Fr h₀ L h' m → News h₀ L h' news' → Q () ⟨h', s.gens, s.drawn, s.toks + 2, s.os⟩) : SetStep h₀ L m d o o' news Q s := ⟨_, u, h⟩
theorem set_dict_LL {prog : Program} {w : World} {A : Around} {E : Value → Shared → Prop} {s : Shared} {K : Frag} {x C dx L : Addr} {h₀ : Heap} {m : Str → Option Value} {news : List (Addr × Obj)} {ox : Obj} {es es' : List DictEntry} {n n' : Nat} {name : Str} {v : Value} {Q : Unit → Shared → Prop}
  (k1 : Fr h₀ L s.heap m) (k2 : K.In h₀) (k3 : News h₀ L s.heap news) (k4 : W.InstAt s.heap x ox C (some (dictOf es n))) (k5 : ox.dict = some dx) (k6 : findIn K (Value.ref C) (Str.ofString "__setattr__") = some (some (Value.builtin "object.__setattr__"))) (k7 : plainOver K C = true) (k8 : takerIn K C name = some none) (k9 : hasDictIn K C = true) (k10 : (getL name es).isSome = true)
  (k11 : (putL name (PyData.keyHash w.params name) (Value.str name (s.toks + 1)) v es, putN name es n) = (es', n')) (k13 : es'.length ≤ 1000)
  (h : let es9 : List DictEntry := es'; SetStep h₀ L m dx (dictOf es n) (dictOf es9 n') news Q s) : wpAny (model prog w) A (setAttr (Value.ref x) name v) Q E s := by
  obtain ⟨news', u, h⟩ := h
  exact set_dict k1 k2 k3 k4 k5 k6 k7 k8 k9 k10 k11 u k13 h
end Mine
end
local macro_rules | `(tactic| walk_at $s:str) => `(tactic| k_extra $s)
local macro_rules | `(tactic| k_all) => `(tactic| k_extra "k all")
local macro_rules | `(tactic| walk_at "callWith ref") => `(tactic| (k_here; k_dflt (refine' callWith_K0 (K := Mine.K _) ?k1 ?k2 ?_; (case k1 => k_in); (case k2 => k_is); k_whole)))
local macro_rules | `(tactic| walk_at "k lt") => `(tactic| (first | with_reducible assumption | exact And.left (by with_reducible assumption) | exact And.left (And.right (by with_reducible assumption)) | exact And.right (And.right (by with_reducible assumption)) | exact And.left (And.right (And.right (by with_reducible assumption))) | exact And.right (And.right (And.right (by with_reducible assumption))) | exact And.left (And.right (And.right (And.right (by with_reducible assumption)))) | exact And.right (And.right (And.right (And.right (by with_reducible assumption)))) | exact And.left (And.right (And.right (And.right (And.right (by with_reducible assumption))))) | exact And.right (And.right (And.right (And.right (And.right (by with_reducible assumption))))) | exact And.left (And.right (And.right (And.right (And.right (And.right (by with_reducible assumption)))))) | exact And.right (And.right (And.right (And.right (And.right (And.right (by with_reducible assumption)))))) | exact And.left (And.right (And.right (And.right (And.right (And.right (And.right (by with_reducible assumption))))))) | exact And.right (And.right (And.right (And.right (And.right (And.right (And.right (by with_reducible assumption))))))) | exact And.left (And.right (And.right (And.right (And.right (And.right (And.right (And.right (by with_reducible assumption)))))))) | exact And.right (And.right (And.right (And.right (And.right (And.right (And.right (And.right (by with_reducible assumption)))))))) | exact And.left (And.right (And.right (And.right (And.right (And.right (And.right (And.right (And.right (by with_reducible assumption))))))))) | exact And.right (And.right (And.right (And.right (And.right (And.right (And.right (And.right (And.right (by with_reducible assumption))))))))) | exact And.left (And.right (And.right (And.right (And.right (And.right (And.right (And.right (And.right (And.right (by with_reducible assumption)))))))))) | exact And.right (And.right (And.right (And.right (And.right (And.right (And.right (And.right (And.right (And.right (by with_reducible assumption)))))))))) | exact And.left (And.right (And.right (And.right (And.right (And.right (And.right (And.right (And.right (And.right (And.right (by with_reducible assumption))))))))))) | exact And.right (And.right (And.right (And.right (And.right (And.right (And.right (And.right (And.right (And.right (And.right (by with_reducible assumption))))))))))) | exact And.left (And.right (And.right (And.right (And.right (And.right (And.right (And.right (And.right (And.right (And.right (And.right (by with_reducible assumption)))))))))))) | exact And.right (And.right (And.right (And.right (And.right (And.right (And.right (And.right (And.right (And.right (And.right (And.right (by with_reducible assumption)))))))))))) | exact And.left (And.right (And.right (And.right (And.right (And.right (And.right (And.right (And.right (And.right (And.right (And.right (And.right (by with_reducible assumption))))))))))))) | exact And.right (And.right (And.right (And.right (And.right (And.right (And.right (And.right (And.right (And.right (And.right (And.right (And.right (by with_reducible assumption))))))))))))) | exact And.left (And.right (And.right (And.right (And.right (And.right (And.right (And.right (And.right (And.right (And.right (And.right (And.right (And.right (by with_reducible assumption)))))))))))))) | exact And.right (And.right (And.right (And.right (And.right (And.right (And.right (And.right (And.right (And.right (And.right (And.right (And.right (And.right (by with_reducible assumption))))))))))))))))
local macro_rules | `(tactic| walk_at "k rm") => `(tactic| (first | exact rm0 (by with_reducible assumption) | exact rmB (by with_reducible assumption) (Nat.le_of_ble_eq_true rfl) | exact rmA (by with_reducible assumption) (Nat.le_of_ble_eq_true rfl) | exact rmC (by with_reducible assumption) (Nat.le_of_ble_eq_true rfl)))
local macro_rules | `(tactic| k_ne) => `(tactic| (refine neN ?_; (try dsimp only); first | with_reducible assumption | exact Ne.symm (by with_reducible assumption) | exact Nat.ne_of_lt (by walk_at "k lt") | exact Nat.ne_of_gt (by walk_at "k lt") | exact Nat.ne_of_lt (by k_extra "k tr") | exact Nat.ne_of_gt (by k_extra "k tr")))
local macro_rules | `(tactic| k_room) => `(tactic| ((try simp only [depth_mark, depth_under_make, depth_under_kw, depth_in1, depth_deeper, depth_caller]); (try dsimp only [Mine.arnd]); first | walk_at "k rm" | (simp only [recursionLimit] at *; omega)))
local macro_rules | `(tactic| k_units) => `(tactic| ((try simp only [units_under_make, units_in1, units_deeper, Around.mark_units, units_caller]); (try dsimp only [Mine.arnd]); first | walk_at "k rm" | ((have hcL9 := cLine_is); simp only [cLine] at *; omega)))
section
open PySem PySem.W PyProof.Rows PySem.Calls PySem.Spec PyProof
set_option maxRecDepth 100000
namespace Mine
theorem rules_P2_n : True := by
  w_top off
  k_with_none
  trivial
theorem owner_ci : Manifest.owners.lookup (String.ofList ['r', 'o', 't', 'a', 'r', 'e', 't', 'i', '_', 'e', 'l', 'b', 'a', 'l', 'l', 'a', 'c'].reverse) = some Manifest.sig_callable_iterator := by kernel_rfl
theorem slot_ci_next : Slot "callable_iterator" "__next__" "callable_iterator.__next__" :=
  .of (owner := "callable_iterator") (n := "__next__") (by rw [typeLookup_type, builtinLookup_eq_fast]; kernel_rfl) (by decide +kernel) (by decide +kernel) (by decide +kernel)
    (by first | exact .inl (by decide +kernel) | exact .inr (by decide +kernel)) (by rw [isSubtype_type]; kernel_rfl)
theorem entry_ci_next : entryFor table "callable_iterator.__next__" = some Builtin.«callable_iterator.__next__» := entryFor_of_tree (by kernel_rfl)
theorem args_ci_next (a : Value) : argsOk "callable_iterator.__next__" ⟨[a], []⟩ := by
  unfold argsOk; rw [signature?_of (id := "callable_iterator.__next__") (n := ['_', '_', 't', 'x', 'e', 'n', '_', '_']) (o := ['r', 'o', 't', 'a', 'r', 'e', 't', 'i', '_', 'e', 'l', 'b', 'a', 'l', 'l', 'a', 'c']) (by kernel_rfl) owner_ci]; kernel_rfl
theorem slot_ci_iter : Slot "callable_iterator" "__iter__" "callable_iterator.__iter__" :=
  .of (owner := "callable_iterator") (n := "__iter__") (by rw [typeLookup_type, builtinLookup_eq_fast]; kernel_rfl) (by decide +kernel) (by decide +kernel) (by decide +kernel)
    (by first | exact .inl (by decide +kernel) | exact .inr (by decide +kernel)) (by rw [isSubtype_type]; kernel_rfl)
theorem args_ci_iter (a : Value) : argsOk "callable_iterator.__iter__" ⟨[a], []⟩ := by
  unfold argsOk; rw [signature?_of (id := "callable_iterator.__iter__") (n := ['_', '_', 'r', 'e', 't', 'i', '_', '_']) (o := ['r', 'o', 't', 'a', 'r', 'e', 't', 'i', '_', 'e', 'l', 'b', 'a', 'l', 'l', 'a', 'c']) (by kernel_rfl) owner_ci]; kernel_rfl
theorem entry_ci_iter : entryFor table "callable_iterator.__iter__" = some Builtin.«dict_keyiterator.__iter__» :=
  entryFor_alias (id' := "dict_keyiterator.__iter__") (by kernel_rfl) (by first | rfl | decide +kernel | (unfold String.splitOn; simp +decide [String.splitOnAux])) (by decide +kernel) (by kernel_rfl)
theorem args_iter2 (a b : Value) : argsOk "iter" ⟨[a, b], []⟩ := by unfold argsOk; kernel_rfl
theorem lookup_meth_call : typeLookup (.type "method") "__call__" = pure (some (.builtin "method.__call__")) := by rw [typeLookup_type, builtinLookup_eq_fast]; kernel_rfl
noncomputable abbrev ciObj (q : Value) (y : Str) (t : Tok) (b : Bool) : Obj := { cls := .type "callable_iterator", data := .fields #[q, .str y t, .bool b] }
noncomputable abbrev ciEnd : Obj := { cls := .type "callable_iterator", data := .fields #[.none, .none, .bool true] }
section
variable {prog : Program} {w : World} {A : Around} {E : Value → Shared → Prop} {s : Shared} {h₀ : Heap} {L : Addr} {m : Str → Option Value} {news : List (Addr × Obj)} {I q : Addr} {f x : Value} {y : Str} {t : Tok}
theorem ci_make {Q : Value → Shared → Prop} (F : Fr h₀ L s.heap m) (N : News h₀ L s.heap news) (hq : (q, methodObj f x) ∈ news)
    (h : ∀ (I : Addr) h', Fr h₀ L h' m → News h₀ L h' ((I, ciObj (.ref q) y t false) :: news) → (∀ p ∈ news, p.1 < I) → Q (.ref I) { s with heap := h' }) :
    wpAny (model prog w) A (call (.builtin "iter") [.ref q, .str y t]) Q E s := by
  have hr := lookup_meth_call
  have hT : s.TypeIs (.ref q) "method" := ⟨_, (N _ hq).1, rfl⟩
  refine call_function_entry (by decide +kernel) (by decide +kernel) kdk_entry_iter (args_iter2 _ _) ?_
  unfold Builtin.«iter»
  refine wpAny_bind (m := someArgs "iter" 1 2 _) (wpAny_of_eq (a := [Value.ref q, .str y t]) (by first | rfl | kernel_rfl!) ?_)
  dsimp only
  refine wpAny_bind (wpAny_specialOf hT hr ?_)
  show wpAny _ _ (rule "iter.sentinel" >>= _) _ _ _
  refine wpAny_bind (wpAny_rule ?_)
  refine wpAny_bind (wpAny_newObj_type ?_)
  exact wpAny_pure ⟨_, rfl, h _ _ (F.push _) (News.push F N _ rfl) (fun q hq => Heap.lt_size (N q hq).1)⟩
theorem ci_self {Q : Value → Shared → Prop} {o : Obj} (ho : s.heap.get? I = some o) (hc : o.cls = .type "callable_iterator") (h : Q (.ref I) s) : wpAny (model prog w) A (pyIter (.ref I)) Q E s := by
  have hT : s.TypeIs (.ref I) "callable_iterator" := ⟨_, ho, hc⟩
  refine wpAny_pyIter_slot hT slot_ci_iter (wpAny_call_entry slot_ci_iter hT entry_ci_iter ?_ (args_ci_iter _))
  show wpAny _ _ (ret (.ref I)) _ _ s
  exact wpAny_pure ⟨_, rfl, "callable_iterator", _, hT, slot_ci_next.lookup, h⟩
end
end Mine
end
section
open PySem PySem.W PyProof.Rows PySem.Calls PySem.Spec PyProof
set_option maxRecDepth 100000
namespace Mine
noncomputable def CiBack (Q : Option Value → Shared → Prop) (I q f : Addr) (t : Tok) (xv : Value) (r : Result) (s' : Shared) : Prop :=
  ∃ y u, r = .ok (.ret (.str y u)) ∧ s'.heap.get? I = some (ciObj (.ref q) "" t false) ∧ s'.heap.get? q = some (methodObj (.ref f) xv) ∧ (∃ of fd, s'.heap.get? f = some of ∧ of.data = .func fd) ∧
    (y ≠ Str.ofString "" → Q (some (.str y u)) s') ∧ (y = Str.ofString "" → ∀ h', h'.get? I = some ciEnd → Heap.ExtBut I s'.heap h' → Q none { s' with heap := h' })
section
variable {prog : Program} {w : World} {A : Around} {E : Value → Shared → Prop} {s : Shared} {h₀ : Heap} {L : Addr} {m : Str → Option Value} {news : List (Addr × Obj)} {I q f : Addr} {xv : Value} {y : Str} {t : Tok}
theorem ci_borrows {Q : Bool → Shared → Prop} (hq : s.heap.get? q = some (methodObj (.ref f) xv)) (hf : ∃ of fd, s.heap.get? f = some of ∧ of.data = .func fd) (h : Q true s) : wpAny (model prog w) A (borrowsExactly (.ref q)) Q E s := by
  obtain ⟨of, fd, h1, h2⟩ := hf
  unfold borrowsExactly
  dsimp only
  refine wpAny_bind (wpAny_load hq ?_)
  dsimp only
  rw [if_pos (by decide)]
  show wpAny _ _ (load f >>= _) _ _ _
  refine wpAny_bind (wpAny_load h1 ?_)
  rw [h2]
  exact wpAny_pure h
theorem ci_raise {α : Type} {Q : Option Value → Shared → Prop} (hh : A.handled = none) (hQ : ∀ h', Heap.ExtBut I s.heap h' → (∀ o, s.heap.get? I = some o → h'.get? I = some o) → Q none { s with heap := h' }) :
    wpAny (model prog w) A.in1 (Builtin.SmallTypes.stopIteration : Sem α) (fun _ _ => False) (fun e s' => wpAny (model prog w) A (do if ← isInstance e (.type "StopIteration") then pure none else throw e) Q E s') s := by
  have up : ∀ (a b : Obj) (x : Addr) (o : Obj), s.heap.get? x = some o → ((s.heap.push a).push b).get? x = some o := fun _ _ _ _ e => Heap.get?_push_of_some _ (Heap.get?_push_of_some _ e)
  unfold Builtin.SmallTypes.stopIteration newExc newTuple
  refine wpAny_bind (wpAny_bind (wpAny_newObj_type (wpAny_bind (m := firstArgMember _ _) (wpAny_of_eq (a := Value.none) (by simp only [firstArgMember]; rfl) ?_)) (by size_fits)))
  refine wpAny_newObj_type (wpAny_raiseNew_none hh ?_) (by size_fits)
  exact wpAny_bind (wpAny_isInstance ⟨_, Heap.get?_push_size _ rfl, rfl⟩ isSubtype_stop (wpAny_pure (hQ _ (fun b o _ e => up _ _ b o e) (up _ _ I))))

theorem eqb_str {x y : Str} {t u : Tok} {Q : Bool → Shared → Prop} (h : Q (x == y) s) : wpAny (model prog w) A (eqBool (.str x t) (.str y u)) Q E s := by
  unfold eqBool
  refine wpAny_holding ?_
  by_cases hv : (Value.str x t == Value.str y u) = true
  · rw [if_pos hv]
    have e := eq_of_beq hv
    cases e
    refine wpAny_bind (wpAny_rule (wpAny_pure ?_))
    have : (x == x) = true := by simp
    rw [this] at h; exact h
  · rw [if_neg hv]
    show wpAny _ _ (richCompare .Eq (.str x t) (.str y u) >>= _) _ _ _
    refine wpAny_bind ?_
    show wpAny _ _ (compareOp .Eq (.str x t) (.str y u)) _ _ _
    refine PyProof.Rows.eq_str ?_
    exact wpAny_truthy_bool h
theorem ci_next {Q : Option Value → Shared → Prop} (hh : A.handled = none) (hI : s.heap.get? I = some (ciObj (.ref q) "" t false)) (hq : s.heap.get? q = some (methodObj (.ref f) xv)) (hf : ∃ of fd, s.heap.get? f = some of ∧ of.data = .func fd)
    (h : codeAny (model prog w) A.in1 (.call (.ref f) ⟨[xv], []⟩) (CiBack Q I q f t xv) s) : wpAny (model prog w) A (pyNext (.ref I)) Q E s := by
  have hT : s.TypeIs (.ref I) "callable_iterator" := ⟨_, hI, rfl⟩
  unfold pyNext
  refine wpAny_bind (wpAny_attempt (wpAny_callSpecial?_slot (name := Str.ofString "__next__") hT slot_ci_next (wpAny_call_entry slot_ci_next hT entry_ci_next ?_ (args_ci_next _))))
  unfold Builtin.«callable_iterator.__next__»
  refine wpAny_bind (wpAny_of_eq (a := (Value.ref I, [])) rfl ?_)
  dsimp only
  refine wpAny_bind (wpAny_field hI rfl (x := .bool false) rfl ?_)
  show wpAny _ _ (if (Value.bool false == Value.bool true) = true then _ else _) _ _ s
  rw [if_neg (by decide)]
  show wpAny _ _ (field (.ref I) 0 >>= _) _ _ s
  refine wpAny_bind (wpAny_field hI rfl (x := .ref q) rfl ?_)
  refine wpAny_bind (wpAny_attempt ?_)
  unfold callOutOfASlot
  refine wpAny_bind (ci_borrows hq hf ?_)
  rw [if_pos rfl]
  unfold callBorrowed
  refine X.x_call ?_ (by intro e; cases e)
  refine method_call hq ?_
  refine codeAny_mono (show codeAny (model prog w) A.in1 _ _ s from h) (fun r s' hb => ?_)
  obtain ⟨y, u, rfl, b1, b2, b3, b4, b5⟩ := hb
  refine wpAny_pure ?_
  dsimp only
  refine wpAny_bind (wpAny_field b1 rfl (x := .bool false) rfl ?_)
  show wpAny _ _ (if (Value.bool false == Value.bool true) = true then _ else _) _ _ s'
  rw [if_neg (by decide)]
  refine wpAny_bind (wpAny_field b1 rfl (x := .str "" t) rfl ?_)
  refine wpAny_bind (wpAny_holding (eqb_str ?_))
  by_cases hy : y = Str.ofString ""
  · have e : (Str.ofString "" == y) = true := by rw [hy]; simp
    rw [e]
    show wpAny _ _ (rule "callable_iterator.__next__.sentinel" >>= _) _ _ _
    refine wpAny_bind (wpAny_rule ?_)
    refine wpAny_bind ?_
    refine wpAny_bind (m := field (.ref I) 0) (wpAny_field b1 rfl (x := .ref q) rfl ?_)
    refine wpAny_bind (m := slotLetsGo _ _ _) ?_
    · unfold slotLetsGo
      dsimp only
      refine wpAny_bind (ci_borrows b2 b3 ?_)
      rw [if_pos rfl]
      refine wpAny_pure ?_
      refine wpAny_bind (m := setField _ _ _) (wpAny_setField_rec b1 (by simp) fun h1 g1 s1 => ?_)
      refine wpAny_bind (m := setField _ _ _) (wpAny_setField_rec g1 (by simp) fun h2 g2 s2 => ?_)
      refine wpAny_setField_rec g2 (by simp) fun h3 g3 s3 => ?_
      refine wpAny_mono (ci_raise (I := I) hh (Q := Q) fun h4 k1 k2 => ?_) (fun _ _ z => z.elim) (fun _ _ z => z)
      exact b5 hy h4 (k2 _ g3) fun b o hb e' => k1 b o hb ((s3.2 b hb).trans ((s2.2 b hb).trans ((s1.2 b hb).trans e')))
  · have e : (Str.ofString "" == y) = false := by
      apply Bool.eq_false_iff.mpr
      intro h9
      exact hy (eq_of_beq h9).symm
    rw [e]
    show wpAny _ _ (ret (.str y u)) _ _ _
    exact wpAny_pure ⟨_, rfl, wpAny_pure (b4 hy)⟩
end
end Mine
end
section
open PySem PySem.W PyProof.Rows PySem.Calls PySem.Spec PyProof
set_option maxRecDepth 100000
namespace Mine
inductive Picks : List (Addr × Obj) → List (Addr × Obj) → List (Addr × Obj) → Prop
  | nil {l} : Picks [] l l
  | cons {p ps l l' r} : Pick p l l' → Picks ps l' r → Picks (p :: ps) l r
theorem Picks.mem {ps l r : List (Addr × Obj)} (h : Picks ps l r) : ∀ q, q ∈ ps ++ r → q ∈ l := by
  induction h with
  | nil => exact fun q hq => hq
  | cons P _ ih =>
    intro q hq
    rcases List.mem_cons.mp hq with rfl | hq
    · exact P.mem _ (.head _)
    · exact P.mem _ (.tail _ (ih _ hq))
theorem Picks.news {ps l r : List (Addr × Obj)} {h₀ h : Heap} {L : Addr} (P : Picks ps l r) (N : News h₀ L h l) : News h₀ L h (ps ++ r) := fun q hq => N q (P.mem q hq)
section
variable {prog : Program} {w : World} {A : Around} {E : Value → Shared → Prop} {s : Shared} {h₀ h h' : Heap} {L : Addr} {m : Str → Option Value} {news : List (Addr × Obj)} {I q f : Addr} {xv : Value} {y : Str} {t : Tok}
theorem ext_fr (F : Fr h₀ L h m) (e : Heap.ExtBut I h h') (hL : I ≠ L) (h0 : h₀.get? I = none) : Fr h₀ L h' m := by
  obtain ⟨oL, a1, a2, hL', a3⟩ := F.ns
  exact ⟨⟨oL, a1, a2, e _ _ (Ne.symm hL) hL', a3⟩, fun b o hb => e b o (fun z => by rw [z, h0] at hb; cases hb) (F.keep b o hb), F.above⟩
theorem ext_news (N : News h₀ L h news) (e : Heap.ExtBut I h h') (off : ∀ p ∈ news, p.1 ≠ I) : News h₀ L h' news := fun p hp => ⟨e _ _ (off p hp) (N p hp).1, (N p hp).2⟩
theorem ext_newsI {o o' : Obj} (N : News h₀ L h ((I, o) :: news)) (e : Heap.ExtBut I h h') (g : h'.get? I = some o') (off : ∀ p ∈ news, p.1 ≠ I) : News h₀ L h' ((I, o') :: news) := fun p hp => by
  rcases List.mem_cons.mp hp with rfl | hp
  · exact ⟨g, (N _ (.head _)).2⟩
  · exact ⟨e _ _ (off p hp) (N p (.tail _ hp)).1, (N p (.tail _ hp)).2⟩
theorem ci_ended {Q : Option Value → Shared → Prop} (hh : A.handled = none) (hI : s.heap.get? I = some ciEnd) (h : ∀ h', Heap.ExtBut I s.heap h' → h'.get? I = some ciEnd → Q none { s with heap := h' }) : wpAny (model prog w) A (pyNext (.ref I)) Q E s := by
  have hT : s.TypeIs (.ref I) "callable_iterator" := ⟨_, hI, rfl⟩
  unfold pyNext
  refine wpAny_bind (wpAny_attempt (wpAny_callSpecial?_slot (name := Str.ofString "__next__") hT slot_ci_next (wpAny_call_entry slot_ci_next hT entry_ci_next ?_ (args_ci_next _))))
  unfold Builtin.«callable_iterator.__next__»
  refine wpAny_bind (wpAny_of_eq (a := (Value.ref I, [])) rfl ?_)
  dsimp only
  refine wpAny_bind (wpAny_field hI rfl (x := .bool true) rfl ?_)
  show wpAny _ _ (if (Value.bool true == Value.bool true) = true then _ else _) _ _ s
  rw [if_pos (by decide)]
  refine wpAny_bind (wpAny_rule ?_)
  refine wpAny_bind (wpAny_mono (ci_raise (I := I) hh (Q := Q) fun h4 k1 k2 => ?_) (fun _ _ z => z.elim) (fun _ _ z => z))
  exact h h4 k1 (k2 _ hI)
end

noncomputable def ForStep (h₀ : Heap) (L : Addr) (s : Shared) (J : Nat → (Str → Option Value) → List (Addr × Obj) → Prop) (Q : Flow → Shared → Prop) (n : Nat) (f : Flow) (s₃ : Shared) : Prop :=
  match f with
  | .ret v => Q (.ret v) s₃
  | .brk => Q .next s₃
  | _ => ∃ h' tk m₂ news₂ n', s₃ = { s with heap := h', toks := tk } ∧ Fr h₀ L h' m₂ ∧ News h₀ L h' news₂ ∧ n' < n ∧ J n' m₂ news₂
noncomputable def ForTurn (prog : Program) (w : World) (A : Around) (env : Env) (xn : Str) (body : List Stmt) (E : Value → Shared → Prop) (h₀ : Heap) (L : Addr) (s : Shared) (J : Nat → (Str → Option Value) → List (Addr × Obj) → Prop) (Q : Flow → Shared → Prop) (n : Nat) (r : Option Value) (s₁ : Shared) : Prop :=
  match r with
  | none => Q .next s₁
  | some v => wpAny (model prog w) A (storeName env xn v) (fun _ s₂ => wpAny (model prog w) A (execs body env) (ForStep h₀ L s J Q n) E s₂) E s₁
section
variable {prog : Program} {w : World} {A : Around} {E : Value → Shared → Prop} {s : Shared} {h₀ : Heap} {L : Addr} {m : Str → Option Value} {news : List (Addr × Obj)} {I : Addr} {env : Env}
theorem for_own {xn yn : Str} {px py pos : Pos} {body : List Stmt} {oI : Obj} {Q : Flow → Shared → Prop} (J : Nat → (Str → Option Value) → List (Addr × Obj) → Prop) {n₀ : Nat}
    (F : Fr h₀ L s.heap m) (N : News h₀ L s.heap news) (hJ : J n₀ m news)
    (ev : ∀ Q' : Value → Shared → Prop, Q' (.ref I) s → wpAny (model prog w) A (eval (.Name yn py) env) Q' E s)
    (hI : (I, oI) ∈ news) (hc : oI.cls = .type "callable_iterator")
    (turn : ∀ n m₁ news₁ h₁ tk₁, Fr h₀ L h₁ m₁ → News h₀ L h₁ news₁ → J n m₁ news₁ → wpAny (model prog w) A (pyNext (.ref I)) (ForTurn prog w A env xn body E h₀ L s J Q n) E { s with heap := h₁, toks := tk₁ })
    (hs : ∀ x, foldedSetIterable (.Name yn py) env x = pure x := by intro _; rfl) (hE : PassesOwn (model prog w) A env E := by passes_own) :
    wpAny (model prog w) A (exec (.For (.Name xn px) (.Name yn py) body [] pos) env) Q E s := by
  refine wpAny_For (ev _ (ci_self (N _ hI).1 hc ?_)) hs
  refine codeAny_forLoop (R := fun r s' => match r with | .ok f => Q f s' | .error e => cameBackBy (model prog w) A env E e s') (fun n s' => ∃ h₁ tk₁ m₁ news₁, s' = { s with heap := h₁, toks := tk₁ } ∧ Fr h₀ L h₁ m₁ ∧ News h₀ L h₁ news₁ ∧ J n m₁ news₁) ?_ n₀ ⟨s.heap, s.toks, m, news, rfl, F, N, hJ⟩
  rintro n s' ⟨h₁, tk₁, m₁, news₁, rfl, F₁, N₁, J₁⟩
  refine wpAny_passesOwn hE (wpAny_mono (turn n m₁ news₁ h₁ tk₁ F₁ N₁ J₁) (fun r s₁ hr => ?_) fun _ _ z => z)
  cases r with
  | none => exact wpAny_execs_nil hr
  | some v =>
    refine wpAny_passesOwn hE (wpAny_assign_Name (wpAny_mono hr (fun _ s₂ h₂ => ?_) fun _ _ z => z))
    refine wpAny_passesOwn hE (wpAny_mono h₂ (fun f s₃ h₃ => ?_) fun _ _ z => z)
    cases f with
    | next =>
      obtain ⟨h', tk, m₂, news₂, n', rfl, F₂, N₂, hn, J₂⟩ := h₃
      exact ⟨n', hn, h', tk, m₂, news₂, rfl, F₂, N₂, J₂⟩
    | cont =>
      obtain ⟨h', tk, m₂, news₂, n', rfl, F₂, N₂, hn, J₂⟩ := h₃
      exact ⟨n', hn, h', tk, m₂, news₂, rfl, F₂, N₂, J₂⟩
    | brk => exact h₃
    | ret _ => exact h₃
end
end Mine
end
section
open PySem PySem.W PyProof.Rows PySem.Calls PySem.Spec PyProof PySem.Builtin PySem.Builtin.Str
set_option maxRecDepth 100000
namespace Mine
theorem gives_find4 (x y : Str) (i j : Int) (t u v v' : Tok) : Gives («str.find» ⟨[.str x t, .str y u, .int i v, .int j v'], []⟩) (.int (match occurrences x y (fromIndex x.length i) (min (fromIndex x.length j) x.length) 1 with | k :: _ => (k : Int) | [] => -1)) := by
  show Gives (match occurrences x y (fromIndex x.length i) (min (fromIndex x.length j) x.length) 1 with | k :: _ => retInt k | [] => (do rule "str.find.not-found"; retInt (-1))) _
  cases occurrences x y (fromIndex x.length i) (min (fromIndex x.length j) x.length) 1 with
  | nil => exact .rule (.of_eq rfl)
  | cons k _ => exact .of_eq rfl
theorem find4 {prog : Program} {w : World} {A : Around} {E : Value → Shared → Prop} {s : Shared} {x y : Str} {t u v v' : Tok} {p : Int} {n : Nat} {Q : Value → Shared → Prop} (hp : p = n) (hn : n ≤ x.length) (hy : y.length = 1)
    (h1 : Q (.int (-1) s.toks) { s with toks := s.toks + 1 }) (h2 : ∀ k : Nat, n ≤ k → k + 1 ≤ x.length → Q (.int (k : Int) s.toks) { s with toks := s.toks + 1 }) :
    wpAny (model prog w) A (call (.builtin "str.find") [.str x t, .str y u, .int p v, .int (x.length : Int) v']) Q E s := by
  refine call_gives F.slot_str_find (typeIs_str _ _ _) F.entry_str_find (F.args_str_find_4 _ _ _ _) (gives_find4 x y p (x.length : Int) t u v v') ?_
  have e1 : fromIndex x.length p = n := by unfold fromIndex; rw [hp]; omega
  have e2 : min (fromIndex x.length (x.length : Int)) x.length = x.length := by
    have : fromIndex x.length (x.length : Int) = x.length := by unfold fromIndex; omega
    rw [this, Nat.min_self]
  rw [e1, e2]
  have hc : ∃ f, StrLaws.ChainTo x y x.length n (occurrences x y n x.length 1) f := by
    rw [StrLaws.occ_eq]
    exact ⟨_, StrLaws.occ_chainTo x y x.length 1 n _ _ rfl⟩
  obtain ⟨f, hc⟩ := hc
  cases ho : occurrences x y n x.length 1 with
  | nil => exact h1
  | cons k r =>
    rw [ho] at hc
    refine h2 k hc.1 ?_
    have := hc.2.1
    unfold StrLaws.At at this
    have h9 := this.1
    omega
end Mine
end
section
open PySem PySem.W PyProof.Rows PySem.Calls PySem.Spec PyProof
set_option Elab.async false
set_option maxRecDepth 100000
set_option maxHeartbeats 8000000
namespace Mine
noncomputable def Lows (news : List (Addr × Obj)) (d : Addr) : Prop := ∀ p ∈ news, p.1 < d
noncomputable def NewBack (prog : Program) (w : World) (A : Around) (K : Frag) (C fI : Addr) (rest : List Value) (R : Result → Shared → Prop) (v : Value) (s₁ : Shared) : Prop :=
  ∃ x dx, v = .ref x ∧ s₁.heap.get? x = some (instObj C dx) ∧ K.In s₁.heap ∧ codeAny (model prog w) A (.call (.ref fI) ⟨.ref x :: rest, []⟩) (InitBack x R) s₁
section
variable {prog : Program} {w : World} {A : Around} {K : Frag} {C : Addr} {s : Shared} {h₀ : Heap} {L : Addr} {m : Str → Option Value} {news : List (Addr × Obj)} {R : Result → Shared → Prop}
theorem rules_R0_n : True := by
  w_top off
  k_with_none
  trivial
theorem make_own {rest : List Value} {fI : Addr} {fN : Value} {oc : Value} {od : Option Addr} {cd : ClassData} {sl : Array (Option Value)} (X : K.In s.heap) (hC : K.lookup C = some ⟨oc, od, .cls cd, sl⟩) (he : cd.mro.isEmpty = false)
    (hmade : Looks (model prog w) s.heap (Bind.madeBy (.ref C)) none) (hcall : specialIn K (.ref C) "__call__" = some (some (.builtin "type.__call__"))) (htyp : instIn K (.ref C) (.type "type") = some true) (hself : subIn K (.ref C) (.ref C) = some true)
    (hi : findIn K (.ref C) "__init__" = some (some (.ref fI))) (hf : typeIn K (.ref fI) = some (.type "function"))
    (hget : ∀ (A : Around) (Q : Value → Shared → Prop) (E : Value → Shared → Prop), Q fN { s with toks := s.toks + 1 } → wpAny (model prog w) A (getAttr (.ref C) "__new__") Q E s)
    (h : wpAny (model prog w) (A.under (.builtin "type.__call__" ⟨.ref C :: rest, []⟩)) (call fN (.ref C :: rest) []) (NewBack prog w (A.under (.builtin "type.__call__" ⟨.ref C :: rest, []⟩)) K C fI rest R) (fun e s' => R (.error e) s') { s with toks := s.toks + 1 }) :
    codeAny (model prog w) A (.call (.ref C) ⟨rest, []⟩) R s := by
  obtain ⟨hh, g, d, t, os⟩ := s
  have hC' := X _ _ hC
  have call := looks_specialIn (M := model prog w) X hcall
  have typ := looks_instIn (M := model prog w) X htyp
  refine codeAny_of_tree ?_
  show wpAny _ _ (callAny (.ref C) _) _ _ _
  refine nd_load hC' ?_
  show wpAny _ _ (callAny.viaDunder (.ref C) _) _ _ _
  unfold callAny.viaDunder
  refine wpAny_bind (call.at ?_)
  dsimp only
  rw [tc_bind]
  refine wpAny_bind (wpAny_pure (wpAny_bind (wpAny_pure ?_)))
  refine wpAny_pure (a := Fin.again (.call (.builtin "type.__call__") ⟨.ref C :: rest, []⟩)) (And.intro rfl ?_)
  refine codeAny_call_builtin_at (Code.quiet_builtin _ (by decide +kernel)) entry_typeCall (check_slot tc_kind tc_split typ (tc_args _ _ _) ?_)
  unfold Builtin.«type.__call__»
  have hm : Looks (model prog w) hh (mroOf (.ref C)) cd.mro := ((Looks.ld (part := none) hC').andThen .now).andThen .now
  dsimp only at h hget
  repeat ((fail_if_success (with_reducible show wpAny _ _ (PySem.call _ _ _) _ _ _)); (first | simp only [he, Bool.false_eq_true, if_false] | (with_reducible refine hget _ _ _ ?_) | lk))
  refine wpAny_mono h (fun v s₁ hb => ?_) (fun _ _ z => z)
  obtain ⟨x, dx, rfl, hx, X₁, hI⟩ := hb
  have ht : Looks (model prog w) s₁.heap (typeOf (.ref x)) (.ref C) := (Looks.ld hx).andThen .now
  have hins : Looks (model prog w) s₁.heap (isInstance (.ref x) (.ref C)) true := ht.andThen (looks_subIn X₁ hself)
  refine wpAny_bind (hins.here ?_)
  show wpAny _ _ (holding [.ref x] (callSpecial? (.ref x) "__init__" rest []) >>= _) _ _ _
  refine wpAny_bind (wpAny_holding ?_)
  unfold callSpecial? specialOf
  refine wpAny_bind (wpAny_bind (ht.here ((looks_findIn X₁ hi).here ?_)))
  dsimp only
  refine wpAny_holding (wpAny_bind ((bind_fn X₁ _ hf).here ?_))
  dsimp only
  refine wpAny_bind (wpAny_call ?_)
  refine codeAny_mono hI fun r s' z => ?_
  rcases r with e | (v | _ | _ | _) <;> first | exact z | exact z.elim | skip
  obtain ⟨rfl, z⟩ := z
  exact wpAny_pure (wpAny_pure z)

theorem new_tail {oc : Value} {od : Option Addr} {cd : ClassData} {sl : Array (Option Value)} {hh : Heap} {g : Array GenState} {d : Drawn} {t : Nat} {os : OsState} {Q : Fin → Shared → Prop} {E : Value → Shared → Prop} {k : Value → Sem Fin} (F : Fr h₀ L hh m) (N : News h₀ L hh news) (hC : hh.get? C = some ⟨oc, od, .cls cd, sl⟩) (hdel : cd.hasDel = false)
    (hk : ∀ x dx h', Fr h₀ L h' m → News h₀ L h' ((x, instObj C dx) :: (dx, dictOf [] 0) :: news) → Lows news dx → dx < x → wpAny (model prog w) A (k (.ref x)) Q E ⟨h', g, d, t, os⟩) :
    wpAny (model prog w) A ((some <$> alloc emptyDict) >>= fun r => newObj (.ref C) .plain r >>= k) Q E ⟨hh, g, d, t, os⟩ := by
  have F1 := F.push emptyDict
  have N1 : News h₀ L (hh.push emptyDict) ((hh.objs.size, emptyDict) :: news) := N.push F emptyDict
  have lo : Lows news hh.objs.size := fun p hp => Heap.lt_size (N p hp).1
  have up : hh.objs.size < (hh.push emptyDict).objs.size := by rw [Heap.size_push]; exact Nat.lt_succ_self _
  have hC2 := Heap.get?_push_of_some (instObj C hh.objs.size) (Heap.get?_push_of_some emptyDict hC)
  refine wpAny_bind ?_
  refine wpAny_bind (m := alloc emptyDict) (wpAny_alloc (wpAny_pure (wpAny_bind ?_)))
  show wpAny _ _ (newObjAsIs (.ref C) .plain (some hh.objs.size)) _ _ _
  simp only [newObjAsIs, classHasDel]
  refine wpAny_bind (wpAny_alloc (wpAny_bind (wpAny_bind (wpAny_load hC2 (wpAny_pure ?_)))))
  rw [hdel]
  exact wpAny_pure (hk _ _ _ (F1.push _) (N1.push F1 _) lo up)

theorem new_own {oc : Value} {od : Option Addr} {cd : ClassData} {sl : Array (Option Value)} (F : Fr h₀ L s.heap m) (N : News h₀ L s.heap news) (hC' : s.heap.get? C = some ⟨oc, od, .cls cd, sl⟩) (he : cd.mro.isEmpty = false) (e1 : cd.abstract = false) (e2 : cd.hasDel = false)
    (base : Looks (model prog w) s.heap (Bind.staticBase (.ref C)) (.type "object")) (made : Looks (model prog w) s.heap (Bind.madeBy (.type "object")) (some "object.__new__")) (typ : Looks (model prog w) s.heap (isInstance (.ref C) (.type "type")) true) (top : Looks (model prog w) s.heap (isSubtype (.ref C) (.type "object")) true) (self : Looks (model prog w) s.heap (isSubtype (.ref C) (.ref C)) true)
    (hq : ∀ x dx h', Fr h₀ L h' m → News h₀ L h' ((x, instObj C dx) :: (dx, dictOf [] 0) :: news) → Lows news dx → dx < x → R (.ok (.ret (.ref x))) { s with heap := h' }) :
    codeAny (model prog w) A (.call (.builtin "object.__new__") ⟨[.ref C], []⟩) R s := by
  obtain ⟨hh, g, d, t, os⟩ := s
  dsimp only at *
  have F0 := PySem.F.objNew
  refine codeAny_call_builtin_code (Code.quiet_builtin _ F0.quiet) ?_
  simp only [checkBuiltinCall, F0.kind, F0.split, F0.row]
  have args : Bind.checkArgs "object.__new__" ⟨.hand, "object.__new__", "__new__", .cls, []⟩ ⟨[.ref C], []⟩ = pure () := by kernel_rfl
  rw [args]
  repeat (first | simp only [bne_self_eq_false, Bool.false_eq_true, if_false] | lk)
  refine codeAny_builtin F0.entry ?_
  unfold Builtin.«object.__new__»
  repeat (first | simp only [e1, Bool.false_eq_true, if_false] | exact new_tail (k := fun v => ret v) F N hC' e2 (fun x dx h' a b c e => wpAny_pure (hq x dx h' a b c e)) | lk)
end
end Mine
end
section
open PySem PySem.W PyProof.Rows PySem.Calls PySem.Spec PyProof
set_option maxRecDepth 100000
set_option maxHeartbeats 4000000
namespace Mine
theorem owner_dq : Manifest.owners.lookup (String.ofList ['e','u','q','e','d','.','s','n','o','i','t','c','e','l','l','o','c'].reverse) = some Manifest.sig_collections_deque := by kernel_rfl
theorem slot_dq_init : Slot "collections.deque" "__init__" "collections.deque.__init__" :=
  .of (owner := "collections.deque") (n := "__init__") (by rw [typeLookup_type, builtinLookup_eq_fast]; kernel_rfl) (by decide +kernel) (by decide +kernel) (by decide +kernel)
    (by first | exact .inl (by decide +kernel) | exact .inr (by decide +kernel)) (by rw [isSubtype_type]; kernel_rfl)
theorem slot_dq_len : Slot "collections.deque" "__len__" "collections.deque.__len__" :=
  .of (owner := "collections.deque") (n := "__len__") (by rw [typeLookup_type, builtinLookup_eq_fast]; kernel_rfl) (by decide +kernel) (by decide +kernel) (by decide +kernel)
    (by first | exact .inl (by decide +kernel) | exact .inr (by decide +kernel)) (by rw [isSubtype_type]; kernel_rfl)
theorem entry_dq_len : entryFor table "collections.deque.__len__" = some Builtin.«collections.deque.__len__» := entryFor_of_tree (by kernel_rfl)
theorem entry_dq_init : entryFor table "collections.deque.__init__" = some Builtin.«collections.deque.__init__» := entryFor_of_tree (by kernel_rfl)
theorem entry_dq_new : entryFor table "collections.deque.__new__" = some Builtin.«collections.deque.__new__» := entryFor_of_tree (by kernel_rfl)
theorem args_dq_len (a : Value) : argsOk "collections.deque.__len__" ⟨[a], []⟩ := by
  unfold argsOk; rw [signature?_of (id := "collections.deque.__len__") (n := ['_', '_', 'n', 'e', 'l', '_', '_']) (o := ['e','u','q','e','d','.','s','n','o','i','t','c','e','l','l','o','c']) (by kernel_rfl) owner_dq]; kernel_rfl
theorem args_dq_init (a : Value) : argsOk "collections.deque.__init__" ⟨[a], []⟩ := by
  unfold argsOk; rw [signature?_of (id := "collections.deque.__init__") (n := ['_', '_', 't', 'i', 'n', 'i', '_', '_']) (o := ['e','u','q','e','d','.','s','n','o','i','t','c','e','l','l','o','c']) (by kernel_rfl) owner_dq]; kernel_rfl
theorem nobool_dq : typeLookup (.type "collections.deque") "__bool__" = pure none := by rw [typeLookup_type, builtinLookup_eq_fast]; kernel_rfl
theorem mro_dq : mroOf (.type "collections.deque") = pure [.type "collections.deque", .type "object"] := by rw [mroOf_type]; kernel_rfl
theorem lookup_dq_new : typeLookup (.type "collections.deque") "__new__" = pure (some (.builtin "collections.deque.__new__")) := by rw [typeLookup_type, builtinLookup_eq_fast]; kernel_rfl
theorem sub_dq : isSubtype (.type "collections.deque") (.type "collections.deque") = pure true := by rw [isSubtype_type]; kernel_rfl
theorem called_dq : TypeCalled "collections.deque" "collections.deque.__new__" "collections.deque.__init__" :=
  ⟨by decide +kernel, by decide +kernel, ⟨_, _, mro_dq⟩, madeBy_type mro_dq lookup_dq_new (by decide +kernel), by decide +kernel, by rw [isSubtype_type]; kernel_rfl, slot_dq_init⟩
theorem typeCall_dq : checkTypeCall "collections.deque" ⟨[], []⟩ = pure () := by kernel_rfl
theorem newCall_dq : checkBuiltinCall "collections.deque.__new__" ⟨[.type "collections.deque"], []⟩ = pure () := by kernel_rfl
theorem plain_dq_new : plainId "collections.deque.__new__" = true := by decide +kernel
noncomputable abbrev dqObj : Obj := { cls := .type "collections.deque", data := .fields #[.none, rawInt 0] }
section
variable {prog : Program} {w : World} {A : Around} {E : Value → Shared → Prop} {s : Shared} {h₀ : Heap} {L : Addr} {m : Str → Option Value} {news : List (Addr × Obj)} {I q : Addr} {f x : Value} {y : Str} {t : Tok}
theorem code_dq_new {Q₁ : Value → Shared → Prop} (h : Q₁ (.ref s.heap.objs.size) { s with heap := s.heap.push dqObj }) :
    codeAny (model prog w) A (.call (.builtin "collections.deque.__new__") ⟨[.type "collections.deque"], []⟩) (wants Q₁ E) s := by
  refine codeAny_of_tree ?_
  show wpAny _ A.in1 (do checkBuiltinCall "collections.deque.__new__" ⟨[.type "collections.deque"], []⟩; again (.builtin "collections.deque.__new__" ⟨[.type "collections.deque"], []⟩)) _ _ s
  refine wpAny_bind (wpAny_of_eq newCall_dq (wpAny_pure ⟨plainId_quiet plain_dq_new _, codeAny_builtin entry_dq_new ?_⟩))
  rw [Around.under_plainId plain_dq_new _]
  unfold Builtin.«collections.deque.__new__» Builtin.Deque.newArgs Builtin.Deque.new
  have hsub : isSubtype (.type "collections.deque") (.type Builtin.Deque.ty) = pure true := sub_dq
  have hd : typeHasDict (.type "collections.deque") = false := by decide +kernel
  have h0 : ¬ (#[] : Array Value).size > sizeLine := by unfold sizeLine; simp
  obtain ⟨hp, g, d, tk, os⟩ := s
  dsimp only
  refine wpAny_bind (wpAny_bind (m := isType _) (wpAny_of_eq (a := true) (by kernel_rfl) ?_))
  refine wpAny_bind (wpAny_of_eq hsub ?_)
  refine wpAny_pure ?_
  dsimp only
  simp only [h0, hd, if_false, Bool.false_eq_true]
  refine wpAny_bind (wpAny_bind (wpAny_pure ?_))
  refine wpAny_newObj_type ?_ (by size_fits)
  exact wpAny_pure h
theorem dq_made {Q : Value → Shared → Prop} (F : Fr h₀ L s.heap m) (N : News h₀ L s.heap news)
    (h : ∀ (x : Addr) h', Fr h₀ L h' m → News h₀ L h' ((x, dqObj) :: news) → (∀ p ∈ news, p.1 < x) → Q (.ref x) { s with heap := h' }) :
    wpAny (model prog w) A (call (.type "collections.deque") []) Q E s := by
  refine callType_codes (Q₁ := fun v s₁ => v = .ref s.heap.objs.size ∧ s₁ = { s with heap := s.heap.push dqObj }) called_dq typeCall_dq entry_dq_init (code_dq_new ⟨rfl, rfl⟩) ?_
  rintro obj s₁ ⟨rfl, rfl⟩
  have ho : (s.heap.push dqObj).get? s.heap.objs.size = some dqObj := Heap.get?_push_size _ rfl
  refine ⟨⟨_, ho, rfl⟩, args_dq_init _, ?_⟩
  have N1 := News.push F N dqObj rfl
  have F1 := F.push dqObj
  unfold Builtin.«collections.deque.__init__» Builtin.Deque.clear Builtin.Deque.items
  dsimp only
  refine wpAny_bind (m := setField _ _ _) (wpAny_setField_rec ho (by simp) fun h1 g1 s1 => ?_)
  refine wpAny_bind ?_
  refine wpAny_bind (wpAny_bind (wpAny_fieldsOf g1 rfl (wpAny_pure ?_)))
  show wpAny _ _ (if (0 : Nat) > 0 then _ else _) _ _ _
  rw [if_neg (by decide)]
  refine wpAny_pure ?_
  refine wpAny_pure ?_
  dsimp only
  refine ⟨rfl, h _ _ ?_ ?_ ?_⟩
  · exact ext_fr F1 (fun b o hb e => (s1.2 b hb).trans e) (N1 _ (.head _)).2.1 (N1 _ (.head _)).2.2
  · exact ext_newsI N1 (fun b o hb e => (s1.2 b hb).trans e) g1 (fun p hp => Nat.ne_of_lt (Heap.lt_size (N p hp).1))
  · exact fun p hp => Heap.lt_size (N p hp).1
theorem dq_truthy {Q : Bool → Shared → Prop} (ho : s.heap.get? I = some dqObj) (h : Q false { s with toks := s.toks + 1 + 1 }) : wpAny (model prog w) A (truthy (.ref I)) Q E s := by
  have hT : s.TypeIs (.ref I) "collections.deque" := ⟨_, ho, rfl⟩
  have key : wpAny (model prog w) A (runValue (.builtin "len" ⟨[.ref I], []⟩)) (fun r s' => r = .int 0 (s.toks + 1) ∧ Q false s') E s := by
    refine wpAny_runValue (codeAny_builtin entry_len ?_)
    rw [Around.under_plainId plain_len _]
    refine wpAny_mono (Q := fun fin s' => ∃ r, fin = .done (.ret r) ∧ (r = .int 0 (s.toks + 1) ∧ Q false s')) ?_ (fun fin s' h' => by obtain ⟨r, rfl, hq⟩ := h'; exact hq) fun _ _ e => e
    unfold Builtin.«len»
    refine wpAny_bind (m := oneArg "len" _) (wpAny_pure ?_)
    refine wpAny_bind (m := callSpecial? (.ref I) (Str.ofString "__len__")) (wpAny_callSpecial?_slot (name := Str.ofString "__len__") hT slot_dq_len
      (wpAny_call_entry slot_dq_len hT entry_dq_len ?_ (args_dq_len _)))
    unfold Builtin.«collections.deque.__len__» Builtin.Deque.size
    refine wpAny_bind (m := slotArgs _ _ _) (wpAny_pure ?_)
    refine wpAny_bind (wpAny_bind (wpAny_fieldsOf ho rfl (wpAny_pure ?_)))
    refine (wpAny_bind (wpAny_mkInt (wpAny_pure ⟨_, rfl, ?_⟩)))
    refine wpAny_bind (wpAny_holding (wpAny_pure ?_))
    refine wpAny_bind (wpAny_letGo ?_)
    exact wpAny_bind (wpAny_mkInt (wpAny_pure ⟨_, rfl, rfl, h⟩))
  refine wpAny_bind (wpAny_callSpecial?_none (name := Str.ofString "__bool__") hT nobool_dq (wpAny_bind (wpAny_specialOf (name := Str.ofString "__len__") hT slot_dq_len.lookup (wpAny_bind ?_))))
  exact wpAny_mono key (fun _ _ r => r.1 ▸ wpAny_pure r.2) fun _ _ e => e
theorem dq_true {Q : Bool → Shared → Prop} (N : News h₀ L s.heap news) (hm : (I, dqObj) ∈ news) (h : Q false { s with toks := s.toks + 1 + 1 }) : wpAny (model prog w) A (truthy (.ref I)) Q E s := dq_truthy (N _ hm).1 h
end
end Mine
end
section
open PySem PySem.W PyProof.Rows PySem.Calls PySem.Spec PyProof
set_option Elab.async false
set_option maxRecDepth 100000
set_option maxHeartbeats 8000000
namespace Mine
noncomputable abbrev sioE (w : World) (S : Str) (p : Int) (k1 k2 k3 k4 k5 k6 : Tok) : List DictEntry :=
  [⟨PyData.keyHash w.params "_StringIO__newline", .str "_StringIO__newline" k1, .str "\n" k2⟩, ⟨PyData.keyHash w.params "_StringIO__buf", .str "_StringIO__buf" k3, .str S k4⟩, ⟨PyData.keyHash w.params "_StringIO__pos", .str "_StringIO__pos" k5, .int p k6⟩]
theorem rules_C1_0 : True := by
  w_top off
  k_with_none
  (k_with "k tr" => (first | with_reducible assumption | (refine Nat.lt_trans (by with_reducible assumption) ?_; k_extra "k tr")))
  (k_with "k all" => assumption)
  (k_with "execs cons" => (k_here; first | (with_unfolding_all (refine gen_toks0 (Nat.succ_pos _) ?_); intro tk') | with_reducible refine execs_one ?_ | ((with_reducible refine wpAny_execs_cons ?_); (try dsimp only); try k_fold)))
  (k_with "storeName" => (k_here; k_dflt (refine' storeX_LL ?F ?N ?_ ?a ?b; (case F => k_asm); (case N => k_asm); (case a => rfl); (case b => rfl); k_whole); intro h' m' F' N'; (try k_sweep)))
  trivial
theorem c_read {w : World} {pg : Program} {loose : List Str} {mean : ExcName → Option Value} {mg mb : Str → Option Value}
  {dp un : Nat} {gd : Option (List Code)} {env : Env} {outer : List Env} {A₀ : Around} {base h₀ : Heap} {L : Addr} {m : Str → Option Value} {s : Shared} {Q E : Value → Shared → Prop}
  {S : Str} {p : Int} {n : Nat} (hp : p = n) {x dx : Addr} {k1 k2 k3 k4 k5 k6 u : Tok} {rest : List (Addr × Obj)} (hS : S.length ≤ 4000) (hn : n ≤ S.length) (hx : @LT.lt Nat _ dx x) (hoff : ∀ q ∈ rest, q.1 ≠ dx)
  (N : News h₀ L s.heap ((x, instObj 647 dx) :: (dx, dictOf (sioE w S p k1 k2 k3 k4 k5 k6) 3) :: rest))
  (B : Below A₀ base outer h₀) (F : Fr h₀ L s.heap m) (X : (Mine.K w.params).In h₀) (T : Top pg loose mean mg mb h₀) (hf : env.frame = some L) (hk : env.scope.kind = .function)
  (hdp : dp + 6 < recursionLimit) (hun : un + 60 < cLine)
  (hend : n = S.length → ∀ (t : Tok) (h' : Heap) (tk' : Nat), Fr h₀ L h' m → News h₀ L h' ((x, instObj 647 dx) :: (dx, dictOf (sioE w S p k1 k2 k3 k4 k5 k6) 3) :: rest) → Q (.str "" t) { s with heap := h', toks := tk' })
  (hch : ∀ c,  S.cps[n]? = some c → ∀ (k7 : Tok) (t : Tok) (h' : Heap) (tk' : Nat), Fr h₀ L h' m → News h₀ L h' ((x, instObj 647 dx) :: (dx, dictOf (sioE w S (p + 1) k1 k2 k3 k4 k5 k7) 3) :: rest) → Q (.str ⟨#[c]⟩ t) { s with heap := h', toks := tk' }) (foo : PySem.Challenge.rw_in0140_01.foot = 8) :
   wpAny (model PySem.Challenge.rw_in0140_01.row.prog w) (arnd dp un gd env outer) (call (.ref 593) [.ref x, .int 1 u]) Q E s := by
  revert foo X
  k_fill
  intro X foo
  clear foo
  refine wpAny_call ?_
  k_dflt ((refine' code_def ?k1 ?k2 ?k3 ?k4 ?k5 ?kA ?kF ?kK ?k6 ?k7 ?k8 ?k9 ?kB ?_ ?c2 ?c3 ?c4 ?c5); (case kA => exact rfl); (case kF => first | exact hf | exact rfl); (case kK => first | exact hk | exact rfl); (case k1 => k_asm); (case k2 => k_asm); (case k3 => k_asm); (case k4 => k_asm); (case k5 => k_asm); (case k6 => k_is); (case k7 => k_is); (case k8 => k_room); (case k9 => first | exact BindsTo.of_eq rfl | exact binds_K (by k_in) rfl (by k_is) rfl rfl rfl); (case c5 => decide); (case kB => exact locs rfl); (case c2 => exact rfl); (case c3 => exact rfl); (case c4 => exact rfl); k_whole; intro g' L' h' FG' F' N' B' X' T'; (try dsimp only); (try k_lift B'); (try k_fold))
  k_steps
  · exact hend (by omega) _ _ _ (by k_asm) (by k_asm)
  · obtain ⟨c, hc⟩ : ∃ c, S.cps[n]? = some c := by
      have : n < S.cps.size := by have e : S.length = S.cps.size := rfl; omega
      exact ⟨S.cps[n], Array.getElem?_eq_getElem this⟩
    rw [slice_cut (by decide +kernel), slice_one hc hp (by omega)]
    exact hch c hc _ _ _ _ (by k_asm) (by k_asm)
  · obtain ⟨c, hc⟩ : ∃ c, S.cps[n]? = some c := by
      have : n < S.cps.size := by have e : S.length = S.cps.size := rfl; omega
      exact ⟨S.cps[n], Array.getElem?_eq_getElem this⟩
    have hl : (S.length : Int) = p + 1 := by omega
    rw [slice_cut (by decide +kernel), slice_one hc hp (by omega)]
    (rename News _ _ _ _ => N9)
    rw [hl] at N9
    exact hch c hc _ _ _ _ (by k_asm) (by k_asm)
end Mine
end
section
open PySem PySem.W PyProof.Rows PySem.Calls PySem.Spec PyProof
set_option Elab.async false
set_option maxRecDepth 100000
set_option maxHeartbeats 8000000
namespace Mine
theorem rules_C2_0 : True := by
  w_top off
  k_with_none
  (k_with "k tr" => (first | with_reducible assumption | (refine Nat.lt_trans (by with_reducible assumption) ?_; k_extra "k tr")))
  (k_with "k all" => assumption)
  (k_with "execs cons" => (k_here; first | (with_unfolding_all (refine gen_toks0 (Nat.succ_pos _) ?_); intro tk') | with_reducible refine execs_one ?_ | ((with_reducible refine wpAny_execs_cons ?_); (try dsimp only); try k_fold)))
  (k_with "call builtin:str.replace" => (k_here; k_dflt (refine' rep_rule (hx := ?hx) (hy := ?hy) (hz := ?hz) ?hu ?hv ?huv ?hyz ?hb ?hb2 ?_); (case hx => first | exact lit_ap | exact rfl); (case hy => first | exact lit_bs | exact lit_nl | exact lit_tb | exact lit_ap); (case hz => first | exact lit_bs2 | exact lit_bn | exact lit_bt | exact lit_n | exact lit_t | exact lit_q5); (case hu => (show @Ne Nat _ _); (try dsimp only); omega); (case hv => (show @Ne Nat _ _); (try dsimp only); omega); (case huv => (show @Ne Nat _ _); (try dsimp only); omega); (case hyz => decide +kernel); (case hb => first | assumption | omega); (case hb2 => decide); intro t' k' hk'; (try dsimp only at hk')))
  (k_with "call builtin:repr" => (k_here; k_dflt (refine repr_of_str ?_ ?hsz); (case hsz => assumption)))
  trivial
theorem c_repr {w : World} {pg : Program} {loose : List Str} {mean : ExcName → Option Value} {mg mb : Str → Option Value}
  {dp un : Nat} {gd : Option (List Code)} {env : Env} {outer : List Env} {A₀ : Around} {base h₀ : Heap} {L : Addr} {m : Str → Option Value} {s : Shared} {Q E : Value → Shared → Prop}
  {wd : List Nat} {t : Tok} (hw : okw wd) {rest : List (Addr × Obj)} (N : News h₀ L s.heap rest)
  (B : Below A₀ base outer h₀) (F : Fr h₀ L s.heap m) (X : (Mine.K w.params).In h₀) (T : Top pg loose mean mg mb h₀) (hf : env.frame = some L) (hk : env.scope.kind = .function)
  (hdp : dp + 6 < recursionLimit) (hun : un + 60 < cLine)
  (hret : ∀ (t : Tok) (h' : Heap) (tk' : Nat), Fr h₀ L h' m → News h₀ L h' rest → Q (.str (tx (repL wd)) t) { s with heap := h', toks := tk' }) (foo : PySem.Challenge.rw_in0140_01.foot = 8) :
   wpAny (model PySem.Challenge.rw_in0140_01.row.prog w) (arnd dp un gd env outer) (call (.ref 52) [.str (tx wd) t]) Q E s := by
  revert foo X
  k_fill
  intro X foo
  clear foo
  refine wpAny_call ?_
  k_dflt ((refine' code_def ?k1 ?k2 ?k3 ?k4 ?k5 ?kA ?kF ?kK ?k6 ?k7 ?k8 ?k9 ?kB ?_ ?c2 ?c3 ?c4 ?c5); (case kA => exact rfl); (case kF => first | exact hf | exact rfl); (case kK => first | exact hk | exact rfl); (case k1 => k_asm); (case k2 => k_asm); (case k3 => k_asm); (case k4 => k_asm); (case k5 => k_asm); (case k6 => k_is); (case k7 => k_is); (case k8 => k_room); (case k9 => first | exact BindsTo.of_eq rfl | exact binds_K (by k_in) rfl (by k_is) rfl rfl rfl); (case c5 => decide); (case kB => exact locs rfl); (case c2 => exact rfl); (case c3 => exact rfl); (case c4 => exact rfl); k_whole; intro g' L' h' FG' F' N' B' X' T'; (try dsimp only); (try k_lift B'); (try k_fold))
  have hR : (reprText (tx wd)).length ≤ sizeLine := by
    have h1 := StrLaws.reprText_len (tx wd) (fun c hc => by have := okc_lt (hw.1 c (by simpa using hc)); omega)
    rw [tx_len wd] at h1
    have h2 := hw.2
    rw [sizeLine_eq]; omega
  k_steps
  all_goals (rw [reprText_ok hw.1]; exact hret _ _ _ (by k_asm) (by k_asm))
end Mine
end
section
open PySem PySem.W PyProof.Rows PySem.Calls PySem.Spec PyProof
set_option Elab.async false
set_option maxRecDepth 100000
set_option maxHeartbeats 8000000
namespace Mine
theorem rules_C3_0 : True := by
  w_top off
  k_with_none
  (k_with "k tr" => (first | with_reducible assumption | (refine Nat.lt_trans (by with_reducible assumption) ?_; k_extra "k tr")))
  (k_with "k all" => assumption)
  (k_with "execs cons" => (k_here; with_unfolding_all (refine gen_toks (Nat.succ_pos _) ?_); intro tk' htk'))
  (k_with "call builtin:str.replace" => (k_here; k_dflt (refine' rep_rule (hx := ?hx) (hy := ?hy) (hz := ?hz) ?hu ?hv ?huv ?hyz ?hb ?hb2 ?_); (case hx => first | exact lit_ap | exact rfl); (case hy => first | exact lit_bs | exact lit_nl | exact lit_tb | exact lit_ap); (case hz => first | exact lit_bs2 | exact lit_bn | exact lit_bt | exact lit_n | exact lit_t | exact lit_q5); (case hu => (show @Ne Nat _ _); (try dsimp only); omega); (case hv => (show @Ne Nat _ _); (try dsimp only); omega); (case huv => (show @Ne Nat _ _); (try dsimp only); omega); (case hyz => decide +kernel); (case hb => first | assumption | omega); (case hb2 => decide); intro t' k' hk'; (try dsimp only at hk')))
  (k_with "call builtin:repr" => (k_here; k_dflt (refine repr_of_str ?_ ?hsz); (case hsz => assumption)))
  trivial
theorem c_esc {w : World} {pg : Program} {loose : List Str} {mean : ExcName → Option Value} {mg mb : Str → Option Value}
  {dp un : Nat} {gd : Option (List Code)} {env : Env} {outer : List Env} {A₀ : Around} {base h₀ : Heap} {L : Addr} {m : Str → Option Value} {s : Shared} {Q E : Value → Shared → Prop}
  {x : Str} {wd : List Nat} {t : Tok} {b : Bool} (hx : x = tx wd) (hw : wd.length ≤ 6) {rest : List (Addr × Obj)} (N : News h₀ L s.heap rest)
  (B : Below A₀ base outer h₀) (F : Fr h₀ L s.heap m) (X : (Mine.K w.params).In h₀) (T : Top pg loose mean mg mb h₀) (hf : env.frame = some L) (hk : env.scope.kind = .function)
  (hdp : dp + 6 < recursionLimit) (hun : un + 60 < cLine)
  (hret : ∀ (t : Tok) (h' : Heap) (tk' : Nat), Fr h₀ L h' m → News h₀ L h' rest → Q (.str (tx (escL wd b)) t) { s with heap := h', toks := tk' }) (foo : PySem.Challenge.rw_in0140_01.foot = 8) :
   wpAny (model PySem.Challenge.rw_in0140_01.row.prog w) (arnd dp un gd env outer) (call (.ref 813) [.str x t, .bool b]) Q E s := by
  revert foo X
  k_fill
  intro X foo
  clear foo
  refine wpAny_call ?_
  k_dflt ((refine' code_def ?k1 ?k2 ?k3 ?k4 ?k5 ?kA ?kF ?kK ?k6 ?k7 ?k8 ?k9 ?kB ?_ ?c2 ?c3 ?c4 ?c5); (case kA => exact rfl); (case kF => first | exact hf | exact rfl); (case kK => first | exact hk | exact rfl); (case k1 => k_asm); (case k2 => k_asm); (case k3 => k_asm); (case k4 => k_asm); (case k5 => k_asm); (case k6 => k_is); (case k7 => k_is); (case k8 => k_room); (case k9 => first | exact BindsTo.of_eq rfl | exact binds_K (by k_in) rfl (by k_is) rfl rfl rfl); (case c5 => decide); (case kB => exact locs rfl); (case c2 => exact rfl); (case c3 => exact rfl); (case c4 => exact rfl); k_whole; intro g' L' h' FG' F' N' B' X' T'; (try dsimp only); (try k_lift B'); (try k_fold))
  subst hx
  have hb : wd.length ≤ 1000 := by omega
  have hb1 : (wd.flatMap (subC 92 [92, 92])).length ≤ 1000 := by have := sub_len 92 [92, 92] 2 (by decide) (by decide) wd; omega
  have hb2 : (wd.flatMap (subC 10 [92, 110])).length ≤ 1000 := by have := sub_len 10 [92, 110] 2 (by decide) (by decide) wd; omega
  have hb3 : ((wd.flatMap (subC 92 [92, 92])).flatMap (subC 10 [92, 110])).length ≤ 1000 := by
    have h1 := sub_len 92 [92, 92] 2 (by decide) (by decide) wd
    have h2 := sub_len 10 [92, 110] 2 (by decide) (by decide) (wd.flatMap (subC 92 [92, 92]))
    omega
  k_steps
  · (rename b = true => hb9); subst hb9
    rw [esc_true] at hret
    exact hret _ _ _ (by k_asm) (by k_asm)
  · (rename b = false => hb9); subst hb9
    rw [esc_false] at hret
    exact hret _ _ _ (by k_asm) (by k_asm)
end Mine
end
section
open PySem PySem.W PyProof.Rows PySem.Calls PySem.Spec PyProof
set_option Elab.async false
set_option maxRecDepth 100000
set_option maxHeartbeats 8000000
namespace Mine
theorem rules_C4_0 : True := by
  w_top off
  k_with_none
  (k_with "k tr" => (first | with_reducible assumption | (refine Nat.lt_trans (by with_reducible assumption) ?_; k_extra "k tr")))
  (k_with "k all" => assumption)
  (k_with "execs cons" => (k_here; with_unfolding_all (refine gen_toks (Nat.succ_pos _) ?_); intro tk' htk'))
  (k_with "call builtin:str.replace" => (k_here; k_dflt (refine' rep_rule (hx := ?hx) (hy := ?hy) (hz := ?hz) ?hu ?hv ?huv ?hyz ?hb ?hb2 ?_); (case hx => first | exact lit_ap | exact rfl); (case hy => first | exact lit_bs | exact lit_nl | exact lit_tb | exact lit_ap); (case hz => first | exact lit_bs2 | exact lit_bn | exact lit_bt | exact lit_n | exact lit_t | exact lit_q5); (case hu => (show @Ne Nat _ _); (try dsimp only); omega); (case hv => (show @Ne Nat _ _); (try dsimp only); omega); (case huv => (show @Ne Nat _ _); (try dsimp only); omega); (case hyz => decide +kernel); (case hb => first | assumption | omega); (case hb2 => decide); intro t' k' hk'; (try dsimp only at hk')))
  (k_with "call builtin:repr" => (k_here; k_dflt (refine repr_of_str ?_ ?hsz); (case hsz => assumption)))
  trivial
theorem c_net {w : World} {pg : Program} {loose : List Str} {mean : ExcName → Option Value} {mg mb : Str → Option Value}
  {dp un : Nat} {gd : Option (List Code)} {env : Env} {outer : List Env} {A₀ : Around} {base h₀ : Heap} {L : Addr} {m : Str → Option Value} {s : Shared} {Q E : Value → Shared → Prop}
  {wd : List Nat} {t : Tok} {b : Bool} (hw : wd.length ≤ 6) {rest : List (Addr × Obj)} (N : News h₀ L s.heap rest)
  (B : Below A₀ base outer h₀) (F : Fr h₀ L s.heap m) (X : (Mine.K w.params).In h₀) (T : Top pg loose mean mg mb h₀) (hf : env.frame = some L) (hk : env.scope.kind = .function)
  (hdp : dp + 6 < recursionLimit) (hun : un + 60 < cLine)
  (hret : ∀ (D : Addr) (t : Tok) (h' : Heap) (tk' : Nat), Fr h₀ L h' m → News h₀ L h' ((D, ({ cls := .type "tuple", data := .seq #[.str (tx (netL wd b).1) t, .bool (netL wd b).2] } : Obj)) :: rest) → (∀ q ∈ rest, q.1 < D) → Q (.ref D) { s with heap := h', toks := tk' }) (foo : PySem.Challenge.rw_in0140_01.foot = 8) :
   wpAny (model PySem.Challenge.rw_in0140_01.row.prog w) (arnd dp un gd env outer) (call (.ref 820) [.str (tx wd) t, .bool b]) Q E s := by
  revert foo X
  k_fill
  intro X foo
  clear foo
  refine wpAny_call ?_
  k_dflt ((refine' code_def ?k1 ?k2 ?k3 ?k4 ?k5 ?kA ?kF ?kK ?k6 ?k7 ?k8 ?k9 ?kB ?_ ?c2 ?c3 ?c4 ?c5); (case kA => exact rfl); (case kF => first | exact hf | exact rfl); (case kK => first | exact hk | exact rfl); (case k1 => k_asm); (case k2 => k_asm); (case k3 => k_asm); (case k4 => k_asm); (case k5 => k_asm); (case k6 => k_is); (case k7 => k_is); (case k8 => k_room); (case k9 => first | exact BindsTo.of_eq rfl | exact binds_K (by k_in) rfl (by k_is) rfl rfl rfl); (case c5 => decide); (case kB => exact locs rfl); (case c2 => exact rfl); (case c3 => exact rfl); (case c4 => exact rfl); k_whole; intro g' L' h' FG' F' N' B' X' T'; (try dsimp only); (try k_lift B'); (try k_fold))
  have hb1 : wd.length ≤ 1000 := by omega
  have hb2 : (wd.flatMap (subC 10 [110])).length ≤ 1000 := by have := sub_len 10 [110] 1 (by decide) (by decide) wd; omega
  k_steps
  all_goals (try simp only [lit_ap, lit_qt, in_tx, lit_ab, lit_e, strip_tx, not_beq_nil, Bool.not_eq_true', Bool.not_eq_false'] at *)
  · have e : netL wd b = ([39], false) := by unfold netL; simp_all
    rw [e] at hret
    exact hret _ _ _ _ (by k_asm) (by k_asm) (by assumption)
  · have e : netL wd b = (wd.map netC, true) := by unfold netL; simp_all
    rw [e, net_true] at hret
    exact hret _ _ _ _ (by k_asm) (by k_asm) (by assumption)
  · have e : netL wd b = ([39], false) := by unfold netL; simp_all
    rw [e] at hret
    exact hret _ _ _ _ (by k_asm) (by k_asm) (by assumption)
  · have e : netL wd b = (wd, true) := by unfold netL; simp_all
    rw [e] at hret
    exact hret _ _ _ _ (by k_asm) (by k_asm) (by assumption)
  · have e : netL wd b = ([39], false) := by unfold netL; simp_all
    rw [e] at hret
    exact hret _ _ _ _ (by k_asm) (by k_asm) (by assumption)
  · have e : netL wd b = ([39], false) := by unfold netL; simp_all
    rw [e] at hret
    exact hret _ _ _ _ (by k_asm) (by k_asm) (by assumption)
end Mine
end
section
open PySem PySem.W PyProof.Rows PySem.Calls PySem.Spec PyProof
set_option Elab.async false
set_option maxRecDepth 100000
set_option maxHeartbeats 8000000
namespace Mine
theorem rules_C5_0 : True := by
  w_top off
  k_with_none
  (k_with "k tr" => (first | with_reducible assumption | (refine Nat.lt_trans (by with_reducible assumption) ?_; k_extra "k tr")))
  (k_with "k all" => assumption)
  (k_with "execs cons" => (k_here; first | (with_unfolding_all (refine gen_toks0 (Nat.succ_pos _) ?_); intro tk') | with_reducible refine execs_one ?_ | ((with_reducible refine wpAny_execs_cons ?_); (try dsimp only); try k_fold)))
  (k_with "call builtin:str.replace" => (k_here; k_dflt (refine' rep_rule (hx := ?hx) (hy := ?hy) (hz := ?hz) ?hu ?hv ?huv ?hyz ?hb ?hb2 ?_); (case hx => first | exact lit_ap | exact rfl); (case hy => first | exact lit_bs | exact lit_nl | exact lit_tb | exact lit_ap); (case hz => first | exact lit_bs2 | exact lit_bn | exact lit_bt | exact lit_n | exact lit_t | exact lit_q5); (case hu => (show @Ne Nat _ _); (try dsimp only); omega); (case hv => (show @Ne Nat _ _); (try dsimp only); omega); (case huv => (show @Ne Nat _ _); (try dsimp only); omega); (case hyz => decide +kernel); (case hb => first | assumption | omega); (case hb2 => decide); intro t' k' hk'; (try dsimp only at hk')))
  (k_with "call builtin:repr" => (k_here; k_dflt (refine repr_of_str ?_ ?hsz); (case hsz => assumption)))
  (k_with "call ref" => (k_here; (with_reducible show wpAny _ _ (call (Value.ref 813) _) _ _ _); k_dflt (refine' c_esc (B := ?B) (F := ?F) (X := ?X) (T := ?T) (hf := ?hf) (hk := ?hk) (hdp := ?hdp) (hun := ?hun) (foo := ?foo) (hx := ?hx) (hw := ?hw) (N := ?N) (hret := ?_); (case B => k_asm); (case F => k_asm); (case X => k_asm); (case T => k_asm); (case hf => exact rfl); (case hk => exact rfl); (case hdp => k_room); (case hun => k_units); (case foo => exact rfl); (case hx => first | exact split_head (by assumption) (by assumption) | exact rfl); (case hw => first | assumption | exact Nat.le_trans (takeWhile_le _ _) (by assumption)); (case N => k_asm); k_whole); (all_goals (intros; (try dsimp only); (try k_sweep); (try k_fold)))))
  trivial
theorem c_she {w : World} {pg : Program} {loose : List Str} {mean : ExcName → Option Value} {mg mb : Str → Option Value}
  {dp un : Nat} {gd : Option (List Code)} {env : Env} {outer : List Env} {A₀ : Around} {base h₀ : Heap} {L : Addr} {m : Str → Option Value} {s : Shared} {Q E : Value → Shared → Prop}
  {wd : List Nat} {t : Tok} {b : Bool} (hw : wd.length ≤ 6) {rest : List (Addr × Obj)} (N : News h₀ L s.heap rest)
  (B : Below A₀ base outer h₀) (F : Fr h₀ L s.heap m) (X : (Mine.K w.params).In h₀) (T : Top pg loose mean mg mb h₀) (hf : env.frame = some L) (hk : env.scope.kind = .function)
  (hdp : dp + 16 < recursionLimit) (hun : un + 160 < cLine)
  (hret : ∀ (D : Addr) (t : Tok) (h' : Heap) (tk' : Nat), Fr h₀ L h' m → News h₀ L h' ((D, ({ cls := .type "tuple", data := .seq #[.str (tx (sheL wd b).1) t, .bool (sheL wd b).2] } : Obj)) :: rest) → (∀ q ∈ rest, q.1 < D) → Q (.ref D) { s with heap := h', toks := tk' }) (foo : PySem.Challenge.rw_in0140_01.foot = 8) :
   wpAny (model PySem.Challenge.rw_in0140_01.row.prog w) (arnd dp un gd env outer) (call (.ref 827) [.str (tx wd) t, .bool b]) Q E s := by
  revert foo X
  k_fill
  intro X foo
  clear foo
  refine wpAny_call ?_
  k_dflt ((refine' code_def ?k1 ?k2 ?k3 ?k4 ?k5 ?kA ?kF ?kK ?k6 ?k7 ?k8 ?k9 ?kB ?_ ?c2 ?c3 ?c4 ?c5); (case kA => exact rfl); (case kF => first | exact hf | exact rfl); (case kK => first | exact hk | exact rfl); (case k1 => k_asm); (case k2 => k_asm); (case k3 => k_asm); (case k4 => k_asm); (case k5 => k_asm); (case k6 => k_is); (case k7 => k_is); (case k8 => k_room); (case k9 => first | exact BindsTo.of_eq rfl | exact binds_K (by k_in) rfl (by k_is) rfl rfl rfl); (case c5 => decide); (case kB => exact locs rfl); (case c2 => exact rfl); (case c3 => exact rfl); (case c4 => exact rfl); k_whole; intro g' L' h' FG' F' N' B' X' T'; (try dsimp only); (try k_lift B'); (try k_fold))
  have hb1 : wd.length ≤ 1000 := by omega
  have hb2 : (tx (escL (wd.takeWhile (fun x => x != 39)) true)).length ≤ 12 := by
    have h1 := takeWhile_le (fun x => x != 39) wd
    have h2 := escL_len true (wd.takeWhile (fun x => x != 39))
    rw [tx_len]; omega
  k_steps
  all_goals (try simp only [lit_ap, lit_qt, lit_bs, tx_app, in_tx, Bool.not_eq_true', Bool.not_eq_false', Bool.not_not] at *)
  · have e : sheL wd b = (escL wd true, true) := by unfold sheL; simp_all
    rw [e] at hret
    (rename News _ _ _ _ => N9)
    have e9 : (!wd.contains 39) = true := by simp_all
    rw [e9] at N9
    first | exact hret _ _ _ _ (by k_asm) (by k_asm) (by assumption)
  · have e : sheL wd b = (escL wd false, true) := by unfold sheL; simp_all
    rw [e] at hret
    (rename News _ _ _ _ => N9)
    have e9 : (!wd.contains 39) = false := by simp_all
    rw [e9] at N9
    first | exact hret _ _ _ _ (by k_asm) (by k_asm) (by assumption)
  · have e : sheL wd b = (escL (wd.takeWhile (· != 39)) true ++ [92], false) := by unfold sheL; simp_all
    rw [e] at hret
    (rename News _ _ _ _ => N9); (rename _ ∧ AllLt _ _ => l9)
    exact hret _ _ _ _ (by k_asm) (news_tl2 N9) (allLt_all l9.2)
  · have e : sheL wd b = (wd, true) := by unfold sheL; simp_all
    rw [e] at hret
    first | exact hret _ _ _ _ (by k_asm) (by k_asm) (by assumption)
end Mine
end
section
open PySem PySem.W PyProof.Rows PySem.Calls PySem.Spec PyProof
set_option Elab.async false
set_option maxRecDepth 100000
set_option maxHeartbeats 8000000
namespace Mine
noncomputable abbrev nlxE (w : World) (ln : Int) (x1 pb : Addr) (k0 k1 k2 k3 k4 k5 k6 : Tok) : List DictEntry :=
  [⟨PyData.keyHash w.params "lineno", .str "lineno" k0, .int ln k1⟩, ⟨PyData.keyHash w.params "instream", .str "instream" k2, .ref x1⟩, ⟨PyData.keyHash w.params "whitespace", .str "whitespace" k3, .str "\n\t\x0d " k4⟩, ⟨PyData.keyHash w.params "pushback", .str "pushback" k5, .ref pb⟩]
noncomputable abbrev nl1E (w : World) (f pb : Addr) (k0 k1 k2 k3 k4 k5 k6 k7 : Tok) : List DictEntry :=
  [⟨PyData.keyHash w.params "lineno", .str "lineno" k0, .int 1 k1⟩, ⟨PyData.keyHash w.params "instream", .str "instream" k2, .none⟩, ⟨PyData.keyHash w.params "whitespace", .str "whitespace" k3, .str "\n\t\x0d " k4⟩, ⟨PyData.keyHash w.params "pushback", .str "pushback" k5, .ref pb⟩, ⟨PyData.keyHash w.params "read", .str "read" k6, .ref f⟩]
noncomputable def GiveCtr (w : World) (f : Addr) (fo : Obj) (c : Addr) (oc : Obj) (cp : Addr) (op : Obj) (ct : Addr) (ot : Obj) (lp : Addr) (S : Str) : Prop :=
  (∃ fd, fo.data = .func fd) ∧ ∀ (pg : Program) (loose : List Str) (mean : ExcName → Option Value) (mg mb : Str → Option Value)
  (dp un : Nat) (gd : Option (List Code)) (env : Env) (outer : List Env) (A₀ : Around) (base h₀ : Heap) (L : Addr) (m : Str → Option Value) (s : Shared) (Q E : Value → Shared → Prop) (p : Int) (n : Nat) (tp u : Tok) (rest : List (Addr × Obj)),
  Below A₀ base outer h₀ → Fr h₀ L s.heap m → (Mine.K w.params).In h₀ → Top pg loose mean mg mb h₀ → env.frame = some L → env.scope.kind = .function → dp + 3 < recursionLimit → un + 40 < cLine →
  (∀ q ∈ rest, q.1 ≠ lp) → p = n → n ≤ S.length → News h₀ L s.heap ((lp, W.listOf #[.int p tp] 0) :: (f, fo) :: (c, oc) :: (cp, op) :: (ct, ot) :: rest) →
  (n = S.length → ∀ (tp' : Tok) (t : Tok) (h' : Heap) (tk' : Nat), Fr h₀ L h' m → News h₀ L h' ((lp, W.listOf #[.int p tp'] 0) :: (f, fo) :: (c, oc) :: (cp, op) :: (ct, ot) :: rest) → Q (.str "" t) { s with heap := h', toks := tk' }) →
  (∀ ch, S.cps[n]? = some ch → ∀ (tp' : Tok) (t : Tok) (h' : Heap) (tk' : Nat), Fr h₀ L h' m → News h₀ L h' ((lp, W.listOf #[.int (p + 1) tp'] 0) :: (f, fo) :: (c, oc) :: (cp, op) :: (ct, ot) :: rest) → Q (.str ⟨#[ch]⟩ t) { s with heap := h', toks := tk' }) →
  wpAny (model PySem.Challenge.rw_in0140_01.row.prog w) (arnd dp un gd env outer) (call (.ref f) [.int 1 u]) Q E s
theorem rules_C6_0 : True := by
  w_top off
  k_with_none
  (k_with "k tr" => (first | with_reducible assumption | (refine Nat.lt_trans (by with_reducible assumption) ?_; k_extra "k tr")))
  (k_with "k all" => assumption)
  (k_with "execs cons" => (k_here; first | (with_unfolding_all (refine gen_toks0 (Nat.succ_pos _) ?_); intro tk') | with_reducible refine execs_one ?_ | ((with_reducible refine wpAny_execs_cons ?_); (try dsimp only); try k_fold)))
  (k_with "call builtin:str.replace" => (k_here; k_dflt (refine' rep_rule (hx := ?hx) (hy := ?hy) (hz := ?hz) ?hu ?hv ?huv ?hyz ?hb ?hb2 ?_); (case hx => first | exact lit_ap | exact rfl); (case hy => first | exact lit_bs | exact lit_nl | exact lit_tb | exact lit_ap); (case hz => first | exact lit_bs2 | exact lit_bn | exact lit_bt | exact lit_n | exact lit_t | exact lit_q5); (case hu => (show @Ne Nat _ _); (try dsimp only); omega); (case hv => (show @Ne Nat _ _); (try dsimp only); omega); (case huv => (show @Ne Nat _ _); (try dsimp only); omega); (case hyz => decide +kernel); (case hb => first | assumption | omega); (case hb2 => decide); intro t' k' hk'; (try dsimp only at hk')))
  (k_with "call builtin:repr" => (k_here; k_dflt (refine repr_of_str ?_ ?hsz); (case hsz => assumption)))
  trivial
theorem fnAt_of {h₀ h : Heap} {L f : Addr} {fo : Obj} {news : List (Addr × Obj)} (N : News h₀ L h news) (hm : (f, fo) ∈ news) (hf : ∃ fd, fo.data = .func fd) : FnAt f h := by
  obtain ⟨fd, e⟩ := hf
  obtain ⟨a, b, c, d⟩ := fo
  cases e
  exact ⟨a, b, fd, d, (N _ hm).1⟩
theorem rules_C6_1 : True := by
  w_top off
  k_with_none
  (k_with "k tr" => (first | with_reducible assumption | (refine Nat.lt_trans (by with_reducible assumption) ?_; k_extra "k tr")))
  (k_with "k all" => assumption)
  (k_with "execs cons" => (k_here; first | (with_unfolding_all (refine gen_toks0 (Nat.succ_pos _) ?_); intro tk') | with_reducible refine execs_one ?_ | ((with_reducible refine wpAny_execs_cons ?_); (try dsimp only); try k_fold)))
  (k_with "call builtin:str.replace" => (k_here; k_dflt (refine' rep_rule (hx := ?hx) (hy := ?hy) (hz := ?hz) ?hu ?hv ?huv ?hyz ?hb ?hb2 ?_); (case hx => first | exact lit_ap | exact rfl); (case hy => first | exact lit_bs | exact lit_nl | exact lit_tb | exact lit_ap); (case hz => first | exact lit_bs2 | exact lit_bn | exact lit_bt | exact lit_n | exact lit_t | exact lit_q5); (case hu => (show @Ne Nat _ _); (try dsimp only); omega); (case hv => (show @Ne Nat _ _); (try dsimp only); omega); (case huv => (show @Ne Nat _ _); (try dsimp only); omega); (case hyz => decide +kernel); (case hb => first | assumption | omega); (case hb2 => decide); intro t' k' hk'; (try dsimp only at hk')))
  (k_with "call builtin:repr" => (k_here; k_dflt (refine repr_of_str ?_ ?hsz); (case hsz => assumption)))
  (k_with "callWith ref" => (k_here; k_dflt (refine' callWith_F ?k1 ?_; (case k1 => exact fnAt_of (by k_asm) (by k_mem) (by assumption)); k_whole)))
  (k_with "FnAt" => (k_dflt (exact fnAt_of (by k_asm) (by k_mem) (by assumption))))
  (k_with "call ref" => (k_here; (rename GiveCtr _ _ _ _ _ _ _ _ _ _ _ => hG9); k_dflt (refine' (hG9.2 _ _ _ _ _ _ _ _ _ _ _ _ _ _ _ _ _ _ _ _ _ _ _ ?kB ?kF ?kX ?kT ?hf ?hk ?hd ?hu ?off ?hp ?hn ?kN ?_ ?_); (case kB => k_asm); (case kF => k_asm); (case kX => k_asm); (case kT => k_asm); (case hf => exact rfl); (case hk => exact rfl); (case hd => k_room); (case hu => k_units); (case kN => (refine' Picks.news (ps := [_, _, _, _, _]) ?_ (by k_asm); repeat' (first | exact Picks.nil | refine' Picks.cons ?_ ?_ | exact Pick.head | refine' Pick.tail ?_))); (case off => k_all); (case hp => assumption); (case hn => assumption); k_whole); (all_goals (intros; (try dsimp only); (try k_sweep); (try k_fold)))))
  trivial
theorem c_rdc {w : World} {pg : Program} {loose : List Str} {mean : ExcName → Option Value} {mg mb : Str → Option Value}
  {dp un : Nat} {gd : Option (List Code)} {env : Env} {outer : List Env} {A₀ : Around} {base h₀ : Heap} {L : Addr} {m : Str → Option Value} {s : Shared} {R : Result → Shared → Prop}
  {x d lp f c cp ct x1 d1 pb pb1 : Addr} {fo oc op ot : Obj} {ln : Int} {k0 k1 k2 k3 k4 k5 k6 tp j0 j1 j2 j3 j4 j5 j6 j7 : Tok} {S : Str} {n : Nat} {p : Int} (hg : GiveCtr w f fo c oc cp op ct ot lp S) (hp : p = n) (hn : n ≤ S.length) {rest : List (Addr × Obj)}
  (o1 : @LT.lt Nat _ ct cp) (o2 : @LT.lt Nat _ cp lp) (o3 : @LT.lt Nat _ lp d1) (o4 : @LT.lt Nat _ d1 x1) (o5 : @LT.lt Nat _ x1 c) (o6 : @LT.lt Nat _ c f) (o7 : @LT.lt Nat _ f d) (o8 : @LT.lt Nat _ d x) (off1 : ∀ q ∈ rest, q.1 ≠ d) (off2 : ∀ q ∈ rest, q.1 ≠ lp) (N : News h₀ L s.heap ((x, instObj 90 d) :: (d, dictOf (nlxE w ln x1 pb k0 k1 k2 k3 k4 k5 k6) 4) :: (lp, W.listOf #[.int p tp] 0) :: (f, fo) :: (c, oc) :: (cp, op) :: (ct, ot) :: (x1, instObj 90 d1) :: (d1, dictOf (nl1E w f pb1 j0 j1 j2 j3 j4 j5 j6 j7) 5) :: rest))
  (B : Below A₀ base outer h₀) (F : Fr h₀ L s.heap m) (X : (Mine.K w.params).In h₀) (T : Top pg loose mean mg mb h₀) (hf : env.frame = some L) (hk : env.scope.kind = .function)
  (hdp : dp + 8 < recursionLimit) (hun : un + 80 < cLine)
  (hend : n = S.length → ∀ (tp' : Tok) (t : Tok) (h' : Heap) (tk' : Nat), Fr h₀ L h' m → News h₀ L h' ((x, instObj 90 d) :: (d, dictOf (nlxE w ln x1 pb k0 k1 k2 k3 k4 k5 k6) 4) :: (lp, W.listOf #[.int p tp'] 0) :: (f, fo) :: (c, oc) :: (cp, op) :: (ct, ot) :: (x1, instObj 90 d1) :: (d1, dictOf (nl1E w f pb1 j0 j1 j2 j3 j4 j5 j6 j7) 5) :: rest) → R (.ok (.ret (.str "" t))) { s with heap := h', toks := tk' })
  (hch : ∀ ch, S.cps[n]? = some ch → ∀ (ln' : Int) (k1' tp' : Tok) (t : Tok) (h' : Heap) (tk' : Nat), Fr h₀ L h' m → News h₀ L h' ((x, instObj 90 d) :: (d, dictOf (nlxE w ln' x1 pb k0 k1' k2 k3 k4 k5 k6) 4) :: (lp, W.listOf #[.int (p + 1) tp'] 0) :: (f, fo) :: (c, oc) :: (cp, op) :: (ct, ot) :: (x1, instObj 90 d1) :: (d1, dictOf (nl1E w f pb1 j0 j1 j2 j3 j4 j5 j6 j7) 5) :: rest) → R (.ok (.ret (.str ⟨#[ch]⟩ t))) { s with heap := h', toks := tk' }) (foo : PySem.Challenge.rw_in0140_01.foot = 8) :
   codeAny (model PySem.Challenge.rw_in0140_01.row.prog w) (arnd dp un gd env outer) (.call (.ref 73) ⟨[.ref x], []⟩) R s := by
  revert foo X
  k_fill
  intro X foo
  clear foo
  k_dflt ((refine' code_def ?k1 ?k2 ?k3 ?k4 ?k5 ?kA ?kF ?kK ?k6 ?k7 ?k8 ?k9 ?kB ?_ ?c2 ?c3 ?c4 ?c5); (case kA => exact rfl); (case kF => first | exact hf | exact rfl); (case kK => first | exact hk | exact rfl); (case k1 => k_asm); (case k2 => k_asm); (case k3 => k_asm); (case k4 => k_asm); (case k5 => k_asm); (case k6 => k_is); (case k7 => k_is); (case k8 => k_room); (case k9 => first | exact BindsTo.of_eq rfl | exact binds_K (by k_in) rfl (by k_is) rfl rfl rfl); (case c5 => decide); (case kB => exact locs rfl); (case c2 => exact rfl); (case c3 => exact rfl); (case c4 => exact rfl); k_whole; intro g' L' h' FG' F' N' B' X' T'; (try dsimp only); (try k_lift B'); (try k_fold))
  have hfd := hg.1
  k_steps
  · refine' hend (by assumption) _ _ _ _ (by k_asm) ?_
    all_goals (try (refine' Picks.news (ps := [_, _, _, _, _, _, _, _, _]) ?_ (by k_asm); repeat' (first | exact Picks.nil | refine' Picks.cons ?_ ?_ | exact Pick.head | refine' Pick.tail ?_)))
  · refine' hch _ (by assumption) _ _ _ _ _ _ (by k_asm) ?_
    all_goals (try (refine' Picks.news (ps := [_, _, _, _, _, _, _, _, _]) ?_ (by k_asm); repeat' (first | exact Picks.nil | refine' Picks.cons ?_ ?_ | exact Pick.head | refine' Pick.tail ?_)))
  · refine' hch _ (by assumption) _ _ _ _ _ _ (by k_asm) ?_
    all_goals (try (refine' Picks.news (ps := [_, _, _, _, _, _, _, _, _]) ?_ (by k_asm); repeat' (first | exact Picks.nil | refine' Picks.cons ?_ ?_ | exact Pick.head | refine' Pick.tail ?_)))
end Mine
end
section
open PySem PySem.W PyProof.Rows PySem.Calls PySem.Spec PyProof
set_option Elab.async false
set_option maxRecDepth 100000
set_option maxHeartbeats 8000000
namespace Mine

noncomputable def isWs (c : Nat) : Bool := c == 10 || c == 9 || c == 13 || c == 32
mutual
noncomputable def nq (tok : List Nat) : List Nat → List Nat × List Nat
  | [] => (tok, [])
  | c :: r => if c = 34 then (tok, r) else if c = 92 then nqe tok r else nq (tok ++ [c]) r
noncomputable def nqe (tok : List Nat) : List Nat → List Nat × List Nat
  | [] => (tok, [])
  | d :: r => nq (tok ++ [d]) r
end
mutual
noncomputable def nw (tok : List Nat) : List Nat → List Nat × List Nat
  | [] => (tok, [])
  | c :: r => if isWs c = true then (tok, r) else if c = 92 then nwe tok r else nw (tok ++ [c]) r
noncomputable def nwe (tok : List Nat) : List Nat → List Nat × List Nat
  | [] => (tok, [])
  | d :: r => nw (tok ++ [d]) r
end
noncomputable def ntok : List Nat → List Nat × List Nat
  | [] => ([], [])
  | c :: r => if isWs c = true then ntok r else if c = 34 then nq [] r else if c = 92 then nwe [] r else nw [c] r
inductive NlA (w : World) (h₀ : Heap) (L : Addr) (s : Shared) (m₀ : Str → Option Value) (S : Str) (I q x d lp f c cp ct x1 d1 pb pb1 : Addr) (fo oc op ot : Obj) (ti k0 k2 k3 k4 k5 k6 j0 j1 j2 j3 j4 j5 j6 j7 : Tok) (rest : List (Addr × Obj)) (Ga : List Nat → List Nat → Prop) (Ge : List Nat → Prop) (n0 : Nat) (h' : Heap) (tok : List Nat) : Prop
  | mk (n' : Nat) (p' ln' : Int) (k1' tp' : Tok) (r0 : p' = (n' : Int)) (r1 : n0 ≤ n') (r2 : n' ≤ S.length) (r3 : News h₀ L h' ((I, ciObj (.ref q) "" ti false) :: (q, methodObj (.ref 73) (.ref x)) :: (x, instObj 90 d) :: (d, dictOf (nlxE w ln' x1 pb k0 k1' k2 k3 k4 k5 k6) 4) :: (lp, W.listOf #[.int p' tp'] 0) :: (f, fo) :: (c, oc) :: (cp, op) :: (ct, ot) :: (x1, instObj 90 d1) :: (d1, dictOf (nl1E w f pb1 j0 j1 j2 j3 j4 j5 j6 j7) 5) :: (pb, W.listOf #[] 0) :: rest)) (r4 : Ga tok (S.cps.toList.drop n')) : NlA w h₀ L s m₀ S I q x d lp f c cp ct x1 d1 pb pb1 fo oc op ot ti k0 k2 k3 k4 k5 k6 j0 j1 j2 j3 j4 j5 j6 j7 rest Ga Ge n0 h' tok
inductive NlB (w : World) (h₀ : Heap) (L : Addr) (s : Shared) (m₀ : Str → Option Value) (S : Str) (I q x d lp f c cp ct x1 d1 pb pb1 : Addr) (fo oc op ot : Obj) (ti k0 k2 k3 k4 k5 k6 j0 j1 j2 j3 j4 j5 j6 j7 : Tok) (rest : List (Addr × Obj)) (Ga : List Nat → List Nat → Prop) (Ge : List Nat → Prop) (h' : Heap) (tok : List Nat) : Prop
  | mk (p' ln' : Int) (k1' tp' : Tok) (r0 : p' = (S.length : Int)) (r1 : News h₀ L h' ((I, ciEnd) :: (q, methodObj (.ref 73) (.ref x)) :: (x, instObj 90 d) :: (d, dictOf (nlxE w ln' x1 pb k0 k1' k2 k3 k4 k5 k6) 4) :: (lp, W.listOf #[.int p' tp'] 0) :: (f, fo) :: (c, oc) :: (cp, op) :: (ct, ot) :: (x1, instObj 90 d1) :: (d1, dictOf (nl1E w f pb1 j0 j1 j2 j3 j4 j5 j6 j7) 5) :: (pb, W.listOf #[] 0) :: rest)) (r2 : Ge tok) : NlB w h₀ L s m₀ S I q x d lp f c cp ct x1 d1 pb pb1 fo oc op ot ti k0 k2 k3 k4 k5 k6 j0 j1 j2 j3 j4 j5 j6 j7 rest Ga Ge h' tok
inductive NlCon (w : World) (h₀ : Heap) (L : Addr) (s : Shared) (m₀ : Str → Option Value) (S : Str) (I q x d lp f c cp ct x1 d1 pb pb1 : Addr) (fo oc op ot : Obj) (ti k0 k2 k3 k4 k5 k6 j0 j1 j2 j3 j4 j5 j6 j7 : Tok) (rest : List (Addr × Obj)) (Ga : List Nat → List Nat → Prop) (Ge : List Nat → Prop) (n0 : Nat) (s₃ : Shared) : Prop
  | mk (h' : Heap) (tk : Nat) (m' : Str → Option Value) (tok : List Nat) (tt : Tok) (he : s₃ = { s with heap := h', toks := tk }) (hF : Fr h₀ L h' m') (ha : m' (Str.ofString "token") = some (.str (tx tok) tt)) (hb : (∀ z, z ≠ Str.ofString "token" → z ≠ Str.ofString "ch" → m' z = m₀ z)) (hab : NlA w h₀ L s m₀ S I q x d lp f c cp ct x1 d1 pb pb1 fo oc op ot ti k0 k2 k3 k4 k5 k6 j0 j1 j2 j3 j4 j5 j6 j7 rest Ga Ge n0 h' tok ∨ NlB w h₀ L s m₀ S I q x d lp f c cp ct x1 d1 pb pb1 fo oc op ot ti k0 k2 k3 k4 k5 k6 j0 j1 j2 j3 j4 j5 j6 j7 rest Ga Ge h' tok) : NlCon w h₀ L s m₀ S I q x d lp f c cp ct x1 d1 pb pb1 fo oc op ot ti k0 k2 k3 k4 k5 k6 j0 j1 j2 j3 j4 j5 j6 j7 rest Ga Ge n0 s₃
inductive NlIA (w : World) (h₀ : Heap) (L : Addr) (s : Shared) (m₀ : Str → Option Value) (S : Str) (I q x d lp f c cp ct x1 d1 pb pb1 : Addr) (fo oc op ot : Obj) (ti k0 k2 k3 k4 k5 k6 j0 j1 j2 j3 j4 j5 j6 j7 : Tok) (rest : List (Addr × Obj)) (Ga : List Nat → List Nat → Prop) (Ge : List Nat → Prop) (k : Nat) (news₁ : List (Addr × Obj)) (tok : List Nat) (p' ln' : Int) (k1' tp' : Tok) : Prop
  | mk (n' : Nat) (r0 : p' = (n' : Int)) (r1 : k = S.length - n' + 1) (r2 : n' ≤ S.length) (r3 : news₁ = ((I, ciObj (.ref q) "" ti false) :: (q, methodObj (.ref 73) (.ref x)) :: (x, instObj 90 d) :: (d, dictOf (nlxE w ln' x1 pb k0 k1' k2 k3 k4 k5 k6) 4) :: (lp, W.listOf #[.int p' tp'] 0) :: (f, fo) :: (c, oc) :: (cp, op) :: (ct, ot) :: (x1, instObj 90 d1) :: (d1, dictOf (nl1E w f pb1 j0 j1 j2 j3 j4 j5 j6 j7) 5) :: (pb, W.listOf #[] 0) :: rest)) (r4 : Ga tok (S.cps.toList.drop n')) : NlIA w h₀ L s m₀ S I q x d lp f c cp ct x1 d1 pb pb1 fo oc op ot ti k0 k2 k3 k4 k5 k6 j0 j1 j2 j3 j4 j5 j6 j7 rest Ga Ge k news₁ tok p' ln' k1' tp'
inductive NlIB (w : World) (h₀ : Heap) (L : Addr) (s : Shared) (m₀ : Str → Option Value) (S : Str) (I q x d lp f c cp ct x1 d1 pb pb1 : Addr) (fo oc op ot : Obj) (ti k0 k2 k3 k4 k5 k6 j0 j1 j2 j3 j4 j5 j6 j7 : Tok) (rest : List (Addr × Obj)) (Ga : List Nat → List Nat → Prop) (Ge : List Nat → Prop) (k : Nat) (news₁ : List (Addr × Obj)) (tok : List Nat) (p' ln' : Int) (k1' tp' : Tok) : Prop
  | mk (r0 : p' = (S.length : Int)) (r1 : k = 0) (r2 : news₁ = ((I, ciEnd) :: (q, methodObj (.ref 73) (.ref x)) :: (x, instObj 90 d) :: (d, dictOf (nlxE w ln' x1 pb k0 k1' k2 k3 k4 k5 k6) 4) :: (lp, W.listOf #[.int p' tp'] 0) :: (f, fo) :: (c, oc) :: (cp, op) :: (ct, ot) :: (x1, instObj 90 d1) :: (d1, dictOf (nl1E w f pb1 j0 j1 j2 j3 j4 j5 j6 j7) 5) :: (pb, W.listOf #[] 0) :: rest)) (r3 : Ge tok) : NlIB w h₀ L s m₀ S I q x d lp f c cp ct x1 d1 pb pb1 fo oc op ot ti k0 k2 k3 k4 k5 k6 j0 j1 j2 j3 j4 j5 j6 j7 rest Ga Ge k news₁ tok p' ln' k1' tp'
inductive NlInv (w : World) (h₀ : Heap) (L : Addr) (s : Shared) (m₀ : Str → Option Value) (S : Str) (I q x d lp f c cp ct x1 d1 pb pb1 : Addr) (fo oc op ot : Obj) (ti k0 k2 k3 k4 k5 k6 j0 j1 j2 j3 j4 j5 j6 j7 : Tok) (rest : List (Addr × Obj)) (Ga : List Nat → List Nat → Prop) (Ge : List Nat → Prop) (k : Nat) (m₁ : Str → Option Value) (news₁ : List (Addr × Obj)) : Prop
  | mk (tok : List Nat) (tt : Tok) (p' ln' : Int) (k1' tp' : Tok) (ha : m₁ (Str.ofString "token") = some (.str (tx tok) tt)) (hb : (∀ z, z ≠ Str.ofString "token" → z ≠ Str.ofString "ch" → m₁ z = m₀ z)) (hab : NlIA w h₀ L s m₀ S I q x d lp f c cp ct x1 d1 pb pb1 fo oc op ot ti k0 k2 k3 k4 k5 k6 j0 j1 j2 j3 j4 j5 j6 j7 rest Ga Ge k news₁ tok p' ln' k1' tp' ∨ NlIB w h₀ L s m₀ S I q x d lp f c cp ct x1 d1 pb pb1 fo oc op ot ti k0 k2 k3 k4 k5 k6 j0 j1 j2 j3 j4 j5 j6 j7 rest Ga Ge k news₁ tok p' ln' k1' tp') : NlInv w h₀ L s m₀ S I q x d lp f c cp ct x1 d1 pb pb1 fo oc op ot ti k0 k2 k3 k4 k5 k6 j0 j1 j2 j3 j4 j5 j6 j7 rest Ga Ge k m₁ news₁
noncomputable def NlEnd (w : World) (h₀ : Heap) (L : Addr) (s : Shared) (m₀ : Str → Option Value) (S : Str) (I q x d lp f c cp ct x1 d1 pb pb1 : Addr) (fo oc op ot : Obj) (ti k0 k2 k3 k4 k5 k6 j0 j1 j2 j3 j4 j5 j6 j7 : Tok) (rest : List (Addr × Obj)) (Ga : List Nat → List Nat → Prop) (Ge : List Nat → Prop) (Q : Flow → Shared → Prop) (n0 : Nat) (fl : Flow) (s₃ : Shared) : Prop :=
  match fl with
  | .ret v => Q (.ret v) s₃
  | .brk => Q .next s₃
  | _ => NlCon w h₀ L s m₀ S I q x d lp f c cp ct x1 d1 pb pb1 fo oc op ot ti k0 k2 k3 k4 k5 k6 j0 j1 j2 j3 j4 j5 j6 j7 rest Ga Ge n0 s₃
theorem rules_L1_0 : True := by
  w_top off
  k_with_none
  (k_with "k tr" => (first | with_reducible assumption | (refine Nat.lt_trans (by with_reducible assumption) ?_; k_extra "k tr")))
  (k_with "k all" => assumption)
  trivial
theorem fr_map {h₀ h : Heap} {L : Addr} {m₀ m' : Str → Option Value} {v : Value} (F : Fr h₀ L h m') (h1 : m' (Str.ofString "token") = some v) (h2 : ∀ z, z ≠ Str.ofString "token" → z ≠ Str.ofString "ch" → m' z = m₀ z) :
    Fr h₀ L h (fun z => if z = Str.ofString "token" then some v else if z = Str.ofString "ch" then m' (Str.ofString "ch") else m₀ z) := by
  have e : (fun z => if z = Str.ofString "token" then some v else if z = Str.ofString "ch" then m' (Str.ofString "ch") else m₀ z) = m' := by
    funext z
    by_cases e1 : z = Str.ofString "token"
    · rw [if_pos e1, e1, h1]
    · rw [if_neg e1]
      by_cases e2 : z = Str.ofString "ch"
      · rw [if_pos e2, e2]
      · rw [if_neg e2, h2 z e1 e2]
  rw [e]; exact F
theorem fr_ch {h₀ h : Heap} {L : Addr} {m₀ m' : Str → Option Value} {v u : Value} (F : Fr h₀ L h (fun y => if y = Str.ofString "ch" then some u else m' y)) (h1 : m' (Str.ofString "token") = some v) (h2 : ∀ z, z ≠ Str.ofString "token" → z ≠ Str.ofString "ch" → m' z = m₀ z) :
    Fr h₀ L h (fun z => if z = Str.ofString "ch" then some u else if z = Str.ofString "token" then some v else m₀ z) := by
  have e : (fun z => if z = Str.ofString "ch" then some u else if z = Str.ofString "token" then some v else m₀ z) = fun y => if y = Str.ofString "ch" then some u else m' y := by
    funext z
    by_cases e1 : z = Str.ofString "ch"
    · rw [if_pos e1, if_pos e1]
    · rw [if_neg e1, if_neg e1]
      by_cases e2 : z = Str.ofString "token"
      · rw [if_pos e2, e2, h1]
      · rw [if_neg e2, h2 z e2 e1]
  rw [e]; exact F
theorem drop_cons {S : Str} {n ch : Nat} (h : S.cps[n]? = some ch) : S.cps.toList.drop n = ch :: S.cps.toList.drop (n + 1) := by
  have hn : S.cps.toList[n]? = some ch := by simpa using h
  obtain ⟨hlt, hx⟩ := List.getElem?_eq_some_iff.mp hn
  rw [List.drop_eq_getElem_cons hlt, hx]

theorem for_nlx {w : World} {pg : Program} {loose : List Str} {mean : ExcName → Option Value} {mg mb : Str → Option Value}
  {dp un : Nat} {gd : Option (List Code)} {cn : Str} {cs : Scope} {a : Addr} {ccd : Value} {cl : List (Str × Addr)} {outer : List Env} {A₀ : Around} {base h₀ : Heap} {L : Addr} {m₀ : Str → Option Value} {s : Shared} {Q : Flow → Shared → Prop} {E : Value → Shared → Prop}
  {I q x d lp f c cp ct x1 d1 pb pb1 : Addr} {fo oc op ot : Obj} {ln : Int} {ti k0 k1 k2 k3 k4 k5 k6 tp j0 j1 j2 j3 j4 j5 j6 j7 : Tok} {S : Str} {n : Nat} {p : Int} {rest : List (Addr × Obj)} {tok0 : List Nat} {tt0 : Tok}
  {body : List Stmt} {px py pos : Pos} (Ga : List Nat → List Nat → Prop) (Ge : List Nat → Prop) (foo : PySem.Challenge.rw_in0140_01.foot = 8)
  (hdp : dp + 10 < recursionLimit) (hun : un + 90 < cLine) (B : Below A₀ base outer h₀) (F : Fr h₀ L s.heap m₀) (X : (Mine.K w.params).In h₀) (T : Top pg loose mean mg mb h₀)
  (hg : GiveCtr w f fo c oc cp op ct ot lp S) (hp : p = n) (hn : n ≤ S.length)
  (o1 : @LT.lt Nat _ ct cp) (o2 : @LT.lt Nat _ cp lp) (o3 : @LT.lt Nat _ lp d1) (o4 : @LT.lt Nat _ d1 x1) (o5 : @LT.lt Nat _ x1 c) (o6 : @LT.lt Nat _ c f) (o7 : @LT.lt Nat _ f d) (o8 : @LT.lt Nat _ d x)
  (N : News h₀ L s.heap ((I, ciObj (.ref q) "" ti false) :: (q, methodObj (.ref 73) (.ref x)) :: (x, instObj 90 d) :: (d, dictOf (nlxE w ln x1 pb k0 k1 k2 k3 k4 k5 k6) 4) :: (lp, W.listOf #[.int p tp] 0) :: (f, fo) :: (c, oc) :: (cp, op) :: (ct, ot) :: (x1, instObj 90 d1) :: (d1, dictOf (nl1E w f pb1 j0 j1 j2 j3 j4 j5 j6 j7) 5) :: (pb, W.listOf #[] 0) :: rest))
  (i1 : @LT.lt Nat _ x pb) (i2 : @LT.lt Nat _ pb q) (i3 : @LT.lt Nat _ q I) (r1 : ∀ z ∈ rest, z.1 ≠ I) (r2 : ∀ z ∈ rest, z.1 ≠ d) (r3 : ∀ z ∈ rest, z.1 ≠ lp)
  (hm0 : m₀ (Str.ofString "token") = some (.str (tx tok0) tt0)) (h0 : Ga tok0 (S.cps.toList.drop n)) (hae : ∀ tok, Ga tok [] → Ge tok)
  (hks : cs.kind = .function) (hkx : (envX cn cs L a ccd cl).kindOf (Str.ofString "ch") = some .local)
  (ev : ∀ Q' : Value → Shared → Prop, Q' (.ref I) s → wpAny (model PySem.Challenge.rw_in0140_01.row.prog w) (arnd dp un gd (envX cn cs L a ccd cl) outer) (eval (.Name (Str.ofString "fiter") py) (envX cn cs L a ccd cl)) Q' E s)
  (done : ∀ (tok : List Nat) (tt : Tok) (u : Option Value) (p' ln' : Int) (k1' tp' : Tok) (h' : Heap) (tk' : Nat), p' = (S.length : Int) → Ge tok → Fr h₀ L h' (fun z => if z = Str.ofString "token" then some (.str (tx tok) tt) else if z = Str.ofString "ch" then u else m₀ z) → News h₀ L h' ((I, ciEnd) :: (q, methodObj (.ref 73) (.ref x)) :: (x, instObj 90 d) :: (d, dictOf (nlxE w ln' x1 pb k0 k1' k2 k3 k4 k5 k6) 4) :: (lp, W.listOf #[.int p' tp'] 0) :: (f, fo) :: (c, oc) :: (cp, op) :: (ct, ot) :: (x1, instObj 90 d1) :: (d1, dictOf (nl1E w f pb1 j0 j1 j2 j3 j4 j5 j6 j7) 5) :: (pb, W.listOf #[] 0) :: rest) → Q .next { s with heap := h', toks := tk' })
  (turn : ∀ (n1 ch : Nat) (tok : List Nat) (tt t : Tok) (p' ln' : Int) (k1' tp' : Tok) (h' : Heap) (tk' : Nat), S.cps[n1]? = some ch → n1 + 1 ≤ S.length → p' = ((n1 + 1 : Nat) : Int) → Ga tok (ch :: S.cps.toList.drop (n1 + 1)) →
    Fr h₀ L h' (fun z => if z = Str.ofString "ch" then some (.str ⟨#[ch]⟩ t) else if z = Str.ofString "token" then some (.str (tx tok) tt) else m₀ z) → News h₀ L h' ((I, ciObj (.ref q) "" ti false) :: (q, methodObj (.ref 73) (.ref x)) :: (x, instObj 90 d) :: (d, dictOf (nlxE w ln' x1 pb k0 k1' k2 k3 k4 k5 k6) 4) :: (lp, W.listOf #[.int p' tp'] 0) :: (f, fo) :: (c, oc) :: (cp, op) :: (ct, ot) :: (x1, instObj 90 d1) :: (d1, dictOf (nl1E w f pb1 j0 j1 j2 j3 j4 j5 j6 j7) 5) :: (pb, W.listOf #[] 0) :: rest) →
    wpAny (model PySem.Challenge.rw_in0140_01.row.prog w) (arnd dp un gd (envX cn cs L a ccd cl) outer) (execs body (envX cn cs L a ccd cl)) (NlEnd w h₀ L s m₀ S I q x d lp f c cp ct x1 d1 pb pb1 fo oc op ot ti k0 k2 k3 k4 k5 k6 j0 j1 j2 j3 j4 j5 j6 j7 rest Ga Ge Q (n1 + 1)) E { s with heap := h', toks := tk' })
  (hs : ∀ z, foldedSetIterable (.Name (Str.ofString "fiter") py) (envX cn cs L a ccd cl) z = pure z) (hE : PassesOwn (model PySem.Challenge.rw_in0140_01.row.prog w) (arnd dp un gd (envX cn cs L a ccd cl) outer) (envX cn cs L a ccd cl) E) :
  wpAny (model PySem.Challenge.rw_in0140_01.row.prog w) (arnd dp un gd (envX cn cs L a ccd cl) outer) (exec (.For (.Name (Str.ofString "ch") px) (.Name (Str.ofString "fiter") py) body [] pos) (envX cn cs L a ccd cl)) Q E s := by
  revert foo X
  k_fill
  intro foo X
  refine for_own (I := I) (oI := ciObj (.ref q) "" ti false) (n₀ := S.length - n + 1) (fun k m₁ news₁ => NlInv w h₀ L s m₀ S I q x d lp f c cp ct x1 d1 pb pb1 fo oc op ot ti k0 k2 k3 k4 k5 k6 j0 j1 j2 j3 j4 j5 j6 j7 rest Ga Ge k m₁ news₁) F N
    ⟨tok0, tt0, p, ln, k1, tp, hm0, fun _ _ _ => rfl, .inl ⟨n, hp, rfl, hn, rfl, h0⟩⟩ ev (.head _) rfl ?_ hs hE
  rintro k m₁ news₁ h₁ tk₁ F₁ N₁ ⟨tok, tt, p', ln', k1', tp', e1, e2, ⟨n', hp', hk', hn', rfl, hG⟩ | ⟨hp', rfl, rfl, hG⟩⟩
  · refine ci_next rfl (N₁ _ (.head _)).1 (N₁ _ (.tail _ (.head _))).1 ?_ ?_
    · have hK := X.keeps F₁.keep
      exact ⟨_, _, hK _ _ (by k_is), rfl⟩
    have NC : News h₀ L h₁ ((x, instObj 90 d) :: (d, dictOf (nlxE w ln' x1 pb k0 k1' k2 k3 k4 k5 k6) 4) :: (lp, W.listOf #[.int p' tp'] 0) :: (f, fo) :: (c, oc) :: (cp, op) :: (ct, ot) :: (x1, instObj 90 d1) :: (d1, dictOf (nl1E w f pb1 j0 j1 j2 j3 j4 j5 j6 j7) 5) :: (I, ciObj (.ref q) "" ti false) :: (q, methodObj (.ref 73) (.ref x)) :: (pb, W.listOf #[] 0) :: rest) := by
      refine' Picks.news (ps := [_, _, _, _, _, _, _, _, _]) ?_ N₁
      repeat' (first | exact Picks.nil | refine' Picks.cons ?_ ?_ | exact Pick.head | refine' Pick.tail ?_)
    refine c_rdc (env := envX cn cs L a ccd cl) (outer := outer) (dp := dp) (un := un + 1) (gd := gd) (B := B) (F := F₁) (X := X) (T := T) (hf := rfl) (hk := hks) (hdp := by omega) (hun := by omega) (hg := hg) (hp := hp') (hn := hn') o1 o2 o3 o4 o5 o6 o7 o8
      (rest := (I, ciObj (.ref q) "" ti false) :: (q, methodObj (.ref 73) (.ref x)) :: (pb, W.listOf #[] 0) :: rest) (off1 := ?_) (off2 := ?_) (N := NC) (foo := foo) ?_ ?_
    · intro z hz
      simp only [List.mem_cons] at hz
      rcases hz with rfl | rfl | rfl | hz
      · show @Ne Nat _ _; k_ne
      · show @Ne Nat _ _; k_ne
      · show @Ne Nat _ _; k_ne
      · exact r2 z hz
    · intro z hz
      simp only [List.mem_cons] at hz
      rcases hz with rfl | rfl | rfl | hz
      · show @Ne Nat _ _; k_ne
      · show @Ne Nat _ _; k_ne
      · show @Ne Nat _ _; k_ne
      · exact r3 z hz
    · -- the end of the text
      intro he tp9 t9 h9 tk9 F9 N9
      have NI : News h₀ L h9 ((I, ciObj (.ref q) "" ti false) :: (q, methodObj (.ref 73) (.ref x)) :: (x, instObj 90 d) :: (d, dictOf (nlxE w ln' x1 pb k0 k1' k2 k3 k4 k5 k6) 4) :: (lp, W.listOf #[.int p' tp9] 0) :: (f, fo) :: (c, oc) :: (cp, op) :: (ct, ot) :: (x1, instObj 90 d1) :: (d1, dictOf (nl1E w f pb1 j0 j1 j2 j3 j4 j5 j6 j7) 5) :: (pb, W.listOf #[] 0) :: rest) := by
        refine' Picks.news (ps := [_, _, _, _, _, _, _, _, _, _, _, _]) ?_ N9
        repeat' (first | exact Picks.nil | refine' Picks.cons ?_ ?_ | exact Pick.head | refine' Pick.tail ?_)
      refine ⟨_, _, rfl, (NI _ (.head _)).1, (NI _ (.tail _ (.head _))).1, ?_, fun hy => absurd rfl hy, fun _ h10 g10 x10 => ?_⟩
      · have hK := X.keeps F9.keep
        exact ⟨_, _, hK _ _ (by k_is), rfl⟩
      · have hLI : I ≠ L := (NI _ (.head _)).2.1
        have hI0 : h₀.get? I = none := (NI _ (.head _)).2.2
        have F10 := ext_fr F9 x10 hLI hI0
        have N10 := ext_newsI NI x10 g10 (by
          intro z hz
          simp only [List.mem_cons] at hz
          rcases hz with rfl | rfl | rfl | rfl | rfl | rfl | rfl | rfl | rfl | rfl | rfl | hz
          all_goals first | exact r1 z hz | (show @Ne Nat _ _; k_ne))
        have hG2 : Ge tok := hae tok (by rw [he] at hG; have : S.cps.toList.drop S.length = [] := List.drop_eq_nil_of_le (by simp [Str.length]); rw [this] at hG; exact hG)
        exact done tok tt _ _ _ _ _ h10 _ (by rw [hp', he]) hG2 (fr_map F10 e1 e2) N10
    · intro ch hc ln9 k19 tp9 t9 h9 tk9 F9 N9
      have NI : News h₀ L h9 ((I, ciObj (.ref q) "" ti false) :: (q, methodObj (.ref 73) (.ref x)) :: (x, instObj 90 d) :: (d, dictOf (nlxE w ln9 x1 pb k0 k19 k2 k3 k4 k5 k6) 4) :: (lp, W.listOf #[.int (p' + 1) tp9] 0) :: (f, fo) :: (c, oc) :: (cp, op) :: (ct, ot) :: (x1, instObj 90 d1) :: (d1, dictOf (nl1E w f pb1 j0 j1 j2 j3 j4 j5 j6 j7) 5) :: (pb, W.listOf #[] 0) :: rest) := by
        refine' Picks.news (ps := [_, _, _, _, _, _, _, _, _, _, _, _]) ?_ N9
        repeat' (first | exact Picks.nil | refine' Picks.cons ?_ ?_ | exact Pick.head | refine' Pick.tail ?_)
      have hlt : n' + 1 ≤ S.length := by
        have := (Array.getElem?_eq_some_iff.mp hc).1
        have e : S.length = S.cps.size := rfl
        omega
      refine ⟨_, _, rfl, (NI _ (.head _)).1, (NI _ (.tail _ (.head _))).1, ?_, fun _ => ?_, fun hy => ?_⟩
      · have hK := X.keeps F9.keep
        exact ⟨_, _, hK _ _ (by k_is), rfl⟩
      · show wpAny _ _ (storeName _ _ _) _ _ _
        refine storeX_L F9 NI (fun h10 F10 N10 => ?_) hks hkx
        have hG2 : Ga tok (ch :: S.cps.toList.drop (n' + 1)) := by rw [← drop_cons hc]; exact hG
        have F11 := fr_ch F10 e1 e2
        refine wpAny_mono (turn n' ch tok tt t9 _ _ _ _ h10 _ hc hlt (by rw [hp']; omega) hG2 F11 N10) (fun fl s₃ hfl => ?_) fun _ _ z => z
        cases fl with
        | ret v => exact hfl
        | brk => exact hfl
        | next =>
          obtain ⟨h', tk, m', tok', tt', rfl, F', a1, a2, ⟨n2, p2, ln2, k2', tp2, hp2, hle, hn2, N2, G2⟩ | ⟨p2, ln2, k2', tp2, hp2, N2, G2⟩⟩ := hfl
          · exact ⟨h', tk, m', _, S.length - n2 + 1, rfl, F', N2, by omega, tok', tt', p2, ln2, k2', tp2, a1, a2, .inl ⟨n2, hp2, rfl, hn2, rfl, G2⟩⟩
          · exact ⟨h', tk, m', _, 0, rfl, F', N2, by omega, tok', tt', p2, ln2, k2', tp2, a1, a2, .inr ⟨hp2, rfl, rfl, G2⟩⟩
        | cont =>
          obtain ⟨h', tk, m', tok', tt', rfl, F', a1, a2, ⟨n2, p2, ln2, k2', tp2, hp2, hle, hn2, N2, G2⟩ | ⟨p2, ln2, k2', tp2, hp2, N2, G2⟩⟩ := hfl
          · exact ⟨h', tk, m', _, S.length - n2 + 1, rfl, F', N2, by omega, tok', tt', p2, ln2, k2', tp2, a1, a2, .inl ⟨n2, hp2, rfl, hn2, rfl, G2⟩⟩
          · exact ⟨h', tk, m', _, 0, rfl, F', N2, by omega, tok', tt', p2, ln2, k2', tp2, a1, a2, .inr ⟨hp2, rfl, rfl, G2⟩⟩
      · have h9 := congrArg (fun z : Str => z.cps.size) hy
        have hz : (Str.ofString "").cps.size = 0 := by decide +kernel
        dsimp only at h9
        rw [hz] at h9
        cases h9
  · refine ci_ended rfl (N₁ _ (.head _)).1 fun h10 x10 g10 => ?_
    have hLI : I ≠ L := (N₁ _ (.head _)).2.1
    have hI0 : h₀.get? I = none := (N₁ _ (.head _)).2.2
    exact done tok tt _ _ _ _ _ h10 _ hp' hG (fr_map (ext_fr F₁ x10 hLI hI0) e1 e2) (ext_newsI N₁ x10 g10 (by
          intro z hz
          simp only [List.mem_cons] at hz
          rcases hz with rfl | rfl | rfl | rfl | rfl | rfl | rfl | rfl | rfl | rfl | rfl | hz
          all_goals first | exact r1 z hz | (show @Ne Nat _ _; k_ne)))
end Mine
end
section
open PySem PySem.W PyProof.Rows PySem.Calls PySem.Spec PyProof
set_option maxRecDepth 100000
namespace Mine
theorem rules_L2_n : True := by
  w_top off
  k_with_none
  trivial
theorem nl_next {w : World} {h₀ h' : Heap} {L : Addr} {s : Shared} {m₀ m' : Str → Option Value} {S : Str} {I q x d lp f c cp ct x1 d1 pb pb1 : Addr} {fo oc op ot : Obj} {ti k0 k2 k3 k4 k5 k6 j0 j1 j2 j3 j4 j5 j6 j7 : Tok} {rest : List (Addr × Obj)} {Ga : List Nat → List Nat → Prop} {Ge : List Nat → Prop} {Q : Flow → Shared → Prop} {n0 n' : Nat} {p' ln' : Int} {k1' tp' tt : Tok} {tok : List Nat} {tk : Nat} (F : Fr h₀ L h' m') (h1 : m' (Str.ofString "token") = some (.str (tx tok) tt)) (h2 : ∀ z, z ≠ Str.ofString "token" → z ≠ Str.ofString "ch" → m' z = m₀ z) (hp : p' = (n' : Int)) (hle : n0 ≤ n') (hn : n' ≤ S.length) (N : News h₀ L h' ((I, ciObj (.ref q) "" ti false) :: (q, methodObj (.ref 73) (.ref x)) :: (x, instObj 90 d) :: (d, dictOf (nlxE w ln' x1 pb k0 k1' k2 k3 k4 k5 k6) 4) :: (lp, W.listOf #[.int p' tp'] 0) :: (f, fo) :: (c, oc) :: (cp, op) :: (ct, ot) :: (x1, instObj 90 d1) :: (d1, dictOf (nl1E w f pb1 j0 j1 j2 j3 j4 j5 j6 j7) 5) :: (pb, W.listOf #[] 0) :: rest)) (hG : Ga tok (S.cps.toList.drop n')) :
  NlEnd w h₀ L s m₀ S I q x d lp f c cp ct x1 d1 pb pb1 fo oc op ot ti k0 k2 k3 k4 k5 k6 j0 j1 j2 j3 j4 j5 j6 j7 rest Ga Ge Q n0 .next { s with heap := h', toks := tk } := ⟨h', tk, m', tok, tt, rfl, F, h1, h2, .inl ⟨n', p', ln', k1', tp', hp, hle, hn, N, hG⟩⟩
theorem nl_cont {w : World} {h₀ h' : Heap} {L : Addr} {s : Shared} {m₀ m' : Str → Option Value} {S : Str} {I q x d lp f c cp ct x1 d1 pb pb1 : Addr} {fo oc op ot : Obj} {ti k0 k2 k3 k4 k5 k6 j0 j1 j2 j3 j4 j5 j6 j7 : Tok} {rest : List (Addr × Obj)} {Ga : List Nat → List Nat → Prop} {Ge : List Nat → Prop} {Q : Flow → Shared → Prop} {n0 n' : Nat} {p' ln' : Int} {k1' tp' tt : Tok} {tok : List Nat} {tk : Nat} (F : Fr h₀ L h' m') (h1 : m' (Str.ofString "token") = some (.str (tx tok) tt)) (h2 : ∀ z, z ≠ Str.ofString "token" → z ≠ Str.ofString "ch" → m' z = m₀ z) (hp : p' = (n' : Int)) (hle : n0 ≤ n') (hn : n' ≤ S.length) (N : News h₀ L h' ((I, ciObj (.ref q) "" ti false) :: (q, methodObj (.ref 73) (.ref x)) :: (x, instObj 90 d) :: (d, dictOf (nlxE w ln' x1 pb k0 k1' k2 k3 k4 k5 k6) 4) :: (lp, W.listOf #[.int p' tp'] 0) :: (f, fo) :: (c, oc) :: (cp, op) :: (ct, ot) :: (x1, instObj 90 d1) :: (d1, dictOf (nl1E w f pb1 j0 j1 j2 j3 j4 j5 j6 j7) 5) :: (pb, W.listOf #[] 0) :: rest)) (hG : Ga tok (S.cps.toList.drop n')) :
  NlEnd w h₀ L s m₀ S I q x d lp f c cp ct x1 d1 pb pb1 fo oc op ot ti k0 k2 k3 k4 k5 k6 j0 j1 j2 j3 j4 j5 j6 j7 rest Ga Ge Q n0 .cont { s with heap := h', toks := tk } := ⟨h', tk, m', tok, tt, rfl, F, h1, h2, .inl ⟨n', p', ln', k1', tp', hp, hle, hn, N, hG⟩⟩
theorem nl_over {w : World} {h₀ h' : Heap} {L : Addr} {s : Shared} {m₀ m' : Str → Option Value} {S : Str} {I q x d lp f c cp ct x1 d1 pb pb1 : Addr} {fo oc op ot : Obj} {ti k0 k2 k3 k4 k5 k6 j0 j1 j2 j3 j4 j5 j6 j7 : Tok} {rest : List (Addr × Obj)} {Ga : List Nat → List Nat → Prop} {Ge : List Nat → Prop} {Q : Flow → Shared → Prop} {n0 n' : Nat} {p' ln' : Int} {k1' tp' tt : Tok} {tok : List Nat} {tk : Nat} (F : Fr h₀ L h' m') (h1 : m' (Str.ofString "token") = some (.str (tx tok) tt)) (h2 : ∀ z, z ≠ Str.ofString "token" → z ≠ Str.ofString "ch" → m' z = m₀ z) (hp : p' = (S.length : Int)) (N : News h₀ L h' ((I, ciEnd) :: (q, methodObj (.ref 73) (.ref x)) :: (x, instObj 90 d) :: (d, dictOf (nlxE w ln' x1 pb k0 k1' k2 k3 k4 k5 k6) 4) :: (lp, W.listOf #[.int p' tp'] 0) :: (f, fo) :: (c, oc) :: (cp, op) :: (ct, ot) :: (x1, instObj 90 d1) :: (d1, dictOf (nl1E w f pb1 j0 j1 j2 j3 j4 j5 j6 j7) 5) :: (pb, W.listOf #[] 0) :: rest)) (hG : Ge tok) :
  NlEnd w h₀ L s m₀ S I q x d lp f c cp ct x1 d1 pb pb1 fo oc op ot ti k0 k2 k3 k4 k5 k6 j0 j1 j2 j3 j4 j5 j6 j7 rest Ga Ge Q n0 .next { s with heap := h', toks := tk } := ⟨h', tk, m', tok, tt, rfl, F, h1, h2, .inr ⟨p', ln', k1', tp', hp, N, hG⟩⟩
theorem ws_is (ch : Nat) : (Builtin.Str.occurrences (Str.ofString "\n\t\x0d ") ⟨#[ch]⟩ 0 (Str.ofString "\n\t\x0d ").length 1).isEmpty = !isWs ch := by
  have e : Str.ofString "\n\t\x0d " = tx [10, 9, 13, 32] := by decide +kernel
  rw [e]
  have h := in_tx [10, 9, 13, 32] ch
  have e2 : [10, 9, 13, 32].contains ch = isWs ch := by
    unfold isWs
    simp only [List.contains_cons, List.contains_nil, Bool.or_false, Bool.or_assoc]
  rw [e2] at h
  exact h
theorem ch_is (ch c : Nat) : ((⟨#[ch]⟩ : Str) == tx [c]) = (ch == c) := by
  have h := tx_beq [ch] [c]
  have e2 : ([ch] == [c]) = (ch == c) := by
    rw [Bool.eq_iff_iff, beq_iff_eq, beq_iff_eq]
    exact ⟨fun h => by cases h; rfl, fun h => by rw [h]⟩
  rw [e2] at h
  exact h

theorem ntok_ws {c : Nat} {r : List Nat} (h : isWs c = true) : ntok (c :: r) = ntok r := by rw [ntok, if_pos h]
theorem ntok_q {c : Nat} {r : List Nat} (h : isWs c = false) (h2 : c = 34) : ntok (c :: r) = nq [] r := by rw [ntok, if_neg (by rw [h]; decide), if_pos h2]
theorem ntok_b {c : Nat} {r : List Nat} (h : isWs c = false) (h3 : c = 92) : ntok (c :: r) = nwe [] r := by rw [ntok, if_neg (by rw [h]; decide), if_neg (by omega), if_pos h3]
theorem ntok_c {c : Nat} {r : List Nat} (h : isWs c = false) (h2 : c ≠ 34) (h3 : c ≠ 92) : ntok (c :: r) = nw [c] r := by rw [ntok, if_neg (by rw [h]; decide), if_neg h2, if_neg h3]
theorem nq_q {t : List Nat} {c : Nat} {r : List Nat} (h2 : c = 34) : nq t (c :: r) = (t, r) := by rw [nq, if_pos h2]
theorem nq_b {t : List Nat} {c : Nat} {r : List Nat} (h3 : c = 92) : nq t (c :: r) = nqe t r := by rw [nq, if_neg (by omega), if_pos h3]
theorem nq_c {t : List Nat} {c : Nat} {r : List Nat} (h2 : c ≠ 34) (h3 : c ≠ 92) : nq t (c :: r) = nq (t ++ [c]) r := by rw [nq, if_neg h2, if_neg h3]
theorem nqe_c {t : List Nat} {c : Nat} {r : List Nat} : nqe t (c :: r) = nq (t ++ [c]) r := by rw [nqe]
theorem nqe_e {t : List Nat} : nqe t [] = (t, []) := by rw [nqe]
theorem nq_e {t : List Nat} : nq t [] = (t, []) := by rw [nq]
theorem nw_w {t : List Nat} {c : Nat} {r : List Nat} (h : isWs c = true) : nw t (c :: r) = (t, r) := by rw [nw, if_pos h]
theorem nw_b {t : List Nat} {c : Nat} {r : List Nat} (h : isWs c = false) (h3 : c = 92) : nw t (c :: r) = nwe t r := by rw [nw, if_neg (by rw [h]; decide), if_pos h3]
theorem nw_c {t : List Nat} {c : Nat} {r : List Nat} (h : isWs c = false) (h3 : c ≠ 92) : nw t (c :: r) = nw (t ++ [c]) r := by rw [nw, if_neg (by rw [h]; decide), if_neg h3]
theorem nwe_c {t : List Nat} {c : Nat} {r : List Nat} : nwe t (c :: r) = nw (t ++ [c]) r := by rw [nwe]
theorem nwe_e {t : List Nat} : nwe t [] = (t, []) := by rw [nwe]
theorem nw_e {t : List Nat} : nw t [] = (t, []) := by rw [nw]
theorem drop_all {S : Str} {n : Nat} (h : n = S.length) : S.cps.toList.drop n = [] := List.drop_eq_nil_of_le (by rw [h]; simp [Str.length])
theorem lt_of_get {S : Str} {n c : Nat} (h : S.cps[n]? = some c) : n + 1 ≤ S.length := by
  have := (Array.getElem?_eq_some_iff.mp h).1
  have e : S.length = S.cps.size := rfl
  omega
theorem not_ws {ch : Nat} {b : Bool} (h : (Builtin.Str.occurrences (Str.ofString "\n\t\x0d ") ⟨#[ch]⟩ 0 (Str.ofString "\n\t\x0d ").length 1).isEmpty = b) : isWs ch = !b := by rw [ws_is] at h; rw [← h, Bool.not_not]
theorem is_q {ch : Nat} (h : ((⟨#[ch]⟩ : Str) == Str.ofString "\"") = true) : ch = 34 := by rw [lit_qt, ch_is] at h; exact eq_of_beq h
theorem no_q {ch : Nat} (h : ((⟨#[ch]⟩ : Str) == Str.ofString "\"") = false) : ch ≠ 34 := by rw [lit_qt, ch_is] at h; exact beq_eq_false_iff_ne.mp h
theorem is_b {ch : Nat} (h : ((⟨#[ch]⟩ : Str) == Str.ofString "\\") = true) : ch = 92 := by rw [lit_bs, ch_is] at h; exact eq_of_beq h
theorem no_b {ch : Nat} (h : ((⟨#[ch]⟩ : Str) == Str.ofString "\\") = false) : ch ≠ 92 := by rw [lit_bs, ch_is] at h; exact beq_eq_false_iff_ne.mp h
end Mine
end
section
open PySem PySem.W PyProof.Rows PySem.Calls PySem.Spec PyProof
set_option Elab.async false
set_option maxRecDepth 100000
set_option maxHeartbeats 8000000
namespace Mine
theorem rules_C7_0 : True := by
  w_top off
  k_with_none
  (k_with "k tr" => (first | with_reducible assumption | (refine Nat.lt_trans (by with_reducible assumption) ?_; k_extra "k tr")))
  (k_with "k om" => (first | with_reducible assumption | exact Nat.le_refl _ | exact Nat.le_succ _ | k_extra "k tr" | walk_at "k lt" | exact Nat.ne_of_lt (by k_extra "k tr") | exact Nat.ne_of_gt (by k_extra "k tr") | exact Nat.ne_of_lt (by walk_at "k lt") | exact Nat.ne_of_gt (by walk_at "k lt") | omega))
  (k_with "k all" => assumption)
  (k_with "storeName" => (k_here; k_dflt (refine' storeX_LL ?F ?N ?_ ?a ?b; (case F => k_asm); (case N => k_asm); (case a => rfl); (case b => rfl); k_whole); intro h' m' F' N'; (try k_sweep)))
  (k_with "execs cons" => (k_here; first | (with_unfolding_all (refine gen_toks0 (Nat.succ_pos _) ?_); intro tk') | with_reducible refine execs_one ?_ | ((with_reducible refine wpAny_execs_cons ?_); (try dsimp only); try k_fold)))
  (k_with "call builtin:str.replace" => (k_here; k_dflt (refine' rep_rule (hx := ?hx) (hy := ?hy) (hz := ?hz) ?hu ?hv ?huv ?hyz ?hb ?hb2 ?_); (case hx => first | exact lit_ap | exact rfl); (case hy => first | exact lit_bs | exact lit_nl | exact lit_tb | exact lit_ap); (case hz => first | exact lit_bs2 | exact lit_bn | exact lit_bt | exact lit_n | exact lit_t | exact lit_q5); (case hu => (show @Ne Nat _ _); (try dsimp only); omega); (case hv => (show @Ne Nat _ _); (try dsimp only); omega); (case huv => (show @Ne Nat _ _); (try dsimp only); omega); (case hyz => decide +kernel); (case hb => first | assumption | omega); (case hb2 => decide); intro t' k' hk'; (try dsimp only at hk')))
  (k_with "call builtin:repr" => (k_here; k_dflt (refine repr_of_str ?_ ?hsz); (case hsz => assumption)))
  (k_with "call builtin:iter" => (k_here; k_dflt (refine' ci_make ?F ?N ?q ?_; (case F => k_asm); (case N => k_asm); (case q => k_mem); k_whole); intro I9 h9 F9 N9 l9; (try k_lt l9); (try k_sweep)))
  trivial
theorem allLt_ne {d : Addr} {l : List (Addr × Obj)} (h : AllLt d l) : ∀ z ∈ l, z.1 ≠ d := fun z hz => Nat.ne_of_lt (allLt_all h z hz)
theorem nl_ret {w : World} {h₀ : Heap} {L : Addr} {s : Shared} {m₀ : Str → Option Value} {S : Str} {I q x d lp f c cp ct x1 d1 pb pb1 : Addr} {fo oc op ot : Obj} {ti k0 k2 k3 k4 k5 k6 j0 j1 j2 j3 j4 j5 j6 j7 : Tok} {rest : List (Addr × Obj)} {Ga : List Nat → List Nat → Prop} {Ge : List Nat → Prop} {Q : Flow → Shared → Prop} {n0 : Nat} {v : Value} {s₃ : Shared} (h : Q (.ret v) s₃) :
  NlEnd w h₀ L s m₀ S I q x d lp f c cp ct x1 d1 pb pb1 fo oc op ot ti k0 k2 k3 k4 k5 k6 j0 j1 j2 j3 j4 j5 j6 j7 rest Ga Ge Q n0 (.ret v) s₃ := h
theorem rules_C7_1 : True := by
  w_top off
  k_with_none
  (k_with "k tr" => (first | with_reducible assumption | (refine Nat.lt_trans (by with_reducible assumption) ?_; k_extra "k tr")))
  (k_with "k om" => (first | with_reducible assumption | exact Nat.le_refl _ | exact Nat.le_succ _ | k_extra "k tr" | walk_at "k lt" | exact Nat.ne_of_lt (by k_extra "k tr") | exact Nat.ne_of_gt (by k_extra "k tr") | exact Nat.ne_of_lt (by walk_at "k lt") | exact Nat.ne_of_gt (by walk_at "k lt") | omega))
  (k_with "k all" => assumption)
  (k_with "storeName" => (k_here; k_dflt (refine' storeX_LL ?F ?N ?_ ?a ?b; (case F => k_asm); (case N => k_asm); (case a => rfl); (case b => rfl); k_whole); intro h' m' F' N'; (try k_sweep)))
  (k_with "execs cons" => (k_here; first | (with_unfolding_all (refine gen_toks0 (Nat.succ_pos _) ?_); intro tk') | with_reducible refine execs_one ?_ | ((with_reducible refine wpAny_execs_cons ?_); (try dsimp only); try k_fold)))
  (k_with "call builtin:str.replace" => (k_here; k_dflt (refine' rep_rule (hx := ?hx) (hy := ?hy) (hz := ?hz) ?hu ?hv ?huv ?hyz ?hb ?hb2 ?_); (case hx => first | exact lit_ap | exact rfl); (case hy => first | exact lit_bs | exact lit_nl | exact lit_tb | exact lit_ap); (case hz => first | exact lit_bs2 | exact lit_bn | exact lit_bt | exact lit_n | exact lit_t | exact lit_q5); (case hu => (show @Ne Nat _ _); (try dsimp only); omega); (case hv => (show @Ne Nat _ _); (try dsimp only); omega); (case huv => (show @Ne Nat _ _); (try dsimp only); omega); (case hyz => decide +kernel); (case hb => first | assumption | omega); (case hb2 => decide); intro t' k' hk'; (try dsimp only at hk')))
  (k_with "call builtin:repr" => (k_here; k_dflt (refine repr_of_str ?_ ?hsz); (case hsz => assumption)))
  (k_with "call builtin:iter" => (k_here; k_dflt (refine' ci_make ?F ?N ?q ?_; (case F => k_asm); (case N => k_asm); (case q => k_mem); k_whole); intro I9 h9 F9 N9 l9; (try k_lt l9); (try k_sweep)))
  (k_with "NlEnd" => (k_dflt (refine nl_ret ?_)))
  (k_with "call ref" => (k_here; (with_reducible show wpAny _ _ (call (Value.ref 73) _) _ _ _); (rename GiveCtr _ _ _ _ _ _ _ _ _ _ _ => hG9); k_dflt (refine wpAny_call ?_; refine' c_rdc (hg := hG9) (hp := ?hp) (hn := ?hn) (o1 := ?o1) (o2 := ?o2) (o3 := ?o3) (o4 := ?o4) (o5 := ?o5) (o6 := ?o6) (o7 := ?o7) (o8 := ?o8) (off1 := ?off1) (off2 := ?off2) (N := ?N) (B := ?B) (F := ?F) (X := ?X) (T := ?T) (hf := ?hf) (hk := ?hk) (hdp := ?hdp) (hun := ?hun) (foo := ?foo) (hend := ?_) (hch := ?_); (case B => k_asm); (case F => k_asm); (case X => k_asm); (case T => k_asm); (case hf => exact rfl); (case hk => exact rfl); (case hdp => k_room); (case hun => k_units); (case foo => exact rfl); (case N => (refine' Picks.news (ps := [_, _, _, _, _, _, _, _, _]) ?_ (by k_asm); repeat' (first | exact Picks.nil | refine' Picks.cons ?_ ?_ | exact Pick.head | refine' Pick.tail ?_))); (case hp => assumption); (case hn => assumption); (case o1 => k_extra "k om"); (case o2 => k_extra "k om"); (case o3 => k_extra "k om"); (case o4 => k_extra "k om"); (case o5 => k_extra "k om"); (case o6 => k_extra "k om"); (case o7 => k_extra "k om"); (case o8 => k_extra "k om"); (case off1 => k_all); (case off2 => k_all); k_whole); (all_goals (intros; (try dsimp only); (try k_sweep); (try k_fold)))))
  trivial
theorem c_ntok {w : World} {pg : Program} {loose : List Str} {mean : ExcName → Option Value} {mg mb : Str → Option Value}
  {dp un : Nat} {gd : Option (List Code)} {env : Env} {outer : List Env} {A₀ : Around} {base h₀ : Heap} {L : Addr} {m : Str → Option Value} {s : Shared} {Q E : Value → Shared → Prop}
  {x d lp f c cp ct x1 d1 pb pb1 : Addr} {fo oc op ot : Obj} {ln : Int} {k0 k1 k2 k3 k4 k5 k6 tp j0 j1 j2 j3 j4 j5 j6 j7 : Tok} {S : Str} {n : Nat} {p : Int} (hg : GiveCtr w f fo c oc cp op ct ot lp S) (hp : p = n) (hn : n ≤ S.length) (hS : S.length ≤ 3990) {rest : List (Addr × Obj)}
  (o1 : @LT.lt Nat _ ct cp) (o2 : @LT.lt Nat _ cp lp) (o3 : @LT.lt Nat _ lp d1) (o4 : @LT.lt Nat _ d1 x1) (o5 : @LT.lt Nat _ x1 c) (o6 : @LT.lt Nat _ c f) (o7 : @LT.lt Nat _ f d) (o8 : @LT.lt Nat _ d x) (o9 : @LT.lt Nat _ x pb) (off1 : ∀ q ∈ rest, q.1 ≠ d) (off2 : ∀ q ∈ rest, q.1 ≠ lp) (N : News h₀ L s.heap ((x, instObj 90 d) :: (d, dictOf (nlxE w ln x1 pb k0 k1 k2 k3 k4 k5 k6) 4) :: (lp, W.listOf #[.int p tp] 0) :: (f, fo) :: (c, oc) :: (cp, op) :: (ct, ot) :: (x1, instObj 90 d1) :: (d1, dictOf (nl1E w f pb1 j0 j1 j2 j3 j4 j5 j6 j7) 5) :: (pb, W.listOf #[] 0) :: rest))
  (B : Below A₀ base outer h₀) (F : Fr h₀ L s.heap m) (X : (Mine.K w.params).In h₀) (T : Top pg loose mean mg mb h₀) (hf : env.frame = some L) (hk : env.scope.kind = .function)
  (hdp : dp + 14 < recursionLimit) (hun : un + 150 < cLine)
  (hret : ∀ (n' : Nat) (p' ln' : Int) (k1' tp' : Tok) (t : Tok) (h' : Heap) (tk' : Nat), Fr h₀ L h' m → p' = (n' : Int) → n' ≤ S.length → S.cps.toList.drop n' = (ntok (S.cps.toList.drop n)).2 → News h₀ L h' ((x, instObj 90 d) :: (d, dictOf (nlxE w ln' x1 pb k0 k1' k2 k3 k4 k5 k6) 4) :: (lp, W.listOf #[.int p' tp'] 0) :: (f, fo) :: (c, oc) :: (cp, op) :: (ct, ot) :: (x1, instObj 90 d1) :: (d1, dictOf (nl1E w f pb1 j0 j1 j2 j3 j4 j5 j6 j7) 5) :: (pb, W.listOf #[] 0) :: rest) → Q (.str (tx (ntok (S.cps.toList.drop n)).1) t) { s with heap := h', toks := tk' }) (foo : PySem.Challenge.rw_in0140_01.foot = 8) :
   wpAny (model PySem.Challenge.rw_in0140_01.row.prog w) (arnd dp un gd env outer) (call (.ref 80) [.ref x]) Q E s := by
  revert foo X
  k_fill
  intro X foo
  refine wpAny_call ?_
  k_dflt ((refine' code_def ?k1 ?k2 ?k3 ?k4 ?k5 ?kA ?kF ?kK ?k6 ?k7 ?k8 ?k9 ?kB ?_ ?c2 ?c3 ?c4 ?c5); (case kA => exact rfl); (case kF => first | exact hf | exact rfl); (case kK => first | exact hk | exact rfl); (case k1 => k_asm); (case k2 => k_asm); (case k3 => k_asm); (case k4 => k_asm); (case k5 => k_asm); (case k6 => k_is); (case k7 => k_is); (case k8 => k_room); (case k9 => first | exact BindsTo.of_eq rfl | exact binds_K (by k_in) rfl (by k_is) rfl rfl rfl); (case c5 => decide); (case kB => exact locs rfl); (case c2 => exact rfl); (case c3 => exact rfl); (case c4 => exact rfl); k_whole; intro g' L' h' FG' F' N' B' X' T'; (try dsimp only); (try k_lift B'); (try k_fold))
  have hT : S.cps.size ≤ 3990 := hS
  (repeat' ((fail_if_success (with_reducible show wpAny _ _ (exec (Stmt.For _ _ _ _ _) _) _ _ _)); (first | (k_unfold; (try dsimp only)) | (k_end; wrow_close) | walk1 | (dsimp only; walk1) | (leave1; walk_say "STEP leave1"; try dsimp only) | fail "no step")))
  obtain ⟨_, _, _, _, _, _, _, _, _, _, _, hA9⟩ : _ ∧ _ ∧ _ ∧ _ ∧ _ ∧ _ ∧ _ ∧ _ ∧ _ ∧ _ ∧ _ ∧ AllLt _ rest := by assumption
  have hr1 := allLt_ne hA9
  clear hA9
  (k_dflt (refine' for_nlx (S := S) (n := n) (Ga := fun tok rem => tok = [] ∧ ntok rem = ntok (S.cps.toList.drop n)) (Ge := fun tok => ntok (S.cps.toList.drop n) = (tok, [])) (foo := foo) (hdp := ?hdp) (hun := ?hun) (B := ?B) (F := ?F) (X := ?X) (T := ?T) (hg := ?hg) (hp := ?hp) (hn := ?hn) (o1 := ?o1) (o2 := ?o2) (o3 := ?o3) (o4 := ?o4) (o5 := ?o5) (o6 := ?o6) (o7 := ?o7) (o8 := ?o8) (N := ?N) (i1 := ?i1) (i2 := ?i2) (i3 := ?i3) (r1 := ?r1) (r2 := ?r2) (r3 := ?r3) (hm0 := ?hm0) (h0 := ?h0) (hae := ?hae) (hks := ?hks) (hkx := ?hkx) (ev := ?ev) (done := ?_) (turn := ?_) (hs := ?hs) (hE := ?hE)); (case hg => assumption); (case B => k_asm); (case F => k_asm); (case X => k_asm); (case T => k_asm); (case N => (refine' Picks.news (ps := [_, _, _, _, _, _, _, _, _, _, _, _]) ?_ (by k_asm); repeat' (first | exact Picks.nil | refine' Picks.cons ?_ ?_ | exact Pick.head | refine' Pick.tail ?_))); (case hdp => k_room); (case hun => k_units); (case hp => assumption); (case hn => assumption); (case o1 => k_extra "k om"); (case o2 => k_extra "k om"); (case o3 => k_extra "k om"); (case o4 => k_extra "k om"); (case o5 => k_extra "k om"); (case o6 => k_extra "k om"); (case o7 => k_extra "k om"); (case o8 => k_extra "k om"); (case i1 => k_extra "k om"); (case i2 => k_extra "k om"); (case i3 => k_extra "k om"); (case r1 => assumption); (case r2 => assumption); (case r3 => assumption); (case hm0 => (first | exact (congrArg (fun z9 => some (Value.str z9 _)) (tx_app _ [_])) | exact (congrArg (fun z9 => some (Value.str z9 _)) ((congrArg (fun y9 => tx _ ++ y9) lit_e).trans (tx_app _ []))) | (rw [← lit_e]; exact rfl) | exact rfl)); (case h0 => exact ⟨rfl, rfl⟩); (case hae => (rintro _ ⟨rfl, h9⟩; exact h9.symm)); (case hks => exact rfl); (case hkx => exact rfl); (case ev => (intro Q9 h9; refine' nameX_L ?F ?v h9 ?a ?b; (case F => k_asm); (case a => rfl); (case b => rfl); (case v => rfl))); (case hs => (intro _; rfl)); (case hE => first | passes_own | with_unfolding_all passes_own))
  · intro tok tt u p9 ln9 k19 tp9 h9 tk9 hp9 he9 F9 N9
    (try dsimp only)
    (repeat' ((fail_if_success (with_reducible show wpAny _ _ (exec (Stmt.For _ _ _ _ _) _) _ _ _)); (first | (k_unfold; (try dsimp only)) | (k_end; wrow_close) | walk1 | (dsimp only; walk1) | (leave1; walk_say "STEP leave1"; try dsimp only) | fail "no step")))
    rw [he9] at hret
    (k_dflt (refine' hret S.length _ _ _ _ _ _ _ ?lF ?lp ?ln ?le ?lN)); (case lF => k_asm); (case lN => (refine' cb_drop (by k_asm) ?_; first | ((repeat' (first | exact sb_refl | refine sb_keep ?_ | refine sb_skip ?_)); done) | repeat' (first | refine' List.forall_mem_cons.mpr ⟨?_, ?_⟩ | exact List.Mem.head _ | (intro z9 hz9; repeat (first | exact hz9 | refine' List.Mem.tail _ ?_)) | refine' List.Mem.tail _ ?_))); (case lp => omega); (case ln => omega); (case le => exact drop_all rfl)
  · intro n1 ch tok tt t p9 ln9 k19 tp9 h9 tk9 hc9 hn9 hp9 hG9 F9 N9
    obtain ⟨rfl, hG⟩ := hG9
    (repeat' ((fail_if_success (with_reducible show wpAny _ _ (exec (Stmt.For _ _ _ _ _) _) _ _ _)); (first | (k_unfold; (try dsimp only)) | (k_end; wrow_close) | walk1 | (dsimp only; walk1) | (leave1; walk_say "STEP leave1"; try dsimp only) | fail "no step")))
    · (rename (List.isEmpty (Builtin.Str.occurrences (Str.ofString "\n\t\x0d ") _ _ _ _) = _) => w1); replace w1 := not_ws w1; (try dsimp only [Bool.not_true, Bool.not_false] at w1); (rename (Str.mk #[_] == Str.ofString "\"") = _ => q1)
      (k_dflt (refine' for_nlx (S := S) (n := n1 + 1) (Ga := fun tok rem => tok.length + rem.length ≤ 4000 ∧ nq tok rem = ntok (S.cps.toList.drop n)) (Ge := fun tok => ntok (S.cps.toList.drop n) = (tok, [])) (foo := foo) (hdp := ?hdp) (hun := ?hun) (B := ?B) (F := ?F) (X := ?X) (T := ?T) (hg := ?hg) (hp := ?hp) (hn := ?hn) (o1 := ?o1) (o2 := ?o2) (o3 := ?o3) (o4 := ?o4) (o5 := ?o5) (o6 := ?o6) (o7 := ?o7) (o8 := ?o8) (N := ?N) (i1 := ?i1) (i2 := ?i2) (i3 := ?i3) (r1 := ?r1) (r2 := ?r2) (r3 := ?r3) (hm0 := ?hm0) (h0 := ?h0) (hae := ?hae) (hks := ?hks) (hkx := ?hkx) (ev := ?ev) (done := ?_) (turn := ?_) (hs := ?hs) (hE := ?hE)); (case hg => assumption); (case B => k_asm); (case F => k_asm); (case X => k_asm); (case T => k_asm); (case N => (refine' Picks.news (ps := [_, _, _, _, _, _, _, _, _, _, _, _]) ?_ (by k_asm); repeat' (first | exact Picks.nil | refine' Picks.cons ?_ ?_ | exact Pick.head | refine' Pick.tail ?_))); (case hdp => k_room); (case hun => k_units); (case hp => assumption); (case hn => assumption); (case o1 => k_extra "k om"); (case o2 => k_extra "k om"); (case o3 => k_extra "k om"); (case o4 => k_extra "k om"); (case o5 => k_extra "k om"); (case o6 => k_extra "k om"); (case o7 => k_extra "k om"); (case o8 => k_extra "k om"); (case i1 => k_extra "k om"); (case i2 => k_extra "k om"); (case i3 => k_extra "k om"); (case r1 => assumption); (case r2 => assumption); (case r3 => assumption); (case hm0 => (first | exact (congrArg (fun z9 => some (Value.str z9 _)) (tx_app _ [_])) | exact (congrArg (fun z9 => some (Value.str z9 _)) ((congrArg (fun y9 => tx _ ++ y9) lit_e).trans (tx_app _ []))) | (rw [← lit_e]; exact rfl) | exact rfl)); (case h0 => (refine ⟨(by simp; omega), ?_⟩; rw [ntok_q w1 (is_q q1)] at hG; exact hG)); (case hae => (rintro tok9 ⟨_, h9⟩; rw [nq_e] at h9; exact h9.symm)); (case hks => exact rfl); (case hkx => exact rfl); (case ev => (intro Q9 h9; refine' nameX_L ?F ?v h9 ?a ?b; (case F => k_asm); (case a => rfl); (case b => rfl); (case v => rfl))); (case hs => (intro _; rfl)); (case hE => first | passes_own | with_unfolding_all passes_own))
      · intro tok tt u p9 ln9 k19 tp9 h9 tk9 hp9 he9 F9 N9; (try dsimp only)
        (repeat' ((fail_if_success (with_reducible show wpAny _ _ (exec (Stmt.For _ _ _ _ _) _) _ _ _)); (first | (k_unfold; (try dsimp only)) | (k_end; wrow_close) | walk1 | (dsimp only; walk1) | (leave1; walk_say "STEP leave1"; try dsimp only) | fail "no step")))
        (k_dflt (refine' nl_over (n' := 0) (F := ?lF) (h1 := ?l1) (h2 := ?l2) (hp := ?lp) (N := ?lN) (hG := ?lG)); (case lF => k_asm); (case lN => (refine' cb_drop (by k_asm) ?_; first | ((repeat' (first | exact sb_refl | refine sb_keep ?_ | refine sb_skip ?_)); done) | repeat' (first | refine' List.forall_mem_cons.mpr ⟨?_, ?_⟩ | exact List.Mem.head _ | (intro z9 hz9; repeat (first | exact hz9 | refine' List.Mem.tail _ ?_)) | refine' List.Mem.tail _ ?_))); (case l1 => exact rfl); (case l2 => (intro z9 h8 h9; (repeat (first | refine ifn h8 ?_ | refine ifn h9 ?_ | refine ifr h8 ?_ | refine ifr h9 ?_)); rfl)); (case lp => assumption); (case lG => exact he9))
      · intro n2 ch2 tok2 tt2 t2 p92 ln92 k192 tp92 h92 tk92 hc92 hn92 hp92 hG93 F92 N92; obtain ⟨hL, hG92⟩ := hG93; have hL2 : (tx tok2).length ≤ 4000 := (by rw [tx_len]; omega)
        (repeat' ((fail_if_success (with_reducible show wpAny _ _ (exec (Stmt.For _ _ _ _ _) _) _ _ _)); (first | (k_unfold; (try dsimp only)) | (k_end; wrow_close) | walk1 | (dsimp only; walk1) | (leave1; walk_say "STEP leave1"; try dsimp only) | fail "no step")))
        · (rename (Str.mk #[_] == Str.ofString "\"") = _ => q2)
          (have e9 := hG92.symm.trans (nq_q (is_q q2))); rw [e9] at hret; (k_dflt (refine' hret (n2 + 1) _ _ _ _ _ _ _ ?lF ?lp ?ln ?le ?lN)); (case lF => k_asm); (case lN => (refine' cb_drop (by k_asm) ?_; first | ((repeat' (first | exact sb_refl | refine sb_keep ?_ | refine sb_skip ?_)); done) | repeat' (first | refine' List.forall_mem_cons.mpr ⟨?_, ?_⟩ | exact List.Mem.head _ | (intro z9 hz9; repeat (first | exact hz9 | refine' List.Mem.tail _ ?_)) | refine' List.Mem.tail _ ?_))); (case lp => omega); (case ln => omega); (case le => exact rfl)
        · (rename (Str.mk #[_] == Str.ofString "\"") = _ => q2); (rename (Str.mk #[_] == Str.ofString "\\") = _ => b2); (rename n2 + 1 = S.length => e2)
          (k_dflt (refine' nl_next (n' := n2 + 1) (F := ?lF) (h1 := ?l1) (h2 := ?l2) (hp := ?lp) (hle := ?le) (hn := ?ln) (N := ?lN) (hG := ?lG)); (case lF => k_asm); (case lN => (refine' cb_drop (by k_asm) ?_; first | ((repeat' (first | exact sb_refl | refine sb_keep ?_ | refine sb_skip ?_)); done) | repeat' (first | refine' List.forall_mem_cons.mpr ⟨?_, ?_⟩ | exact List.Mem.head _ | (intro z9 hz9; repeat (first | exact hz9 | refine' List.Mem.tail _ ?_)) | refine' List.Mem.tail _ ?_))); (case l1 => (first | exact (congrArg (fun z9 => some (Value.str z9 _)) (tx_app _ [_])) | exact (congrArg (fun z9 => some (Value.str z9 _)) ((congrArg (fun y9 => tx _ ++ y9) lit_e).trans (tx_app _ []))) | (rw [← lit_e]; exact rfl) | exact rfl)); (case l2 => (intro z9 h8 h9; (repeat (first | refine ifn h8 ?_ | refine ifn h9 ?_ | refine ifr h8 ?_ | refine ifr h9 ?_)); rfl)); (case lp => omega); (case le => k_extra "k om"); (case ln => omega); (case lG => (refine ⟨(by simp at hL ⊢; omega), ?_⟩; rw [drop_all e2] at hG92 ⊢; rw [nq_b (is_b b2), nqe_e] at hG92; rw [nq_e, List.append_nil]; exact hG92)))
        · (rename (Str.mk #[_] == Str.ofString "\"") = _ => q2); (rename (Str.mk #[_] == Str.ofString "\\") = _ => b2); (rename S.cps[n2 + 1]? = some _ => e2)
          have g2 := lt_of_get e2
          (k_dflt (refine' nl_next (n' := n2 + 1 + 1) (F := ?lF) (h1 := ?l1) (h2 := ?l2) (hp := ?lp) (hle := ?le) (hn := ?ln) (N := ?lN) (hG := ?lG)); (case lF => k_asm); (case lN => (refine' cb_drop (by k_asm) ?_; first | ((repeat' (first | exact sb_refl | refine sb_keep ?_ | refine sb_skip ?_)); done) | repeat' (first | refine' List.forall_mem_cons.mpr ⟨?_, ?_⟩ | exact List.Mem.head _ | (intro z9 hz9; repeat (first | exact hz9 | refine' List.Mem.tail _ ?_)) | refine' List.Mem.tail _ ?_))); (case l1 => (first | exact (congrArg (fun z9 => some (Value.str z9 _)) (tx_app _ [_])) | exact (congrArg (fun z9 => some (Value.str z9 _)) ((congrArg (fun y9 => tx _ ++ y9) lit_e).trans (tx_app _ []))) | (rw [← lit_e]; exact rfl) | exact rfl)); (case l2 => (intro z9 h8 h9; (repeat (first | refine ifn h8 ?_ | refine ifn h9 ?_ | refine ifr h8 ?_ | refine ifr h9 ?_)); rfl)); (case lp => omega); (case le => k_extra "k om"); (case ln => omega); (case lG => (refine ⟨(by simp at hL ⊢; omega), ?_⟩; rw [nq_b (is_b b2), drop_cons e2, nqe_c] at hG92; exact hG92)))
        · (rename (Str.mk #[_] == Str.ofString "\"") = _ => q2); (rename (Str.mk #[_] == Str.ofString "\\") = _ => b2)
          (k_dflt (refine' nl_next (n' := n2 + 1) (F := ?lF) (h1 := ?l1) (h2 := ?l2) (hp := ?lp) (hle := ?le) (hn := ?ln) (N := ?lN) (hG := ?lG)); (case lF => k_asm); (case lN => (refine' cb_drop (by k_asm) ?_; first | ((repeat' (first | exact sb_refl | refine sb_keep ?_ | refine sb_skip ?_)); done) | repeat' (first | refine' List.forall_mem_cons.mpr ⟨?_, ?_⟩ | exact List.Mem.head _ | (intro z9 hz9; repeat (first | exact hz9 | refine' List.Mem.tail _ ?_)) | refine' List.Mem.tail _ ?_))); (case l1 => (first | exact (congrArg (fun z9 => some (Value.str z9 _)) (tx_app _ [_])) | exact (congrArg (fun z9 => some (Value.str z9 _)) ((congrArg (fun y9 => tx _ ++ y9) lit_e).trans (tx_app _ []))) | (rw [← lit_e]; exact rfl) | exact rfl)); (case l2 => (intro z9 h8 h9; (repeat (first | refine ifn h8 ?_ | refine ifn h9 ?_ | refine ifr h8 ?_ | refine ifr h9 ?_)); rfl)); (case lp => omega); (case le => k_extra "k om"); (case ln => omega); (case lG => (refine ⟨(by simp at hL ⊢; omega), ?_⟩; rw [nq_c (no_q q2) (no_b b2)] at hG92; exact hG92)))
    · (rename (List.isEmpty (Builtin.Str.occurrences (Str.ofString "\n\t\x0d ") _ _ _ _) = _) => w1); replace w1 := not_ws w1; (try dsimp only [Bool.not_true, Bool.not_false] at w1); (rename (Str.mk #[_] == Str.ofString "\"") = _ => q1); (rename (Str.mk #[_] == Str.ofString "\\") = _ => b1); (rename n1 + 1 = S.length => e1)
      (k_dflt (refine' for_nlx (S := S) (tok0 := []) (n := n1 + 1) (Ga := fun tok rem => tok.length + rem.length ≤ 4000 ∧ nw tok rem = ntok (S.cps.toList.drop n)) (Ge := fun tok => ntok (S.cps.toList.drop n) = (tok, [])) (foo := foo) (hdp := ?hdp) (hun := ?hun) (B := ?B) (F := ?F) (X := ?X) (T := ?T) (hg := ?hg) (hp := ?hp) (hn := ?hn) (o1 := ?o1) (o2 := ?o2) (o3 := ?o3) (o4 := ?o4) (o5 := ?o5) (o6 := ?o6) (o7 := ?o7) (o8 := ?o8) (N := ?N) (i1 := ?i1) (i2 := ?i2) (i3 := ?i3) (r1 := ?r1) (r2 := ?r2) (r3 := ?r3) (hm0 := ?hm0) (h0 := ?h0) (hae := ?hae) (hks := ?hks) (hkx := ?hkx) (ev := ?ev) (done := ?_) (turn := ?_) (hs := ?hs) (hE := ?hE)); (case hg => assumption); (case B => k_asm); (case F => k_asm); (case X => k_asm); (case T => k_asm); (case N => (refine' Picks.news (ps := [_, _, _, _, _, _, _, _, _, _, _, _]) ?_ (by k_asm); repeat' (first | exact Picks.nil | refine' Picks.cons ?_ ?_ | exact Pick.head | refine' Pick.tail ?_))); (case hdp => k_room); (case hun => k_units); (case hp => assumption); (case hn => assumption); (case o1 => k_extra "k om"); (case o2 => k_extra "k om"); (case o3 => k_extra "k om"); (case o4 => k_extra "k om"); (case o5 => k_extra "k om"); (case o6 => k_extra "k om"); (case o7 => k_extra "k om"); (case o8 => k_extra "k om"); (case i1 => k_extra "k om"); (case i2 => k_extra "k om"); (case i3 => k_extra "k om"); (case r1 => assumption); (case r2 => assumption); (case r3 => assumption); (case hm0 => exact congrArg (fun z9 => some (Value.str z9 _)) ((congrArg (fun y9 => tx [] ++ y9) lit_e).trans (tx_app [] []))); (case h0 => (refine ⟨(by simp; omega), ?_⟩; rw [drop_all e1] at hG ⊢; rw [ntok_b w1 (is_b b1), nwe_e] at hG; rw [nw_e]; exact hG)); (case hae => (rintro tok9 ⟨_, h9⟩; rw [nw_e] at h9; exact h9.symm)); (case hks => exact rfl); (case hkx => exact rfl); (case ev => (intro Q9 h9; refine' nameX_L ?F ?v h9 ?a ?b; (case F => k_asm); (case a => rfl); (case b => rfl); (case v => rfl))); (case hs => (intro _; rfl)); (case hE => first | passes_own | with_unfolding_all passes_own))
      · intro tok tt u p9 ln9 k19 tp9 h9 tk9 hp9 he9 F9 N9; (try dsimp only)
        (repeat' ((fail_if_success (with_reducible show wpAny _ _ (exec (Stmt.For _ _ _ _ _) _) _ _ _)); (first | (k_unfold; (try dsimp only)) | (k_end; wrow_close) | walk1 | (dsimp only; walk1) | (leave1; walk_say "STEP leave1"; try dsimp only) | fail "no step")))
        (k_dflt (refine' nl_over (n' := 0) (F := ?lF) (h1 := ?l1) (h2 := ?l2) (hp := ?lp) (N := ?lN) (hG := ?lG)); (case lF => k_asm); (case lN => (refine' cb_drop (by k_asm) ?_; first | ((repeat' (first | exact sb_refl | refine sb_keep ?_ | refine sb_skip ?_)); done) | repeat' (first | refine' List.forall_mem_cons.mpr ⟨?_, ?_⟩ | exact List.Mem.head _ | (intro z9 hz9; repeat (first | exact hz9 | refine' List.Mem.tail _ ?_)) | refine' List.Mem.tail _ ?_))); (case l1 => exact rfl); (case l2 => (intro z9 h8 h9; (repeat (first | refine ifn h8 ?_ | refine ifn h9 ?_ | refine ifr h8 ?_ | refine ifr h9 ?_)); rfl)); (case lp => assumption); (case lG => exact he9))
      · intro n2 ch2 tok2 tt2 t2 p92 ln92 k192 tp92 h92 tk92 hc92 hn92 hp92 hG93 F92 N92; obtain ⟨hL, hG92⟩ := hG93; have hL2 : (tx tok2).length ≤ 4000 := (by rw [tx_len]; omega)
        (repeat' ((fail_if_success (with_reducible show wpAny _ _ (exec (Stmt.For _ _ _ _ _) _) _ _ _)); (first | (k_unfold; (try dsimp only)) | (k_end; wrow_close) | walk1 | (dsimp only; walk1) | (leave1; walk_say "STEP leave1"; try dsimp only) | fail "no step")))
        · (rename (List.isEmpty (Builtin.Str.occurrences (Str.ofString "\n\t\x0d ") _ _ _ _) = _) => w2); replace w2 := not_ws w2; (try dsimp only [Bool.not_true, Bool.not_false] at w2); (rename (Str.mk #[_] == Str.ofString "\\") = _ => b2); (rename n2 + 1 = S.length => e2)
          (k_dflt (refine' nl_next (n' := n2 + 1) (F := ?lF) (h1 := ?l1) (h2 := ?l2) (hp := ?lp) (hle := ?le) (hn := ?ln) (N := ?lN) (hG := ?lG)); (case lF => k_asm); (case lN => (refine' cb_drop (by k_asm) ?_; first | ((repeat' (first | exact sb_refl | refine sb_keep ?_ | refine sb_skip ?_)); done) | repeat' (first | refine' List.forall_mem_cons.mpr ⟨?_, ?_⟩ | exact List.Mem.head _ | (intro z9 hz9; repeat (first | exact hz9 | refine' List.Mem.tail _ ?_)) | refine' List.Mem.tail _ ?_))); (case l1 => (first | exact (congrArg (fun z9 => some (Value.str z9 _)) (tx_app _ [_])) | exact (congrArg (fun z9 => some (Value.str z9 _)) ((congrArg (fun y9 => tx _ ++ y9) lit_e).trans (tx_app _ []))) | (rw [← lit_e]; exact rfl) | exact rfl)); (case l2 => (intro z9 h8 h9; (repeat (first | refine ifn h8 ?_ | refine ifn h9 ?_ | refine ifr h8 ?_ | refine ifr h9 ?_)); rfl)); (case lp => omega); (case le => k_extra "k om"); (case ln => omega); (case lG => (refine ⟨(by simp at hL ⊢; omega), ?_⟩; rw [drop_all e2] at hG92 ⊢; rw [nw_b w2 (is_b b2), nwe_e] at hG92; rw [nw_e, List.append_nil]; exact hG92)))
        · (rename (List.isEmpty (Builtin.Str.occurrences (Str.ofString "\n\t\x0d ") _ _ _ _) = _) => w2); replace w2 := not_ws w2; (try dsimp only [Bool.not_true, Bool.not_false] at w2); (rename (Str.mk #[_] == Str.ofString "\\") = _ => b2); (rename S.cps[n2 + 1]? = some _ => e2)
          have g2 := lt_of_get e2
          (k_dflt (refine' nl_next (n' := n2 + 1 + 1) (F := ?lF) (h1 := ?l1) (h2 := ?l2) (hp := ?lp) (hle := ?le) (hn := ?ln) (N := ?lN) (hG := ?lG)); (case lF => k_asm); (case lN => (refine' cb_drop (by k_asm) ?_; first | ((repeat' (first | exact sb_refl | refine sb_keep ?_ | refine sb_skip ?_)); done) | repeat' (first | refine' List.forall_mem_cons.mpr ⟨?_, ?_⟩ | exact List.Mem.head _ | (intro z9 hz9; repeat (first | exact hz9 | refine' List.Mem.tail _ ?_)) | refine' List.Mem.tail _ ?_))); (case l1 => (first | exact (congrArg (fun z9 => some (Value.str z9 _)) (tx_app _ [_])) | exact (congrArg (fun z9 => some (Value.str z9 _)) ((congrArg (fun y9 => tx _ ++ y9) lit_e).trans (tx_app _ []))) | (rw [← lit_e]; exact rfl) | exact rfl)); (case l2 => (intro z9 h8 h9; (repeat (first | refine ifn h8 ?_ | refine ifn h9 ?_ | refine ifr h8 ?_ | refine ifr h9 ?_)); rfl)); (case lp => omega); (case le => k_extra "k om"); (case ln => omega); (case lG => (refine ⟨(by simp at hL ⊢; omega), ?_⟩; rw [nw_b w2 (is_b b2), drop_cons e2, nwe_c] at hG92; exact hG92)))
        · (rename (List.isEmpty (Builtin.Str.occurrences (Str.ofString "\n\t\x0d ") _ _ _ _) = _) => w2); replace w2 := not_ws w2; (try dsimp only [Bool.not_true, Bool.not_false] at w2); (rename (Str.mk #[_] == Str.ofString "\\") = _ => b2)
          (k_dflt (refine' nl_next (n' := n2 + 1) (F := ?lF) (h1 := ?l1) (h2 := ?l2) (hp := ?lp) (hle := ?le) (hn := ?ln) (N := ?lN) (hG := ?lG)); (case lF => k_asm); (case lN => (refine' cb_drop (by k_asm) ?_; first | ((repeat' (first | exact sb_refl | refine sb_keep ?_ | refine sb_skip ?_)); done) | repeat' (first | refine' List.forall_mem_cons.mpr ⟨?_, ?_⟩ | exact List.Mem.head _ | (intro z9 hz9; repeat (first | exact hz9 | refine' List.Mem.tail _ ?_)) | refine' List.Mem.tail _ ?_))); (case l1 => (first | exact (congrArg (fun z9 => some (Value.str z9 _)) (tx_app _ [_])) | exact (congrArg (fun z9 => some (Value.str z9 _)) ((congrArg (fun y9 => tx _ ++ y9) lit_e).trans (tx_app _ []))) | (rw [← lit_e]; exact rfl) | exact rfl)); (case l2 => (intro z9 h8 h9; (repeat (first | refine ifn h8 ?_ | refine ifn h9 ?_ | refine ifr h8 ?_ | refine ifr h9 ?_)); rfl)); (case lp => omega); (case le => k_extra "k om"); (case ln => omega); (case lG => (refine ⟨(by simp at hL ⊢; omega), ?_⟩; rw [nw_c w2 (no_b b2)] at hG92; exact hG92)))
        · (rename (List.isEmpty (Builtin.Str.occurrences (Str.ofString "\n\t\x0d ") _ _ _ _) = _) => w2); replace w2 := not_ws w2; (try dsimp only [Bool.not_true, Bool.not_false] at w2)
          (have e9 := hG92.symm.trans (nw_w w2)); rw [e9] at hret; (k_dflt (refine' hret (n2 + 1) _ _ _ _ _ _ _ ?lF ?lp ?ln ?le ?lN)); (case lF => k_asm); (case lN => (refine' cb_drop (by k_asm) ?_; first | ((repeat' (first | exact sb_refl | refine sb_keep ?_ | refine sb_skip ?_)); done) | repeat' (first | refine' List.forall_mem_cons.mpr ⟨?_, ?_⟩ | exact List.Mem.head _ | (intro z9 hz9; repeat (first | exact hz9 | refine' List.Mem.tail _ ?_)) | refine' List.Mem.tail _ ?_))); (case lp => omega); (case ln => omega); (case le => exact rfl)
    · (rename (List.isEmpty (Builtin.Str.occurrences (Str.ofString "\n\t\x0d ") _ _ _ _) = _) => w1); replace w1 := not_ws w1; (try dsimp only [Bool.not_true, Bool.not_false] at w1); (rename (Str.mk #[_] == Str.ofString "\"") = _ => q1); (rename (Str.mk #[_] == Str.ofString "\\") = _ => b1); (rename S.cps[n1 + 1]? = some _ => e1)
      have g1 := lt_of_get e1
      (k_dflt (refine' for_nlx (S := S) (n := n1 + 1 + 1) (Ga := fun tok rem => tok.length + rem.length ≤ 4000 ∧ nw tok rem = ntok (S.cps.toList.drop n)) (Ge := fun tok => ntok (S.cps.toList.drop n) = (tok, [])) (foo := foo) (hdp := ?hdp) (hun := ?hun) (B := ?B) (F := ?F) (X := ?X) (T := ?T) (hg := ?hg) (hp := ?hp) (hn := ?hn) (o1 := ?o1) (o2 := ?o2) (o3 := ?o3) (o4 := ?o4) (o5 := ?o5) (o6 := ?o6) (o7 := ?o7) (o8 := ?o8) (N := ?N) (i1 := ?i1) (i2 := ?i2) (i3 := ?i3) (r1 := ?r1) (r2 := ?r2) (r3 := ?r3) (hm0 := ?hm0) (h0 := ?h0) (hae := ?hae) (hks := ?hks) (hkx := ?hkx) (ev := ?ev) (done := ?_) (turn := ?_) (hs := ?hs) (hE := ?hE)); (case hg => assumption); (case B => k_asm); (case F => k_asm); (case X => k_asm); (case T => k_asm); (case N => (refine' Picks.news (ps := [_, _, _, _, _, _, _, _, _, _, _, _]) ?_ (by k_asm); repeat' (first | exact Picks.nil | refine' Picks.cons ?_ ?_ | exact Pick.head | refine' Pick.tail ?_))); (case hdp => k_room); (case hun => k_units); (case hp => omega); (case hn => omega); (case o1 => k_extra "k om"); (case o2 => k_extra "k om"); (case o3 => k_extra "k om"); (case o4 => k_extra "k om"); (case o5 => k_extra "k om"); (case o6 => k_extra "k om"); (case o7 => k_extra "k om"); (case o8 => k_extra "k om"); (case i1 => k_extra "k om"); (case i2 => k_extra "k om"); (case i3 => k_extra "k om"); (case r1 => assumption); (case r2 => assumption); (case r3 => assumption); (case hm0 => (first | exact (congrArg (fun z9 => some (Value.str z9 _)) (tx_app _ [_])) | exact (congrArg (fun z9 => some (Value.str z9 _)) ((congrArg (fun y9 => tx _ ++ y9) lit_e).trans (tx_app _ []))) | (rw [← lit_e]; exact rfl) | exact rfl)); (case h0 => (refine ⟨(by simp; omega), ?_⟩; rw [ntok_b w1 (is_b b1), drop_cons e1, nwe_c] at hG; exact hG)); (case hae => (rintro tok9 ⟨_, h9⟩; rw [nw_e] at h9; exact h9.symm)); (case hks => exact rfl); (case hkx => exact rfl); (case ev => (intro Q9 h9; refine' nameX_L ?F ?v h9 ?a ?b; (case F => k_asm); (case a => rfl); (case b => rfl); (case v => rfl))); (case hs => (intro _; rfl)); (case hE => first | passes_own | with_unfolding_all passes_own))
      · intro tok tt u p9 ln9 k19 tp9 h9 tk9 hp9 he9 F9 N9; (try dsimp only)
        (repeat' ((fail_if_success (with_reducible show wpAny _ _ (exec (Stmt.For _ _ _ _ _) _) _ _ _)); (first | (k_unfold; (try dsimp only)) | (k_end; wrow_close) | walk1 | (dsimp only; walk1) | (leave1; walk_say "STEP leave1"; try dsimp only) | fail "no step")))
        (k_dflt (refine' nl_over (n' := 0) (F := ?lF) (h1 := ?l1) (h2 := ?l2) (hp := ?lp) (N := ?lN) (hG := ?lG)); (case lF => k_asm); (case lN => (refine' cb_drop (by k_asm) ?_; first | ((repeat' (first | exact sb_refl | refine sb_keep ?_ | refine sb_skip ?_)); done) | repeat' (first | refine' List.forall_mem_cons.mpr ⟨?_, ?_⟩ | exact List.Mem.head _ | (intro z9 hz9; repeat (first | exact hz9 | refine' List.Mem.tail _ ?_)) | refine' List.Mem.tail _ ?_))); (case l1 => exact rfl); (case l2 => (intro z9 h8 h9; (repeat (first | refine ifn h8 ?_ | refine ifn h9 ?_ | refine ifr h8 ?_ | refine ifr h9 ?_)); rfl)); (case lp => assumption); (case lG => exact he9))
      · intro n2 ch2 tok2 tt2 t2 p92 ln92 k192 tp92 h92 tk92 hc92 hn92 hp92 hG93 F92 N92; obtain ⟨hL, hG92⟩ := hG93; have hL2 : (tx tok2).length ≤ 4000 := (by rw [tx_len]; omega)
        (repeat' ((fail_if_success (with_reducible show wpAny _ _ (exec (Stmt.For _ _ _ _ _) _) _ _ _)); (first | (k_unfold; (try dsimp only)) | (k_end; wrow_close) | walk1 | (dsimp only; walk1) | (leave1; walk_say "STEP leave1"; try dsimp only) | fail "no step")))
        · (rename (List.isEmpty (Builtin.Str.occurrences (Str.ofString "\n\t\x0d ") _ _ _ _) = _) => w2); replace w2 := not_ws w2; (try dsimp only [Bool.not_true, Bool.not_false] at w2); (rename (Str.mk #[_] == Str.ofString "\\") = _ => b2); (rename n2 + 1 = S.length => e2)
          (k_dflt (refine' nl_next (n' := n2 + 1) (F := ?lF) (h1 := ?l1) (h2 := ?l2) (hp := ?lp) (hle := ?le) (hn := ?ln) (N := ?lN) (hG := ?lG)); (case lF => k_asm); (case lN => (refine' cb_drop (by k_asm) ?_; first | ((repeat' (first | exact sb_refl | refine sb_keep ?_ | refine sb_skip ?_)); done) | repeat' (first | refine' List.forall_mem_cons.mpr ⟨?_, ?_⟩ | exact List.Mem.head _ | (intro z9 hz9; repeat (first | exact hz9 | refine' List.Mem.tail _ ?_)) | refine' List.Mem.tail _ ?_))); (case l1 => (first | exact (congrArg (fun z9 => some (Value.str z9 _)) (tx_app _ [_])) | exact (congrArg (fun z9 => some (Value.str z9 _)) ((congrArg (fun y9 => tx _ ++ y9) lit_e).trans (tx_app _ []))) | (rw [← lit_e]; exact rfl) | exact rfl)); (case l2 => (intro z9 h8 h9; (repeat (first | refine ifn h8 ?_ | refine ifn h9 ?_ | refine ifr h8 ?_ | refine ifr h9 ?_)); rfl)); (case lp => omega); (case le => k_extra "k om"); (case ln => omega); (case lG => (refine ⟨(by simp at hL ⊢; omega), ?_⟩; rw [drop_all e2] at hG92 ⊢; rw [nw_b w2 (is_b b2), nwe_e] at hG92; rw [nw_e, List.append_nil]; exact hG92)))
        · (rename (List.isEmpty (Builtin.Str.occurrences (Str.ofString "\n\t\x0d ") _ _ _ _) = _) => w2); replace w2 := not_ws w2; (try dsimp only [Bool.not_true, Bool.not_false] at w2); (rename (Str.mk #[_] == Str.ofString "\\") = _ => b2); (rename S.cps[n2 + 1]? = some _ => e2)
          have g2 := lt_of_get e2
          (k_dflt (refine' nl_next (n' := n2 + 1 + 1) (F := ?lF) (h1 := ?l1) (h2 := ?l2) (hp := ?lp) (hle := ?le) (hn := ?ln) (N := ?lN) (hG := ?lG)); (case lF => k_asm); (case lN => (refine' cb_drop (by k_asm) ?_; first | ((repeat' (first | exact sb_refl | refine sb_keep ?_ | refine sb_skip ?_)); done) | repeat' (first | refine' List.forall_mem_cons.mpr ⟨?_, ?_⟩ | exact List.Mem.head _ | (intro z9 hz9; repeat (first | exact hz9 | refine' List.Mem.tail _ ?_)) | refine' List.Mem.tail _ ?_))); (case l1 => (first | exact (congrArg (fun z9 => some (Value.str z9 _)) (tx_app _ [_])) | exact (congrArg (fun z9 => some (Value.str z9 _)) ((congrArg (fun y9 => tx _ ++ y9) lit_e).trans (tx_app _ []))) | (rw [← lit_e]; exact rfl) | exact rfl)); (case l2 => (intro z9 h8 h9; (repeat (first | refine ifn h8 ?_ | refine ifn h9 ?_ | refine ifr h8 ?_ | refine ifr h9 ?_)); rfl)); (case lp => omega); (case le => k_extra "k om"); (case ln => omega); (case lG => (refine ⟨(by simp at hL ⊢; omega), ?_⟩; rw [nw_b w2 (is_b b2), drop_cons e2, nwe_c] at hG92; exact hG92)))
        · (rename (List.isEmpty (Builtin.Str.occurrences (Str.ofString "\n\t\x0d ") _ _ _ _) = _) => w2); replace w2 := not_ws w2; (try dsimp only [Bool.not_true, Bool.not_false] at w2); (rename (Str.mk #[_] == Str.ofString "\\") = _ => b2)
          (k_dflt (refine' nl_next (n' := n2 + 1) (F := ?lF) (h1 := ?l1) (h2 := ?l2) (hp := ?lp) (hle := ?le) (hn := ?ln) (N := ?lN) (hG := ?lG)); (case lF => k_asm); (case lN => (refine' cb_drop (by k_asm) ?_; first | ((repeat' (first | exact sb_refl | refine sb_keep ?_ | refine sb_skip ?_)); done) | repeat' (first | refine' List.forall_mem_cons.mpr ⟨?_, ?_⟩ | exact List.Mem.head _ | (intro z9 hz9; repeat (first | exact hz9 | refine' List.Mem.tail _ ?_)) | refine' List.Mem.tail _ ?_))); (case l1 => (first | exact (congrArg (fun z9 => some (Value.str z9 _)) (tx_app _ [_])) | exact (congrArg (fun z9 => some (Value.str z9 _)) ((congrArg (fun y9 => tx _ ++ y9) lit_e).trans (tx_app _ []))) | (rw [← lit_e]; exact rfl) | exact rfl)); (case l2 => (intro z9 h8 h9; (repeat (first | refine ifn h8 ?_ | refine ifn h9 ?_ | refine ifr h8 ?_ | refine ifr h9 ?_)); rfl)); (case lp => omega); (case le => k_extra "k om"); (case ln => omega); (case lG => (refine ⟨(by simp at hL ⊢; omega), ?_⟩; rw [nw_c w2 (no_b b2)] at hG92; exact hG92)))
        · (rename (List.isEmpty (Builtin.Str.occurrences (Str.ofString "\n\t\x0d ") _ _ _ _) = _) => w2); replace w2 := not_ws w2; (try dsimp only [Bool.not_true, Bool.not_false] at w2)
          (have e9 := hG92.symm.trans (nw_w w2)); rw [e9] at hret; (k_dflt (refine' hret (n2 + 1) _ _ _ _ _ _ _ ?lF ?lp ?ln ?le ?lN)); (case lF => k_asm); (case lN => (refine' cb_drop (by k_asm) ?_; first | ((repeat' (first | exact sb_refl | refine sb_keep ?_ | refine sb_skip ?_)); done) | repeat' (first | refine' List.forall_mem_cons.mpr ⟨?_, ?_⟩ | exact List.Mem.head _ | (intro z9 hz9; repeat (first | exact hz9 | refine' List.Mem.tail _ ?_)) | refine' List.Mem.tail _ ?_))); (case lp => omega); (case ln => omega); (case le => exact rfl)
    · (rename (List.isEmpty (Builtin.Str.occurrences (Str.ofString "\n\t\x0d ") _ _ _ _) = _) => w1); replace w1 := not_ws w1; (try dsimp only [Bool.not_true, Bool.not_false] at w1); (rename (Str.mk #[_] == Str.ofString "\"") = _ => q1); (rename (Str.mk #[_] == Str.ofString "\\") = _ => b1)
      (k_dflt (refine' for_nlx (S := S) (n := n1 + 1) (Ga := fun tok rem => tok.length + rem.length ≤ 4000 ∧ nw tok rem = ntok (S.cps.toList.drop n)) (Ge := fun tok => ntok (S.cps.toList.drop n) = (tok, [])) (foo := foo) (hdp := ?hdp) (hun := ?hun) (B := ?B) (F := ?F) (X := ?X) (T := ?T) (hg := ?hg) (hp := ?hp) (hn := ?hn) (o1 := ?o1) (o2 := ?o2) (o3 := ?o3) (o4 := ?o4) (o5 := ?o5) (o6 := ?o6) (o7 := ?o7) (o8 := ?o8) (N := ?N) (i1 := ?i1) (i2 := ?i2) (i3 := ?i3) (r1 := ?r1) (r2 := ?r2) (r3 := ?r3) (hm0 := ?hm0) (h0 := ?h0) (hae := ?hae) (hks := ?hks) (hkx := ?hkx) (ev := ?ev) (done := ?_) (turn := ?_) (hs := ?hs) (hE := ?hE)); (case hg => assumption); (case B => k_asm); (case F => k_asm); (case X => k_asm); (case T => k_asm); (case N => (refine' Picks.news (ps := [_, _, _, _, _, _, _, _, _, _, _, _]) ?_ (by k_asm); repeat' (first | exact Picks.nil | refine' Picks.cons ?_ ?_ | exact Pick.head | refine' Pick.tail ?_))); (case hdp => k_room); (case hun => k_units); (case hp => assumption); (case hn => assumption); (case o1 => k_extra "k om"); (case o2 => k_extra "k om"); (case o3 => k_extra "k om"); (case o4 => k_extra "k om"); (case o5 => k_extra "k om"); (case o6 => k_extra "k om"); (case o7 => k_extra "k om"); (case o8 => k_extra "k om"); (case i1 => k_extra "k om"); (case i2 => k_extra "k om"); (case i3 => k_extra "k om"); (case r1 => assumption); (case r2 => assumption); (case r3 => assumption); (case hm0 => (first | exact (congrArg (fun z9 => some (Value.str z9 _)) (tx_app _ [_])) | exact (congrArg (fun z9 => some (Value.str z9 _)) ((congrArg (fun y9 => tx _ ++ y9) lit_e).trans (tx_app _ []))) | (rw [← lit_e]; exact rfl) | exact rfl)); (case h0 => (refine ⟨(by simp; omega), ?_⟩; rw [ntok_c w1 (no_q q1) (no_b b1)] at hG; exact hG)); (case hae => (rintro tok9 ⟨_, h9⟩; rw [nw_e] at h9; exact h9.symm)); (case hks => exact rfl); (case hkx => exact rfl); (case ev => (intro Q9 h9; refine' nameX_L ?F ?v h9 ?a ?b; (case F => k_asm); (case a => rfl); (case b => rfl); (case v => rfl))); (case hs => (intro _; rfl)); (case hE => first | passes_own | with_unfolding_all passes_own))
      · intro tok tt u p9 ln9 k19 tp9 h9 tk9 hp9 he9 F9 N9; (try dsimp only)
        (repeat' ((fail_if_success (with_reducible show wpAny _ _ (exec (Stmt.For _ _ _ _ _) _) _ _ _)); (first | (k_unfold; (try dsimp only)) | (k_end; wrow_close) | walk1 | (dsimp only; walk1) | (leave1; walk_say "STEP leave1"; try dsimp only) | fail "no step")))
        (k_dflt (refine' nl_over (n' := 0) (F := ?lF) (h1 := ?l1) (h2 := ?l2) (hp := ?lp) (N := ?lN) (hG := ?lG)); (case lF => k_asm); (case lN => (refine' cb_drop (by k_asm) ?_; first | ((repeat' (first | exact sb_refl | refine sb_keep ?_ | refine sb_skip ?_)); done) | repeat' (first | refine' List.forall_mem_cons.mpr ⟨?_, ?_⟩ | exact List.Mem.head _ | (intro z9 hz9; repeat (first | exact hz9 | refine' List.Mem.tail _ ?_)) | refine' List.Mem.tail _ ?_))); (case l1 => exact rfl); (case l2 => (intro z9 h8 h9; (repeat (first | refine ifn h8 ?_ | refine ifn h9 ?_ | refine ifr h8 ?_ | refine ifr h9 ?_)); rfl)); (case lp => assumption); (case lG => exact he9))
      · intro n2 ch2 tok2 tt2 t2 p92 ln92 k192 tp92 h92 tk92 hc92 hn92 hp92 hG93 F92 N92; obtain ⟨hL, hG92⟩ := hG93; have hL2 : (tx tok2).length ≤ 4000 := (by rw [tx_len]; omega)
        (repeat' ((fail_if_success (with_reducible show wpAny _ _ (exec (Stmt.For _ _ _ _ _) _) _ _ _)); (first | (k_unfold; (try dsimp only)) | (k_end; wrow_close) | walk1 | (dsimp only; walk1) | (leave1; walk_say "STEP leave1"; try dsimp only) | fail "no step")))
        · (rename (List.isEmpty (Builtin.Str.occurrences (Str.ofString "\n\t\x0d ") _ _ _ _) = _) => w2); replace w2 := not_ws w2; (try dsimp only [Bool.not_true, Bool.not_false] at w2); (rename (Str.mk #[_] == Str.ofString "\\") = _ => b2); (rename n2 + 1 = S.length => e2)
          (k_dflt (refine' nl_next (n' := n2 + 1) (F := ?lF) (h1 := ?l1) (h2 := ?l2) (hp := ?lp) (hle := ?le) (hn := ?ln) (N := ?lN) (hG := ?lG)); (case lF => k_asm); (case lN => (refine' cb_drop (by k_asm) ?_; first | ((repeat' (first | exact sb_refl | refine sb_keep ?_ | refine sb_skip ?_)); done) | repeat' (first | refine' List.forall_mem_cons.mpr ⟨?_, ?_⟩ | exact List.Mem.head _ | (intro z9 hz9; repeat (first | exact hz9 | refine' List.Mem.tail _ ?_)) | refine' List.Mem.tail _ ?_))); (case l1 => (first | exact (congrArg (fun z9 => some (Value.str z9 _)) (tx_app _ [_])) | exact (congrArg (fun z9 => some (Value.str z9 _)) ((congrArg (fun y9 => tx _ ++ y9) lit_e).trans (tx_app _ []))) | (rw [← lit_e]; exact rfl) | exact rfl)); (case l2 => (intro z9 h8 h9; (repeat (first | refine ifn h8 ?_ | refine ifn h9 ?_ | refine ifr h8 ?_ | refine ifr h9 ?_)); rfl)); (case lp => omega); (case le => k_extra "k om"); (case ln => omega); (case lG => (refine ⟨(by simp at hL ⊢; omega), ?_⟩; rw [drop_all e2] at hG92 ⊢; rw [nw_b w2 (is_b b2), nwe_e] at hG92; rw [nw_e, List.append_nil]; exact hG92)))
        · (rename (List.isEmpty (Builtin.Str.occurrences (Str.ofString "\n\t\x0d ") _ _ _ _) = _) => w2); replace w2 := not_ws w2; (try dsimp only [Bool.not_true, Bool.not_false] at w2); (rename (Str.mk #[_] == Str.ofString "\\") = _ => b2); (rename S.cps[n2 + 1]? = some _ => e2)
          have g2 := lt_of_get e2
          (k_dflt (refine' nl_next (n' := n2 + 1 + 1) (F := ?lF) (h1 := ?l1) (h2 := ?l2) (hp := ?lp) (hle := ?le) (hn := ?ln) (N := ?lN) (hG := ?lG)); (case lF => k_asm); (case lN => (refine' cb_drop (by k_asm) ?_; first | ((repeat' (first | exact sb_refl | refine sb_keep ?_ | refine sb_skip ?_)); done) | repeat' (first | refine' List.forall_mem_cons.mpr ⟨?_, ?_⟩ | exact List.Mem.head _ | (intro z9 hz9; repeat (first | exact hz9 | refine' List.Mem.tail _ ?_)) | refine' List.Mem.tail _ ?_))); (case l1 => (first | exact (congrArg (fun z9 => some (Value.str z9 _)) (tx_app _ [_])) | exact (congrArg (fun z9 => some (Value.str z9 _)) ((congrArg (fun y9 => tx _ ++ y9) lit_e).trans (tx_app _ []))) | (rw [← lit_e]; exact rfl) | exact rfl)); (case l2 => (intro z9 h8 h9; (repeat (first | refine ifn h8 ?_ | refine ifn h9 ?_ | refine ifr h8 ?_ | refine ifr h9 ?_)); rfl)); (case lp => omega); (case le => k_extra "k om"); (case ln => omega); (case lG => (refine ⟨(by simp at hL ⊢; omega), ?_⟩; rw [nw_b w2 (is_b b2), drop_cons e2, nwe_c] at hG92; exact hG92)))
        · (rename (List.isEmpty (Builtin.Str.occurrences (Str.ofString "\n\t\x0d ") _ _ _ _) = _) => w2); replace w2 := not_ws w2; (try dsimp only [Bool.not_true, Bool.not_false] at w2); (rename (Str.mk #[_] == Str.ofString "\\") = _ => b2)
          (k_dflt (refine' nl_next (n' := n2 + 1) (F := ?lF) (h1 := ?l1) (h2 := ?l2) (hp := ?lp) (hle := ?le) (hn := ?ln) (N := ?lN) (hG := ?lG)); (case lF => k_asm); (case lN => (refine' cb_drop (by k_asm) ?_; first | ((repeat' (first | exact sb_refl | refine sb_keep ?_ | refine sb_skip ?_)); done) | repeat' (first | refine' List.forall_mem_cons.mpr ⟨?_, ?_⟩ | exact List.Mem.head _ | (intro z9 hz9; repeat (first | exact hz9 | refine' List.Mem.tail _ ?_)) | refine' List.Mem.tail _ ?_))); (case l1 => (first | exact (congrArg (fun z9 => some (Value.str z9 _)) (tx_app _ [_])) | exact (congrArg (fun z9 => some (Value.str z9 _)) ((congrArg (fun y9 => tx _ ++ y9) lit_e).trans (tx_app _ []))) | (rw [← lit_e]; exact rfl) | exact rfl)); (case l2 => (intro z9 h8 h9; (repeat (first | refine ifn h8 ?_ | refine ifn h9 ?_ | refine ifr h8 ?_ | refine ifr h9 ?_)); rfl)); (case lp => omega); (case le => k_extra "k om"); (case ln => omega); (case lG => (refine ⟨(by simp at hL ⊢; omega), ?_⟩; rw [nw_c w2 (no_b b2)] at hG92; exact hG92)))
        · (rename (List.isEmpty (Builtin.Str.occurrences (Str.ofString "\n\t\x0d ") _ _ _ _) = _) => w2); replace w2 := not_ws w2; (try dsimp only [Bool.not_true, Bool.not_false] at w2)
          (have e9 := hG92.symm.trans (nw_w w2)); rw [e9] at hret; (k_dflt (refine' hret (n2 + 1) _ _ _ _ _ _ _ ?lF ?lp ?ln ?le ?lN)); (case lF => k_asm); (case lN => (refine' cb_drop (by k_asm) ?_; first | ((repeat' (first | exact sb_refl | refine sb_keep ?_ | refine sb_skip ?_)); done) | repeat' (first | refine' List.forall_mem_cons.mpr ⟨?_, ?_⟩ | exact List.Mem.head _ | (intro z9 hz9; repeat (first | exact hz9 | refine' List.Mem.tail _ ?_)) | refine' List.Mem.tail _ ?_))); (case lp => omega); (case ln => omega); (case le => exact rfl)
    · (rename (List.isEmpty (Builtin.Str.occurrences (Str.ofString "\n\t\x0d ") _ _ _ _) = _) => w1); replace w1 := not_ws w1; (try dsimp only [Bool.not_true, Bool.not_false] at w1)
      (k_dflt (refine' nl_cont (n' := n1 + 1) (F := ?lF) (h1 := ?l1) (h2 := ?l2) (hp := ?lp) (hle := ?le) (hn := ?ln) (N := ?lN) (hG := ?lG)); (case lF => k_asm); (case lN => (refine' cb_drop (by k_asm) ?_; first | ((repeat' (first | exact sb_refl | refine sb_keep ?_ | refine sb_skip ?_)); done) | repeat' (first | refine' List.forall_mem_cons.mpr ⟨?_, ?_⟩ | exact List.Mem.head _ | (intro z9 hz9; repeat (first | exact hz9 | refine' List.Mem.tail _ ?_)) | refine' List.Mem.tail _ ?_))); (case l1 => (first | exact (congrArg (fun z9 => some (Value.str z9 _)) (tx_app _ [_])) | exact (congrArg (fun z9 => some (Value.str z9 _)) ((congrArg (fun y9 => tx _ ++ y9) lit_e).trans (tx_app _ []))) | (rw [← lit_e]; exact rfl) | exact rfl)); (case l2 => (intro z9 h8 h9; (repeat (first | refine ifn h8 ?_ | refine ifn h9 ?_ | refine ifr h8 ?_ | refine ifr h9 ?_)); rfl)); (case lp => omega); (case le => k_extra "k om"); (case ln => omega); (case lG => (rw [ntok_ws w1] at hG; exact ⟨rfl, hG⟩)))
end Mine
end
section
open PySem PySem.W PyProof.Rows PySem.Calls PySem.Spec PyProof
set_option Elab.async false
set_option maxRecDepth 100000
set_option maxHeartbeats 8000000
namespace Mine
theorem rules_S0_0 : True := by
  w_top off
  k_with_none
  (k_with "k tr" => (first | with_reducible assumption | (refine Nat.lt_trans (by with_reducible assumption) ?_; k_extra "k tr")))
  (k_with "k all" => assumption)
  (k_with "execs cons" => (k_here; first | (with_unfolding_all (refine gen_toks0 (Nat.succ_pos _) ?_); intro tk') | with_reducible refine execs_one ?_ | ((with_reducible refine wpAny_execs_cons ?_); (try dsimp only); try k_fold)))
  (k_with "call builtin:str.replace" => (k_here; k_dflt (refine' rep_rule (hx := ?hx) (hy := ?hy) (hz := ?hz) ?hu ?hv ?huv ?hyz ?hb ?hb2 ?_); (case hx => first | exact lit_ap | exact rfl); (case hy => first | exact lit_bs | exact lit_nl | exact lit_tb | exact lit_ap); (case hz => first | exact lit_bs2 | exact lit_bn | exact lit_bt | exact lit_n | exact lit_t | exact lit_q5); (case hu => (show @Ne Nat _ _); (try dsimp only); omega); (case hv => (show @Ne Nat _ _); (try dsimp only); omega); (case huv => (show @Ne Nat _ _); (try dsimp only); omega); (case hyz => decide +kernel); (case hb => first | assumption | omega); (case hb2 => decide); intro t' k' hk'; (try dsimp only at hk')))
  (k_with "call builtin:repr" => (k_here; k_dflt (refine repr_of_str ?_ ?hsz); (case hsz => assumption)))
  (k_with "call builtin:object.__new__" => (k_here; (rename Fr _ _ _ _ => F8); (rename News _ _ _ _ => N8); (rename Frag.In _ _ => X8); k_dflt ((have X9 := Frag.In.keeps X8 (Fr.keep F8)); refine' wpAny_call (new_own F8 N8 (X9 _ _ (by k_is)) rfl rfl rfl (Looks.of_peek X9 (by kernel_rfl)) (Looks.of_peek X9 (by kernel_rfl)) (looks_instIn X9 (by k_is)) (looks_subIn X9 (by k_is)) (looks_subIn X9 (by k_is)) ?_)); intro x9 d9 h9 F9 N9 l8 l9; (try clear X9); (try k_lt2 l9); (try dsimp only)))
  trivial
theorem c_sio {w : World} {pg : Program} {loose : List Str} {mean : ExcName → Option Value} {mg mb : Str → Option Value}
  {dp un : Nat} {gd : Option (List Code)} {env : Env} {outer : List Env} {A₀ : Around} {base h₀ : Heap} {L : Addr} {m : Str → Option Value} {s : Shared} {Q E : Value → Shared → Prop}
  {S : Str} {t : Tok} (hS : S.length ≤ 4000) {rest : List (Addr × Obj)} (N : News h₀ L s.heap rest)
  (B : Below A₀ base outer h₀) (F : Fr h₀ L s.heap m) (X : (Mine.K w.params).In h₀) (T : Top pg loose mean mg mb h₀) (hf : env.frame = some L) (hk : env.scope.kind = .function)
  (hdp : dp + 16 < recursionLimit) (hun : un + 150 < cLine)
  (hret : ∀ (x dx : Addr) (k1 k2 k3 k4 k5 k6 : Tok) (h' : Heap) (tk' : Nat), Fr h₀ L h' m → News h₀ L h' ((x, instObj 647 dx) :: (dx, dictOf (sioE w S 0 k1 k2 k3 k4 k5 k6) 3) :: rest) → (∀ q ∈ rest, q.1 < dx) → @LT.lt Nat _ dx x → Q (.ref x) { s with heap := h', toks := tk' }) (foo : PySem.Challenge.rw_in0140_01.foot = 8) :
   wpAny (model PySem.Challenge.rw_in0140_01.row.prog w) (arnd dp un gd env outer) (call (.ref 647) [.str S t]) Q E s := by
  revert foo X
  k_fill
  intro X foo
  clear foo
  have X1 := X.keeps F.keep
  refine' wpAny_call (make_own (K := Mine.K w.params) (fN := .ref 140) (fI := 417) X1 ?hC ?he ?hmade ?hcall ?htyp ?hself ?hi ?hf ?hget ?h)
  case hC => k_is
  case he => rfl
  case hmade => exact Looks.of_peek X1 (by kernel_rfl)
  case hcall => k_is
  case htyp => k_is
  case hself => k_is
  case hi => k_is
  case hf => k_is
  case hget =>
    intro A Q E h
    refine' cls_sm F X ?k3 ?k4 ?k5 ?k6 ?k7 h; (case k3 => k_is); (case k4 => k_is); (case k5 => k_is); (case k6 => k_is); (case k7 => k_handed)
  clear X1
  k_dflt ((refine' wpAny_call ?_); (refine' kp_both ?k1 ?k2 ?k3 ?k4 ?k5 ?kA ?kF ?kK ?k6 ?k7 ?k8 ?kV ?kX ?kQ ?kM ?kN ?kD ?kR ?kP ?kS ?kT ?kB ?_ ?c2 ?c3 ?c4 ?c5; (case kA => exact rfl); (case kF => exact hf); (case kK => exact hk); (case k1 => k_asm); (case k2 => k_asm); (case k3 => k_asm); (case k4 => k_asm); (case k5 => k_asm); (case k6 => k_is); (case k7 => k_is); (case k8 => k_room); (case kV => kp_lit); (case kX => kp_lit); (case kQ => exact rfl); (case kM => exact rfl); (case kN => exact rfl); (case kD => kp_flats); (case kR => exact rfl); (case kP => exact rfl); (case kS => exact fun _ => rfl); (case kT => exact fun _ _ => rfl); (case kB => exact fun _ _ => locs rfl); (case c5 => decide); (case c2 => exact rfl); (case c3 => exact rfl); (case c4 => exact rfl); k_whole; intro C' D' o' g' L' h' tk' l1 l2 lo' hs' fs' FG' F' N' B' X' T'; (try k_lt l1); (try k_lt2 l2); (try dsimp only); (try k_lift B'); (try k_fold)))
  k_steps
  (rename Fr _ _ _ _ => F7); (rename News _ _ _ _ => N7); (rename Lows _ _ => l7)
  have hr9 : ∀ z ∈ rest, z.1 ≠ _ := fun z hz => Nat.ne_of_lt (l7 z (.tail _ (.tail _ hz)))
  have hr8 : ∀ z ∈ rest, z.1 < _ := fun z hz => l7 z (.tail _ (.tail _ hz))
  unfold Lows at l7
  k_lt l7
  refine ⟨_, _, rfl, (N7 _ (.head _)).1, X.keeps F7.keep, ?_⟩
  k_dflt ((refine' code_def ?k1 ?k2 ?k3 ?k4 ?k5 ?kA ?kF ?kK ?k6 ?k7 ?k8 ?k9 ?kB ?_ ?c2 ?c3 ?c4 ?c5); (case kA => exact rfl); (case kF => first | exact hf | exact rfl); (case kK => first | exact hk | exact rfl); (case k1 => k_asm); (case k2 => k_asm); (case k3 => k_asm); (case k4 => k_asm); (case k5 => k_asm); (case k6 => k_is); (case k7 => k_is); (case k8 => k_room); (case k9 => first | exact BindsTo.of_eq rfl | exact binds_K (by k_in) rfl (by k_is) rfl rfl rfl); (case c5 => decide); (case kB => exact locs rfl); (case c2 => exact rfl); (case c3 => exact rfl); (case c4 => exact rfl); k_whole; intro g' L' h' FG' F' N' B' X' T'; (try dsimp only); (try k_lift B'); (try k_fold))
  k_steps
  (k_dflt (refine' hret _ _ _ _ _ _ _ _ _ _ ?lF ?lN ?l1 ?l2)); (case lF => k_asm); (case lN => (refine' cb_drop (by k_asm) ?_; first | ((repeat' (first | exact sb_refl | refine sb_keep ?_ | refine sb_skip ?_)); done) | repeat' (first | refine' List.forall_mem_cons.mpr ⟨?_, ?_⟩ | exact List.Mem.head _ | (intro z9 hz9; repeat (first | exact hz9 | refine' List.Mem.tail _ ?_)) | refine' List.Mem.tail _ ?_))); (case l1 => exact hr8); (case l2 => assumption)
end Mine
end
section
open PySem PySem.W PyProof.Rows PySem.Calls PySem.Spec PyProof
set_option Elab.async false
set_option maxRecDepth 100000
set_option maxHeartbeats 8000000
namespace Mine
theorem rules_S1_0 : True := by
  w_top off
  k_with_none
  (k_with "k tr" => (first | with_reducible assumption | (refine Nat.lt_trans (by with_reducible assumption) ?_; k_extra "k tr")))
  (k_with "k all" => assumption)
  (k_with "storeName" => (k_here; k_dflt (refine' storeX_LL ?F ?N ?_ ?a ?b; (case F => k_asm); (case N => k_asm); (case a => rfl); (case b => rfl); k_whole); intro h' m' F' N'; (try k_sweep)))
  (k_with "execs cons" => (k_here; first | (with_unfolding_all (refine gen_toks0 (Nat.succ_pos _) ?_); intro tk') | with_reducible refine execs_one ?_ | ((with_reducible refine wpAny_execs_cons ?_); (try dsimp only); try k_fold)))
  (k_with "call builtin:str.replace" => (k_here; k_dflt (refine' rep_rule (hx := ?hx) (hy := ?hy) (hz := ?hz) ?hu ?hv ?huv ?hyz ?hb ?hb2 ?_); (case hx => first | exact lit_ap | exact rfl); (case hy => first | exact lit_bs | exact lit_nl | exact lit_tb | exact lit_ap); (case hz => first | exact lit_bs2 | exact lit_bn | exact lit_bt | exact lit_n | exact lit_t | exact lit_q5); (case hu => (show @Ne Nat _ _); (try dsimp only); omega); (case hv => (show @Ne Nat _ _); (try dsimp only); omega); (case huv => (show @Ne Nat _ _); (try dsimp only); omega); (case hyz => decide +kernel); (case hb => first | assumption | omega); (case hb2 => decide); intro t' k' hk'; (try dsimp only at hk')))
  (k_with "call builtin:repr" => (k_here; k_dflt (refine repr_of_str ?_ ?hsz); (case hsz => assumption)))
  (k_with "call builtin:str.find" => (k_here; k_dflt (refine' find4 (hp := ?hp) (hn := ?hn) (hy := ?hy) ?_ ?_; (case hp => assumption); (case hn => assumption); (case hy => decide +kernel)); (all_goals (intros; (try dsimp only)))))
  trivial
theorem c_rdl {w : World} {pg : Program} {loose : List Str} {mean : ExcName → Option Value} {mg mb : Str → Option Value}
  {dp un : Nat} {gd : Option (List Code)} {env : Env} {outer : List Env} {A₀ : Around} {base h₀ : Heap} {L : Addr} {m : Str → Option Value} {s : Shared} {Q E : Value → Shared → Prop}
  {S : Str} {p : Int} {n : Nat} (hp : p = n) {x dx : Addr} {k1 k2 k3 k4 k5 k6 : Tok} {rest : List (Addr × Obj)} (hS : S.length ≤ 4000) (hn : n ≤ S.length) (hx : @LT.lt Nat _ dx x) (hoff : ∀ q ∈ rest, q.1 ≠ dx)
  (N : News h₀ L s.heap ((x, instObj 647 dx) :: (dx, dictOf (sioE w S p k1 k2 k3 k4 k5 k6) 3) :: rest))
  (B : Below A₀ base outer h₀) (F : Fr h₀ L s.heap m) (X : (Mine.K w.params).In h₀) (T : Top pg loose mean mg mb h₀) (hf : env.frame = some L) (hk : env.scope.kind = .function)
  (hdp : dp + 8 < recursionLimit) (hun : un + 90 < cLine)
  (hret : ∀ (p' : Int) (k7 : Tok) (r : Str) (t : Tok) (h' : Heap) (tk' : Nat), Fr h₀ L h' m → (n : Int) ≤ p' → p' ≤ (S.length : Int) → News h₀ L h' ((x, instObj 647 dx) :: (dx, dictOf (sioE w S p' k1 k2 k3 k4 k5 k7) 3) :: rest) → Q (.str r t) { s with heap := h', toks := tk' }) (foo : PySem.Challenge.rw_in0140_01.foot = 8) :
   wpAny (model PySem.Challenge.rw_in0140_01.row.prog w) (arnd dp un gd env outer) (call (.ref 601) [.ref x]) Q E s := by
  revert foo X
  k_fill
  intro X foo
  clear foo
  refine wpAny_call ?_
  k_dflt ((refine' code_def ?k1 ?k2 ?k3 ?k4 ?k5 ?kA ?kF ?kK ?k6 ?k7 ?k8 ?k9 ?kB ?_ ?c2 ?c3 ?c4 ?c5); (case kA => exact rfl); (case kF => first | exact hf | exact rfl); (case kK => first | exact hk | exact rfl); (case k1 => k_asm); (case k2 => k_asm); (case k3 => k_asm); (case k4 => k_asm); (case k5 => k_asm); (case k6 => k_is); (case k7 => k_is); (case k8 => k_room); (case k9 => first | exact BindsTo.of_eq rfl | exact binds_K (by k_in) rfl (by k_is) rfl rfl rfl); (case c5 => decide); (case kB => exact locs rfl); (case c2 => exact rfl); (case c3 => exact rfl); (case c4 => exact rfl); k_whole; intro g' L' h' FG' F' N' B' X' T'; (try dsimp only); (try k_lift B'); (try k_fold))
  k_steps
  · (k_dflt (refine' hret _ _ _ _ _ _ ?lF ?l1 ?l2 ?lN)); (case lF => k_asm); (case lN => k_asm); (case l1 => omega); (case l2 => omega)
  · (k_dflt (refine' hret _ _ _ _ _ _ ?lF ?l1 ?l2 ?lN)); (case lF => k_asm); (case lN => k_asm); (case l1 => omega); (case l2 => omega)
  · have hl1 : (Str.ofString "
").length = 1 := by decide +kernel
    (k_dflt (refine' hret _ _ _ _ _ _ ?lF ?l1 ?l2 ?lN)); (case lF => k_asm); (case lN => k_asm); (case l1 => first | omega | (rw [hl1]; omega)); (case l2 => first | omega | (rw [hl1]; omega))
end Mine
end
section
open PySem PySem.W PyProof.Rows PySem.Calls PySem.Spec PyProof
set_option Elab.async false
set_option maxRecDepth 100000
set_option maxHeartbeats 8000000
namespace Mine
noncomputable abbrev wdc : Str := Str.ofString "abcdfeghijklmnopqrstuvwxyzABCDEFGHIJKLMNOPQRSTUVWXYZ0123456789_ßàáâãäåæçèéêëìíîïðñòóôõöøùúûüýþÿÀÁÂÃÄÅÆÇÈÉÊËÌÍÎÏÐÑÒÓÔÕÖØÙÚÛÜÝÞ"
noncomputable abbrev shlE (w : World) (x1 pb fs : Addr) (sv : Value) (ln : Int) (tw : Str) (u1 u2 k0 k1 k2 k3 k4 k5 k6 k7 k8 k9 k10 k11 k12 k13 k14 k15 k16 k17 k18 v4 v5 v6 v8 v9 v10 v14 v18 : Tok) : List DictEntry :=
  [⟨PyData.keyHash w.params "instream", .str "instream" k0, .ref x1⟩, ⟨PyData.keyHash w.params "infile", .str "infile" k1, .none⟩, ⟨PyData.keyHash w.params "posix", .str "posix" k2, .bool true⟩, ⟨PyData.keyHash w.params "eof", .str "eof" k3, .none⟩, ⟨PyData.keyHash w.params "commenters", .str "commenters" k4, .str "#" v4⟩, ⟨PyData.keyHash w.params "wordchars", .str "wordchars" k5, .str "abcdfeghijklmnopqrstuvwxyzABCDEFGHIJKLMNOPQRSTUVWXYZ0123456789_ßàáâãäåæçèéêëìíîïðñòóôõöøùúûüýþÿÀÁÂÃÄÅÆÇÈÉÊËÌÍÎÏÐÑÒÓÔÕÖØÙÚÛÜÝÞ" v5⟩, ⟨PyData.keyHash w.params "whitespace", .str "whitespace" k6, .str " \t\x0d\n" v6⟩, ⟨PyData.keyHash w.params "whitespace_split", .str "whitespace_split" k7, .bool false⟩, ⟨PyData.keyHash w.params "quotes", .str "quotes" k8, .str "'\"" v8⟩, ⟨PyData.keyHash w.params "escape", .str "escape" k9, .str "\\" v9⟩, ⟨PyData.keyHash w.params "escapedquotes", .str "escapedquotes" k10, .str "\"" v10⟩, ⟨PyData.keyHash w.params "state", .str "state" k11, sv⟩, ⟨PyData.keyHash w.params "pushback", .str "pushback" k12, .ref pb⟩, ⟨PyData.keyHash w.params "lineno", .str "lineno" k13, .int ln u1⟩, ⟨PyData.keyHash w.params "debug", .str "debug" k14, .int 0 v14⟩, ⟨PyData.keyHash w.params "token", .str "token" k15, .str tw u2⟩, ⟨PyData.keyHash w.params "filestack", .str "filestack" k16, .ref fs⟩, ⟨PyData.keyHash w.params "source", .str "source" k17, .none⟩, ⟨PyData.keyHash w.params "_punctuation_chars", .str "_punctuation_chars" k18, .str "" v18⟩]

inductive ShCon (w : World) (h₀ : Heap) (L : Addr) (s : Shared) (m₀ : Str → Option Value) (S : Str) (x1 dx1 x d pb fs : Addr) (k0 k1 k2 k3 k4 k5 k6 k7 k8 k9 k10 k11 k12 k13 k14 k15 k16 k17 k18 v4 v5 v6 v8 v9 v10 v14 v18 i1 i2 i3 i4 i5 : Tok) (rest : List (Addr × Obj)) (G : Str → Str → Bool → List Nat → List Nat → Prop) (n0 : Nat) (s₃ : Shared) : Prop
  | mk (h' : Heap) (tk : Nat) (m' : Str → Option Value) (st es : Str) (q : Bool) (tok : List Nat) (t1 t2 : Tok) (he : s₃ = { s with heap := h', toks := tk }) (hF : Fr h₀ L h' m') (ha : m' (Str.ofString "quoted") = some (.bool q)) (hb : m' (Str.ofString "escapedstate") = some (.str es t2)) (hc : ∀ z, z ≠ Str.ofString "quoted" → z ≠ Str.ofString "escapedstate" → z ≠ Str.ofString "nextchar" → m' z = m₀ z) (n' : Nat) (p' ln' : Int) (u1' u2' i6' : Tok) (r0 : p' = (n' : Int)) (r1 : n0 < n') (r2 : n' ≤ S.length) (r3 : News h₀ L h' ((x1, instObj 647 dx1) :: (dx1, dictOf (sioE w S p' i1 i2 i3 i4 i5 i6') 3) :: (x, instObj 782 d) :: (d, dictOf (shlE w x1 pb fs (.str st t1) ln' (tx tok) u1' u2' k0 k1 k2 k3 k4 k5 k6 k7 k8 k9 k10 k11 k12 k13 k14 k15 k16 k17 k18 v4 v5 v6 v8 v9 v10 v14 v18) 19) :: (pb, dqObj) :: (fs, dqObj) :: rest)) (r4 : G st es q tok (S.cps.toList.drop n')) : ShCon w h₀ L s m₀ S x1 dx1 x d pb fs k0 k1 k2 k3 k4 k5 k6 k7 k8 k9 k10 k11 k12 k13 k14 k15 k16 k17 k18 v4 v5 v6 v8 v9 v10 v14 v18 i1 i2 i3 i4 i5 rest G n0 s₃
inductive ShInv (w : World) (h₀ : Heap) (L : Addr) (s : Shared) (m₀ : Str → Option Value) (S : Str) (x1 dx1 x d pb fs : Addr) (k0 k1 k2 k3 k4 k5 k6 k7 k8 k9 k10 k11 k12 k13 k14 k15 k16 k17 k18 v4 v5 v6 v8 v9 v10 v14 v18 i1 i2 i3 i4 i5 : Tok) (rest : List (Addr × Obj)) (G : Str → Str → Bool → List Nat → List Nat → Prop) (k : Nat) (m₁ : Str → Option Value) (news₁ : List (Addr × Obj)) : Prop
  | mk (n' : Nat) (st es : Str) (q : Bool) (tok : List Nat) (t1 t2 : Tok) (p' ln' : Int) (u1' u2' i6' : Tok) (r0 : p' = n') (r1 : n' ≤ S.length) (r2 : k = S.length - n') (r3 : m₁ (Str.ofString "quoted") = some (.bool q)) (r4 : m₁ (Str.ofString "escapedstate") = some (.str es t2)) (r5 : (∀ z, z ≠ Str.ofString "quoted" → z ≠ Str.ofString "escapedstate" → z ≠ Str.ofString "nextchar" → m₁ z = m₀ z)) (r6 : news₁ = ((x1, instObj 647 dx1) :: (dx1, dictOf (sioE w S p' i1 i2 i3 i4 i5 i6') 3) :: (x, instObj 782 d) :: (d, dictOf (shlE w x1 pb fs (.str st t1) ln' (tx tok) u1' u2' k0 k1 k2 k3 k4 k5 k6 k7 k8 k9 k10 k11 k12 k13 k14 k15 k16 k17 k18 v4 v5 v6 v8 v9 v10 v14 v18) 19) :: (pb, dqObj) :: (fs, dqObj) :: rest)) (r7 : G st es q tok (S.cps.toList.drop n')) : ShInv w h₀ L s m₀ S x1 dx1 x d pb fs k0 k1 k2 k3 k4 k5 k6 k7 k8 k9 k10 k11 k12 k13 k14 k15 k16 k17 k18 v4 v5 v6 v8 v9 v10 v14 v18 i1 i2 i3 i4 i5 rest G k m₁ news₁
noncomputable def ShEnd (w : World) (h₀ : Heap) (L : Addr) (s : Shared) (m₀ : Str → Option Value) (S : Str) (x1 dx1 x d pb fs : Addr) (k0 k1 k2 k3 k4 k5 k6 k7 k8 k9 k10 k11 k12 k13 k14 k15 k16 k17 k18 v4 v5 v6 v8 v9 v10 v14 v18 i1 i2 i3 i4 i5 : Tok) (rest : List (Addr × Obj)) (G : Str → Str → Bool → List Nat → List Nat → Prop) (Q : Flow → Shared → Prop) (n0 : Nat) (fl : Flow) (s₃ : Shared) : Prop :=
  match fl with
  | .ret v => Q (.ret v) s₃
  | .brk => Q .next s₃
  | _ => ShCon w h₀ L s m₀ S x1 dx1 x d pb fs k0 k1 k2 k3 k4 k5 k6 k7 k8 k9 k10 k11 k12 k13 k14 k15 k16 k17 k18 v4 v5 v6 v8 v9 v10 v14 v18 i1 i2 i3 i4 i5 rest G n0 s₃
theorem rules_L3_0 : True := by
  w_top off
  k_with_none
  (k_with "k all" => assumption)
  trivial
theorem sh_go (k : Flow) (hk : k = .next ∨ k = .cont) {w : World} {h₀ h' : Heap} {L : Addr} {s : Shared} {m₀ m' : Str → Option Value} {S : Str} {x1 dx1 x d pb fs : Addr} {k0 k1 k2 k3 k4 k5 k6 k7 k8 k9 k10 k11 k12 k13 k14 k15 k16 k17 k18 v4 v5 v6 v8 v9 v10 v14 v18 i1 i2 i3 i4 i5 : Tok} {rest : List (Addr × Obj)} {G : Str → Str → Bool → List Nat → List Nat → Prop} {Q : Flow → Shared → Prop} {n0 n' : Nat} {st es : Str} {q : Bool} {tok : List Nat} {t1 t2 : Tok} {tk : Nat} {p' ln' : Int} {u1' u2' i6' : Tok} (F : Fr h₀ L h' m') (e1 : m' (Str.ofString "quoted") = some (.bool q)) (e2 : m' (Str.ofString "escapedstate") = some (.str es t2)) (e3 : ∀ z, z ≠ Str.ofString "quoted" → z ≠ Str.ofString "escapedstate" → z ≠ Str.ofString "nextchar" → m' z = m₀ z)
  (hp : p' = (n' : Int)) (hlt : n0 < n') (hn : n' ≤ S.length) (N : News h₀ L h' ((x1, instObj 647 dx1) :: (dx1, dictOf (sioE w S p' i1 i2 i3 i4 i5 i6') 3) :: (x, instObj 782 d) :: (d, dictOf (shlE w x1 pb fs (.str st t1) ln' (tx tok) u1' u2' k0 k1 k2 k3 k4 k5 k6 k7 k8 k9 k10 k11 k12 k13 k14 k15 k16 k17 k18 v4 v5 v6 v8 v9 v10 v14 v18) 19) :: (pb, dqObj) :: (fs, dqObj) :: rest)) (hG : G st es q tok (S.cps.toList.drop n')) :
  ShEnd w h₀ L s m₀ S x1 dx1 x d pb fs k0 k1 k2 k3 k4 k5 k6 k7 k8 k9 k10 k11 k12 k13 k14 k15 k16 k17 k18 v4 v5 v6 v8 v9 v10 v14 v18 i1 i2 i3 i4 i5 rest G Q n0 k { s with heap := h', toks := tk } := by
  rcases hk with rfl | rfl <;> exact ⟨h', tk, m', st, es, q, tok, t1, t2, rfl, F, e1, e2, e3, n', p', ln', u1', u2', i6', hp, hlt, hn, N, hG⟩
theorem sh_brk {w : World} {h₀ : Heap} {L : Addr} {s : Shared} {m₀ : Str → Option Value} {S : Str} {x1 dx1 x d pb fs : Addr} {k0 k1 k2 k3 k4 k5 k6 k7 k8 k9 k10 k11 k12 k13 k14 k15 k16 k17 k18 v4 v5 v6 v8 v9 v10 v14 v18 i1 i2 i3 i4 i5 : Tok} {rest : List (Addr × Obj)} {G : Str → Str → Bool → List Nat → List Nat → Prop} {Q : Flow → Shared → Prop} {n0 : Nat} {s₃ : Shared} (h : Q .next s₃) : ShEnd w h₀ L s m₀ S x1 dx1 x d pb fs k0 k1 k2 k3 k4 k5 k6 k7 k8 k9 k10 k11 k12 k13 k14 k15 k16 k17 k18 v4 v5 v6 v8 v9 v10 v14 v18 i1 i2 i3 i4 i5 rest G Q n0 .brk s₃ := h
theorem sh_map {h₀ h : Heap} {L : Addr} {m₀ m' : Str → Option Value} {v u : Value} (F : Fr h₀ L h m') (e1 : m' (Str.ofString "quoted") = some v) (e2 : m' (Str.ofString "escapedstate") = some u) (e3 : ∀ z, z ≠ Str.ofString "quoted" → z ≠ Str.ofString "escapedstate" → z ≠ Str.ofString "nextchar" → m' z = m₀ z) :
    Fr h₀ L h (fun z => if z = Str.ofString "nextchar" then m' (Str.ofString "nextchar") else if z = Str.ofString "escapedstate" then some u else if z = Str.ofString "quoted" then some v else m₀ z) := by
  have e : (fun z => if z = Str.ofString "nextchar" then m' (Str.ofString "nextchar") else if z = Str.ofString "escapedstate" then some u else if z = Str.ofString "quoted" then some v else m₀ z) = m' := by
    funext z
    by_cases h1 : z = Str.ofString "nextchar"
    · rw [if_pos h1, h1]
    · rw [if_neg h1]
      by_cases h2 : z = Str.ofString "escapedstate"
      · rw [if_pos h2, h2, e2]
      · rw [if_neg h2]
        by_cases h3 : z = Str.ofString "quoted"
        · rw [if_pos h3, h3, e1]
        · rw [if_neg h3, e3 z h3 h2 h1]
  rw [e]; exact F
theorem while_sh {prog : Program} {w : World} {A : Around} {env : Env} {E : Value → Shared → Prop} {Q : Flow → Shared → Prop} {s : Shared} {h₀ : Heap} {L : Addr} {m₀ : Str → Option Value} {S : Str} {x1 dx1 x d pb fs : Addr} {ln : Int}  {u1 u2 k0 k1 k2 k3 k4 k5 k6 k7 k8 k9 k10 k11 k12 k13 k14 k15 k16 k17 k18 v4 v5 v6 v8 v9 v10 v14 v18 i1 i2 i3 i4 i5 i6 : Tok} {rest : List (Addr × Obj)} {st es : Str} {q : Bool} {tok : List Nat} {t1 t2 : Tok} {n : Nat} {p : Int} {test : Expr} {body : List Stmt} {pos : Pos}
  (G : Str → Str → Bool → List Nat → List Nat → Prop) (F : Fr h₀ L s.heap m₀) (N : News h₀ L s.heap ((x1, instObj 647 dx1) :: (dx1, dictOf (sioE w S p i1 i2 i3 i4 i5 i6) 3) :: (x, instObj 782 d) :: (d, dictOf (shlE w x1 pb fs (.str st t1) ln (tx tok) u1 u2 k0 k1 k2 k3 k4 k5 k6 k7 k8 k9 k10 k11 k12 k13 k14 k15 k16 k17 k18 v4 v5 v6 v8 v9 v10 v14 v18) 19) :: (pb, dqObj) :: (fs, dqObj) :: rest)) (e1 : m₀ (Str.ofString "quoted") = some (.bool q)) (e2 : m₀ (Str.ofString "escapedstate") = some (.str es t2)) (hp : p = n) (hn : n ≤ S.length) (hG : G st es q tok (S.cps.toList.drop n))
  (turn : ∀ (n' : Nat) (st es : Str) (q : Bool) (tok : List Nat) (t1 t2 : Tok) (nc : Option Value) (p' ln' : Int) (u1' u2' i6' : Tok) (h' : Heap) (tk : Nat), p' = n' → n' ≤ S.length → G st es q tok (S.cps.toList.drop n') →
    Fr h₀ L h' (fun z => if z = Str.ofString "nextchar" then nc else if z = Str.ofString "escapedstate" then some (.str es t2) else if z = Str.ofString "quoted" then some (.bool q) else m₀ z) → News h₀ L h' ((x1, instObj 647 dx1) :: (dx1, dictOf (sioE w S p' i1 i2 i3 i4 i5 i6') 3) :: (x, instObj 782 d) :: (d, dictOf (shlE w x1 pb fs (.str st t1) ln' (tx tok) u1' u2' k0 k1 k2 k3 k4 k5 k6 k7 k8 k9 k10 k11 k12 k13 k14 k15 k16 k17 k18 v4 v5 v6 v8 v9 v10 v14 v18) 19) :: (pb, dqObj) :: (fs, dqObj) :: rest) →
    wpAny (model prog w) A (isTrue test env (eval test env)) (fun b s₂ => if b = true then wpAny (model prog w) A (execs body env) (ShEnd w h₀ L s m₀ S x1 dx1 x d pb fs k0 k1 k2 k3 k4 k5 k6 k7 k8 k9 k10 k11 k12 k13 k14 k15 k16 k17 k18 v4 v5 v6 v8 v9 v10 v14 v18 i1 i2 i3 i4 i5 rest G Q n') E s₂ else Q .next s₂) E { s with heap := h', toks := tk })
  (hE : PassesOwn (model prog w) A env E) : wpAny (model prog w) A (exec (.While test body [] pos) env) Q E s := by
  refine While_inv2 (n₀ := S.length - n) (fun k m₁ news₁ => ShInv w h₀ L s m₀ S x1 dx1 x d pb fs k0 k1 k2 k3 k4 k5 k6 k7 k8 k9 k10 k11 k12 k13 k14 k15 k16 k17 k18 v4 v5 v6 v8 v9 v10 v14 v18 i1 i2 i3 i4 i5 rest G k m₁ news₁)
    F N ⟨n, st, es, q, tok, t1, t2, p, ln, u1, u2, i6, hp, hn, rfl, e1, e2, fun _ _ _ _ => rfl, rfl, hG⟩ ?_ hE
  rintro k m₁ news₁ h₁ tk₁ F₁ N₁ ⟨n', st', es', q', tok', t1', t2', p', ln', u1', u2', i6', hp', hn', rfl, a1, a2, a3, rfl, hG'⟩
  refine wpAny_mono (turn n' st' es' q' tok' t1' t2' _ p' ln' u1' u2' i6' h₁ tk₁ hp' hn' hG' (sh_map F₁ a1 a2 a3) N₁) (fun b s₂ h => ?_) (fun _ _ z => z)
  cases b with
  | false => exact h
  | true =>
    refine wpAny_mono h (fun fl s₃ hfl => ?_) (fun _ _ z => z)
    cases fl with
    | ret v => exact hfl
    | brk => exact hfl
    | next =>
      obtain ⟨h', tk, m', st, es, q, tok, t1, t2, rfl, F', b1, b2, b3, n2, p2, ln2, u12, u22, i62, hp2, hlt, hn2, N2, G2⟩ := hfl
      exact ⟨h', tk, m', _, S.length - n2, rfl, F', N2, by omega, n2, st, es, q, tok, t1, t2, p2, ln2, u12, u22, i62, hp2, hn2, rfl, b1, b2, b3, rfl, G2⟩
    | cont =>
      obtain ⟨h', tk, m', st, es, q, tok, t1, t2, rfl, F', b1, b2, b3, n2, p2, ln2, u12, u22, i62, hp2, hlt, hn2, N2, G2⟩ := hfl
      exact ⟨h', tk, m', _, S.length - n2, rfl, F', N2, by omega, n2, st, es, q, tok, t1, t2, p2, ln2, u12, u22, i62, hp2, hn2, rfl, b1, b2, b3, rfl, G2⟩
noncomputable def isLet (c : Nat) : Bool := c == 97 || c == 98 || c == 105 || c == 115 || c == 116 || c == 110
mutual
noncomputable def sa (t : List Nat) : List Nat → List Nat × List Nat × Nat
  | [] => (t, [], 1)
  | c :: r => if isWs c = true then (t, r, 0) else if c = 35 then (t, [], 3) else if c = 39 then sq t r else if c = 34 then sd t r else if c = 92 then se t r else if isLet c = true then sa (t ++ [c]) r else (t, [], 4)
noncomputable def sq (t : List Nat) : List Nat → List Nat × List Nat × Nat
  | [] => (t, [], 2)
  | c :: r => if c = 39 then sa t r else sq (t ++ [c]) r
noncomputable def sd (t : List Nat) : List Nat → List Nat × List Nat × Nat
  | [] => (t, [], 2)
  | c :: r => if c = 34 then sa t r else if c = 92 then sde t r else sd (t ++ [c]) r
noncomputable def se (t : List Nat) : List Nat → List Nat × List Nat × Nat
  | [] => (t, [], 2)
  | c :: r => sa (t ++ [c]) r
noncomputable def sde (t : List Nat) : List Nat → List Nat × List Nat × Nat
  | [] => (t, [], 2)
  | c :: r => if c = 34 then sd (t ++ [c]) r else if c = 92 then sd (t ++ [c]) r else sd (t ++ [92] ++ [c]) r
end
noncomputable def s0 : List Nat → List Nat × List Nat × Nat
  | [] => ([], [], 5)
  | c :: r => if c = 39 then sq [] r else if c = 34 then sd [] r else if isLet c = true then sa [c] r else ([], [], 4)
noncomputable def Gm (out : List Nat × List Nat × Nat) (st es : Str) (q : Bool) (tok rem : List Nat) : Prop := tok.length + 2 * rem.length ≤ 8000 ∧ (
  (st = Str.ofString " " ∧ q = false ∧ tok = [] ∧ s0 rem = out) ∨ (st = Str.ofString "a" ∧ (tok ≠ [] ∨ q = true) ∧ sa tok rem = out) ∨ (st = Str.ofString "'" ∧ sq tok rem = out) ∨ (st = Str.ofString "\"" ∧ sd tok rem = out) ∨
  (st = Str.ofString "\\" ∧ es = Str.ofString "a" ∧ se tok rem = out) ∨ (st = Str.ofString "\\" ∧ es = Str.ofString "\"" ∧ sde tok rem = out))
theorem c_rdc1 {w : World} {pg : Program} {loose : List Str} {mean : ExcName → Option Value} {mg mb : Str → Option Value}
  {dp un : Nat} {gd : Option (List Code)} {env : Env} {outer : List Env} {A₀ : Around} {base h₀ : Heap} {L : Addr} {m : Str → Option Value} {s : Shared} {Q E : Value → Shared → Prop} {S : Str} {p : Int} {n ch : Nat} (hp : p = n) {x dx : Addr} {k1 k2 k3 k4 k5 k6 u : Tok} {rest : List (Addr × Obj)} (hS : S.length ≤ 4000) (hc : S.cps[n]? = some ch) (hx : @LT.lt Nat _ dx x) (hoff : ∀ q ∈ rest, q.1 ≠ dx)
  (N : News h₀ L s.heap ((x, instObj 647 dx) :: (dx, dictOf (sioE w S p k1 k2 k3 k4 k5 k6) 3) :: rest)) (B : Below A₀ base outer h₀) (F : Fr h₀ L s.heap m) (X : (Mine.K w.params).In h₀) (T : Top pg loose mean mg mb h₀) (hf : env.frame = some L) (hk : env.scope.kind = .function)
  (hdp : dp + 6 < recursionLimit) (hun : un + 60 < cLine)
  (hch : ∀ (k7 : Tok) (t : Tok) (h' : Heap) (tk' : Nat), Fr h₀ L h' m → News h₀ L h' ((x, instObj 647 dx) :: (dx, dictOf (sioE w S (p + 1) k1 k2 k3 k4 k5 k7) 3) :: rest) → Q (.str ⟨#[ch]⟩ t) { s with heap := h', toks := tk' }) (foo : PySem.Challenge.rw_in0140_01.foot = 8) :
   wpAny (model PySem.Challenge.rw_in0140_01.row.prog w) (arnd dp un gd env outer) (call (.ref 593) [.ref x, .int 1 u]) Q E s := by
  have hl : n < S.length := (Array.getElem?_eq_some_iff.mp hc).1
  exact c_read hp hS (Nat.le_of_lt hl) hx hoff N B F X T hf hk hdp hun (fun e => absurd e (Nat.ne_of_lt hl)) (fun c h => (Option.some.inj (hc.symm.trans h)) ▸ hch) foo
theorem c_rde {w : World} {pg : Program} {loose : List Str} {mean : ExcName → Option Value} {mg mb : Str → Option Value}
  {dp un : Nat} {gd : Option (List Code)} {env : Env} {outer : List Env} {A₀ : Around} {base h₀ : Heap} {L : Addr} {m : Str → Option Value} {s : Shared} {Q E : Value → Shared → Prop} {S : Str} {p : Int} {n : Nat} (hp : p = n) {x dx : Addr} {k1 k2 k3 k4 k5 k6 u : Tok} {rest : List (Addr × Obj)} (hS : S.length ≤ 4000) (hn : n = S.length) (hx : @LT.lt Nat _ dx x) (hoff : ∀ q ∈ rest, q.1 ≠ dx)
  (N : News h₀ L s.heap ((x, instObj 647 dx) :: (dx, dictOf (sioE w S p k1 k2 k3 k4 k5 k6) 3) :: rest)) (B : Below A₀ base outer h₀) (F : Fr h₀ L s.heap m) (X : (Mine.K w.params).In h₀) (T : Top pg loose mean mg mb h₀) (hf : env.frame = some L) (hk : env.scope.kind = .function)
  (hdp : dp + 6 < recursionLimit) (hun : un + 60 < cLine)
  (hend : ∀ (t : Tok) (h' : Heap) (tk' : Nat), Fr h₀ L h' m → News h₀ L h' ((x, instObj 647 dx) :: (dx, dictOf (sioE w S p k1 k2 k3 k4 k5 k6) 3) :: rest) → Q (.str "" t) { s with heap := h', toks := tk' }) (foo : PySem.Challenge.rw_in0140_01.foot = 8) :
   wpAny (model PySem.Challenge.rw_in0140_01.row.prog w) (arnd dp un gd env outer) (call (.ref 593) [.ref x, .int 1 u]) Q E s :=
  c_read hp hS (Nat.le_of_eq hn) hx hoff N B F X T hf hk hdp hun (fun _ => hend) (fun c h => absurd (Array.getElem?_eq_some_iff.mp h).1 (Nat.not_lt.mpr (Nat.le_of_eq hn.symm))) foo
end Mine
end
section
open PySem PySem.W PyProof.Rows PySem.Calls PySem.Spec PyProof
set_option maxRecDepth 100000
namespace Mine
noncomputable abbrev oc (l : Str) (ch : Nat) : Bool := (Builtin.Str.occurrences l ⟨#[ch]⟩ 0 l.length 1).isEmpty
noncomputable abbrev eqc (ch : Nat) (l : Str) : Bool := ((⟨#[ch]⟩ : Str) == l)
theorem rules_L4_n : True := by
  w_top off
  k_with_none
  trivial
theorem isLet_cases {c : Nat} (h : isLet c = true) : c = 97 ∨ c = 98 ∨ c = 105 ∨ c = 115 ∨ c = 116 ∨ c = 110 := by
  unfold isLet at h
  simpa only [Bool.or_eq_true, beq_iff_eq, or_assoc] using h
theorem isWs_cases {c : Nat} (h : isWs c = true) : c = 10 ∨ c = 9 ∨ c = 13 ∨ c = 32 := by
  unfold isWs at h
  simp only [Bool.or_eq_true, beq_iff_eq] at h
  rcases h with ((h | h) | h) | h <;> simp only [h, true_or, or_true]
theorem fct_let {ch : Nat} (h : isLet ch = true) : eqc ch (Str.ofString "\n") = false ∧ oc (Str.ofString " \t\x0d\n") ch = true ∧ oc (Str.ofString "#") ch = true ∧ oc (Str.ofString "'\"") ch = true ∧ oc (Str.ofString "\\") ch = true ∧ oc wdc ch = false := by
  rcases isLet_cases h with rfl | rfl | rfl | rfl | rfl | rfl <;> decide +kernel
theorem fct_ws {ch : Nat} (h : isWs ch = true) : oc (Str.ofString " \t\x0d\n") ch = false := by
  rcases isWs_cases h with rfl | rfl | rfl | rfl <;> decide +kernel
theorem fct_cm {ch : Nat} (h : ch = 35) : eqc ch (Str.ofString "\n") = false ∧ oc (Str.ofString " \t\x0d\n") ch = true ∧ oc (Str.ofString "#") ch = false := by subst h; decide +kernel
theorem fct_ap {ch : Nat} (h : ch = 39) : eqc ch (Str.ofString "\n") = false ∧ oc (Str.ofString " \t\x0d\n") ch = true ∧ oc (Str.ofString "#") ch = true ∧ oc (Str.ofString "'\"") ch = false ∧ oc (Str.ofString "\\") ch = true ∧ oc wdc ch = true ∧ oc (Str.ofString "") ch = true ∧ eqc ch (Str.ofString "'") = true := by subst h; decide +kernel
theorem fct_qt {ch : Nat} (h : ch = 34) : eqc ch (Str.ofString "\n") = false ∧ oc (Str.ofString " \t\x0d\n") ch = true ∧ oc (Str.ofString "#") ch = true ∧ oc (Str.ofString "'\"") ch = false ∧ oc (Str.ofString "\\") ch = true ∧ oc wdc ch = true ∧ oc (Str.ofString "") ch = true ∧ eqc ch (Str.ofString "\"") = true := by subst h; decide +kernel
theorem fct_bs {ch : Nat} (h : ch = 92) : eqc ch (Str.ofString "\n") = false ∧ oc (Str.ofString " \t\x0d\n") ch = true ∧ oc (Str.ofString "#") ch = true ∧ oc (Str.ofString "'\"") ch = true ∧ oc (Str.ofString "\\") ch = false ∧ eqc ch (Str.ofString "\"") = false := by subst h; decide +kernel
theorem fct_ne {ch c : Nat} {l : Str} (hl : l = tx [c]) (h : ch ≠ c) : eqc ch l = false := by
  subst hl; rw [eqc, ch_is]; exact beq_eq_false_iff_ne.mpr h
theorem fct_nb {ch : Nat} (h : ch ≠ 92) : oc (Str.ofString "\\") ch = true := by
  rw [lit_bs]
  have := in_tx [92] ch
  show (Builtin.Str.occurrences (tx [92]) (tx [ch]) 0 (tx [92]).length 1).isEmpty = true
  rw [this]
  simp [h]
theorem tok_truth {t : List Nat} (h : t ≠ []) : ((((tx t).length : Nat) : Int) != 0) = true := by
  rw [tx_len]
  have : t.length ≠ 0 := fun e => h (List.length_eq_zero_iff.mp e)
  exact bne_iff_ne.mpr (by omega)
theorem tok_empty {t : List Nat} (h : t ≠ []) : (tx t == Str.ofString "") = false := by
  rw [lit_e, tx_beq]
  exact beq_eq_false_iff_ne.mpr h
noncomputable abbrev lenP (x : Str) : Prop := ((x.length : Nat) : Int) ≠ 0
theorem ch_len (ch : Nat) : (((⟨#[ch]⟩ : Str).length : Nat) : Int) ≠ 0 := by
  show ((1 : Nat) : Int) ≠ 0
  decide
theorem tok_len {t : List Nat} (h : t ≠ []) : (((tx t).length : Nat) : Int) ≠ 0 := by
  rw [tx_len]
  have : t.length ≠ 0 := fun e => h (List.length_eq_zero_iff.mp e)
  omega
theorem ne_t {ch c : Nat} {l : Str} (hl : l = tx [c]) (h : ch ≠ c) : ((⟨#[ch]⟩ : Str) != l) = true := by
  show (!_) = true
  rw [show ((⟨#[ch]⟩ : Str) == l) = false from fct_ne hl h]; rfl
theorem ne_f {ch c : Nat} {l : Str} (hl : l = tx [c]) (h : ch = c) : ((⟨#[ch]⟩ : Str) != l) = false := by
  subst h hl
  show (!_) = false
  rw [ch_is]; simp
theorem tr_yes {prog : Program} {w : World} {A : Around} {E : Value → Shared → Prop} {s : Shared} {x : Str} {t : Tok} {Q : Bool → Shared → Prop} (hx : ((x.length : Nat) : Int) ≠ 0) (hf : x.length ≤ 1000000) (h : Q true { s with toks := s.toks + 1 + 1 }) : wpAny (model prog w) A (truthy (.str x t)) Q E s := by
  refine P.truthy_str (by omega) ?_
  rw [show (((x.length : Nat) : Int) != 0) = true from bne_iff_ne.mpr hx]
  exact h
theorem tr_no0 {prog : Program} {w : World} {A : Around} {E : Value → Shared → Prop} {s : Shared} {t : Tok} {Q : Bool → Shared → Prop} (h : Q false { s with toks := s.toks + 1 + 1 }) : wpAny (model prog w) A (truthy (.str (Str.ofString "") t)) Q E s := by
  refine P.truthy_str (by decide +kernel) ?_
  exact h
theorem sa_ws {t : List Nat} {c : Nat} {r : List Nat} (h : isWs c = true) : sa t (c :: r) = (t, r, 0) := by rw [sa, if_pos h]
theorem nws {c : Nat} (h : c = 35 ∨ c = 39 ∨ c = 34 ∨ c = 92 ∨ isLet c = true) : isWs c = false := by
  rcases h with rfl | rfl | rfl | rfl | h
  · decide
  · decide
  · decide
  · decide
  · rcases isLet_cases h with rfl | rfl | rfl | rfl | rfl | rfl <;> decide
theorem sa_cm {t : List Nat} {c : Nat} {r : List Nat} (h : c = 35) : sa t (c :: r) = (t, [], 3) := by rw [sa, if_neg (by rw [nws (.inl h)]; decide), if_pos h]
theorem sa_ap {t : List Nat} {c : Nat} {r : List Nat} (h : c = 39) : sa t (c :: r) = sq t r := by rw [sa, if_neg (by rw [nws (.inr (.inl h))]; decide), if_neg (by omega), if_pos h]
theorem sa_qt {t : List Nat} {c : Nat} {r : List Nat} (h : c = 34) : sa t (c :: r) = sd t r := by rw [sa, if_neg (by rw [nws (.inr (.inr (.inl h)))]; decide), if_neg (by omega), if_neg (by omega), if_pos h]
theorem sa_bs {t : List Nat} {c : Nat} {r : List Nat} (h : c = 92) : sa t (c :: r) = se t r := by rw [sa, if_neg (by rw [nws (.inr (.inr (.inr (.inl h))))]; decide), if_neg (by omega), if_neg (by omega), if_neg (by omega), if_pos h]
theorem let_ne {c : Nat} (h : isLet c = true) : c ≠ 35 ∧ c ≠ 39 ∧ c ≠ 34 ∧ c ≠ 92 := by rcases isLet_cases h with rfl | rfl | rfl | rfl | rfl | rfl <;> decide
theorem sa_let {t : List Nat} {c : Nat} {r : List Nat} (h : isLet c = true) : sa t (c :: r) = sa (t ++ [c]) r := by
  obtain ⟨a, b, d, e⟩ := let_ne h
  rw [sa, if_neg (by rw [nws (.inr (.inr (.inr (.inr h))))]; decide), if_neg a, if_neg b, if_neg d, if_neg e, if_pos h]
theorem sa_e {t : List Nat} : sa t [] = (t, [], 1) := by rw [sa]
theorem sq_e {t : List Nat} : sq t [] = (t, [], 2) := by rw [sq]
theorem sd_e {t : List Nat} : sd t [] = (t, [], 2) := by rw [sd]
theorem se_e {t : List Nat} : se t [] = (t, [], 2) := by rw [se]
theorem sde_e {t : List Nat} : sde t [] = (t, [], 2) := by rw [sde]
theorem se_c {t : List Nat} {c : Nat} {r : List Nat} : se t (c :: r) = sa (t ++ [c]) r := by rw [se]
theorem sq_q {t : List Nat} {c : Nat} {r : List Nat} (h : c = 39) : sq t (c :: r) = sa t r := by rw [sq, if_pos h]
theorem sq_c {t : List Nat} {c : Nat} {r : List Nat} (h : c ≠ 39) : sq t (c :: r) = sq (t ++ [c]) r := by rw [sq, if_neg h]
theorem sd_q {t : List Nat} {c : Nat} {r : List Nat} (h : c = 34) : sd t (c :: r) = sa t r := by rw [sd, if_pos h]
theorem sd_b {t : List Nat} {c : Nat} {r : List Nat} (h : c = 92) : sd t (c :: r) = sde t r := by rw [sd, if_neg (by omega), if_pos h]
theorem sd_c {t : List Nat} {c : Nat} {r : List Nat} (h : c ≠ 34) (h2 : c ≠ 92) : sd t (c :: r) = sd (t ++ [c]) r := by rw [sd, if_neg h, if_neg h2]
theorem sde_s {t : List Nat} {c : Nat} {r : List Nat} (h : c = 34 ∨ c = 92) : sde t (c :: r) = sd (t ++ [c]) r := by
  rw [sde]
  rcases h with rfl | rfl
  · rw [if_pos rfl]
  · rw [if_neg (by decide), if_pos rfl]
theorem sde_o {t : List Nat} {c : Nat} {r : List Nat} (h : c ≠ 34) (h2 : c ≠ 92) : sde t (c :: r) = sd (t ++ [92] ++ [c]) r := by rw [sde, if_neg h, if_neg h2]
theorem s0_e : s0 [] = ([], [], 5) := by rw [s0]
theorem s0_ap {c : Nat} {r : List Nat} (h : c = 39) : s0 (c :: r) = sq [] r := by rw [s0, if_pos h]
theorem s0_qt {c : Nat} {r : List Nat} (h : c = 34) : s0 (c :: r) = sd [] r := by rw [s0, if_neg (by omega), if_pos h]
theorem s0_let {c : Nat} {r : List Nat} (h : isLet c = true) : s0 (c :: r) = sa [c] r := by
  obtain ⟨a, b, d, e⟩ := let_ne h
  rw [s0, if_neg b, if_neg d, if_pos h]
theorem sa_class (t : List Nat) (c : Nat) (r : List Nat) (h : (sa t (c :: r)).2.2 ≠ 4) : isWs c = true ∨ c = 35 ∨ c = 39 ∨ c = 34 ∨ c = 92 ∨ isLet c = true := by
  by_cases h1 : isWs c = true
  · exact .inl h1
  by_cases h2 : c = 35
  · exact .inr (.inl h2)
  by_cases h3 : c = 39
  · exact .inr (.inr (.inl h3))
  by_cases h4 : c = 34
  · exact .inr (.inr (.inr (.inl h4)))
  by_cases h5 : c = 92
  · exact .inr (.inr (.inr (.inr (.inl h5))))
  by_cases h6 : isLet c = true
  · exact .inr (.inr (.inr (.inr (.inr h6))))
  rw [sa, if_neg h1, if_neg h2, if_neg h3, if_neg h4, if_neg h5, if_neg h6] at h
  exact absurd rfl h
theorem s0_class (c : Nat) (r : List Nat) (h : (s0 (c :: r)).2.2 ≠ 4) : c = 39 ∨ c = 34 ∨ isLet c = true := by
  by_cases h3 : c = 39
  · exact .inl h3
  by_cases h4 : c = 34
  · exact .inr (.inl h4)
  by_cases h6 : isLet c = true
  · exact .inr (.inr h6)
  rw [s0, if_neg h3, if_neg h4, if_neg h6] at h
  exact absurd rfl h
theorem raisedSN_sub {base G : Heap} {l : List Env} {e : Addr} {cls : Value} {news rest : List (Addr × Obj)} {h : Heap} (R : RaisedSN base G l e cls news h) (hs : ∀ q ∈ rest, q ∈ news) : RaisedSN base G l e cls rest h := by
  obtain ⟨B, a0, hB, hBG, hl, hfl⟩ := R
  exact ⟨B, a0, hB, hBG, fun q hq => hl q (hs q hq), hfl⟩
end Mine
end
section
open PySem PySem.W PyProof.Rows PySem.Calls PySem.Spec PyProof
set_option maxRecDepth 100000
namespace Mine
noncomputable def lineL : List (List Nat × Bool) → List Nat
  | [] => []
  | p :: r => encL p ++ (match r with | [] => [] | q :: r' => 32 :: lineL (q :: r'))
noncomputable def tlL (ws : List (List Nat × Bool)) : List Nat := match ws with | [] => [] | q :: r' => 32 :: lineL (q :: r')
theorem rules_Q1_n : True := by
  w_top off
  k_with_none
  trivial
theorem lineL_cons (p : List Nat × Bool) (r : List (List Nat × Bool)) : lineL (p :: r) = encL p ++ tlL r := by
  cases r <;> rfl
noncomputable def okp (p : List Nat × Bool) : Prop := okw p.1 ∧ (p.2 = false → ∀ c ∈ p.1, c ≠ 105 ∧ c ≠ 115 ∧ c ≠ 116)
theorem nw_keep : ∀ (n : Nat) (r t : List Nat), r.length ≤ n → (∃ x, (nw t r).1 = t ++ x) ∧ (∃ x, (nwe t r).1 = t ++ x)
  | _, [], t, _ => by
    refine ⟨⟨[], ?_⟩, ⟨[], ?_⟩⟩
    · rw [nw_e]; simp
    · rw [nwe_e]; simp
  | 0, c :: r, t, h => by simp at h
  | n + 1, c :: r, t, h => by
    have hr : r.length ≤ n := by simp at h; omega
    refine ⟨?_, ?_⟩
    · by_cases h1 : isWs c = true
      · rw [nw_w h1]; exact ⟨[], by simp⟩
      · by_cases h2 : c = 92
        · rw [nw_b (by simpa using h1) h2]; exact (nw_keep n r t hr).2
        · rw [nw_c (by simpa using h1) h2]
          obtain ⟨x, hx⟩ := (nw_keep n r (t ++ [c]) hr).1
          exact ⟨[c] ++ x, by rw [hx]; simp⟩
    · rw [nwe_c]
      obtain ⟨x, hx⟩ := (nw_keep n r (t ++ [c]) hr).1
      exact ⟨[c] ++ x, by rw [hx]; simp⟩
theorem escc_o {q c : Nat} (h1 : c ≠ q) (h2 : c ≠ 92) (h3 : c ≠ 10) (h4 : c ≠ 9) : escc q c = [c] := by
  unfold escc
  rw [if_neg (fun h => h.elim h1 h2), if_neg h3, if_neg h4]
theorem esdC_o {b : Bool} {c : Nat} (h2 : c ≠ 92) (h3 : c ≠ 10) (h4 : c ≠ 9) : esdC b c = [c] := by
  unfold esdC
  rw [if_neg h2, if_neg h3, if_neg h4]
theorem netC_o {c : Nat} (h3 : c ≠ 10) (h4 : c ≠ 9) : netC c = c := by
  unfold netC
  rw [if_neg h3, if_neg h4]
theorem nq_esc : ∀ (w t r : List Nat), (∀ c ∈ w, c ≠ 34) → nq t (w.flatMap (escc 34) ++ 34 :: r) = (t ++ w.map netC, r)
  | [], t, r, _ => by
    show nq t (34 :: r) = _
    rw [nq_q rfl]; simp
  | c :: w, t, r, h => by
    have hc := h c (.head _)
    have ih := fun t' => nq_esc w t' r fun d hd => h d (.tail _ hd)
    rw [List.flatMap_cons, List.append_assoc]
    by_cases h2 : c = 92
    · subst h2
      show nq t (92 :: 92 :: (w.flatMap (escc 34) ++ 34 :: r)) = _
      rw [nq_b rfl, nqe_c, ih]; simp [netC]
    · by_cases h3 : c = 10
      · subst h3
        show nq t (92 :: 110 :: (w.flatMap (escc 34) ++ 34 :: r)) = _
        rw [nq_b rfl, nqe_c, ih]; simp [netC]
      · by_cases h4 : c = 9
        · subst h4
          show nq t (92 :: 116 :: (w.flatMap (escc 34) ++ 34 :: r)) = _
          rw [nq_b rfl, nqe_c, ih]; simp [netC]
        · rw [escc_o hc h2 h3 h4]
          show nq t (c :: (w.flatMap (escc 34) ++ 34 :: r)) = _
          rw [nq_c hc h2, ih]; simp [netC_o h3 h4]
theorem nw_ab : ∀ (w t : List Nat) (r : List Nat), w.all (fun c => c == 97 || c == 98) = true → nw t (w ++ r) = nw (t ++ w) r
  | [], t, r, _ => by simp
  | c :: w, t, r, h => by
    rw [List.all_cons, Bool.and_eq_true] at h
    have hc : c = 97 ∨ c = 98 := by simpa using h.1
    have h1 : isWs c = false := by rcases hc with rfl | rfl <;> decide
    rw [List.cons_append, nw_c h1 (by omega), nw_ab w _ r h.2]
    simp
theorem contains_false {w : List Nat} {c : Nat} (h : w.contains c = false) : ∀ d ∈ w, d ≠ c := fun d hd e => by
  have : w.contains c = true := by rw [List.contains_iff_mem]; exact e ▸ hd
  rw [this] at h; cases h
theorem ntok_tl (ws : List (List Nat × Bool)) : ntok (tlL ws) = ntok (lineL ws) := by
  cases ws with
  | nil => rfl
  | cons q r => show ntok (32 :: _) = _; rw [ntok_ws (by decide)]
theorem nw_tl (t : List Nat) (ws : List (List Nat × Bool)) : nw t (tlL ws) = (t, lineL ws) := by
  cases ws with
  | nil => show nw t [] = _; rw [nw_e]; rfl
  | cons q r => show nw t (32 :: _) = _; rw [nw_w (by decide)]
theorem ntok_39 (r : List Nat) : (ntok (39 :: r)).1.take 1 = [39] := by
  rw [ntok_c (by decide) (by decide) (by decide)]
  obtain ⟨x, hx⟩ := (nw_keep _ r [39] (Nat.le_refl _)).1
  rw [hx]; rfl
theorem net_whole (p : List Nat × Bool) (ws : List (List Nat × Bool)) (h : (netL p.1 p.2).2 = true) :
    (ntok (lineL (p :: ws))).1 = (netL p.1 p.2).1 ∧ ntok (ntok (lineL (p :: ws))).2 = ntok (lineL ws) := by
  obtain ⟨w, b⟩ := p
  rw [lineL_cons]
  unfold netL at h ⊢
  dsimp only at h ⊢
  by_cases h1 : (b && w.contains 39 && !w.contains 34) = true
  · rw [if_pos h1]
    simp only [Bool.and_eq_true, Bool.not_eq_true'] at h1
    obtain ⟨⟨hb, h39⟩, h34⟩ := h1
    have he : encL (w, b) = 34 :: (w.flatMap (escc 34) ++ [34]) := by
      have hq : repQ w = 34 := by unfold repQ; rw [h39, h34]; rfl
      unfold encL
      rw [hb, if_pos rfl]
      show repL w = _
      unfold repL
      rw [hq]
    have h5 : ntok (encL (w, b) ++ tlL ws) = (w.map netC, tlL ws) := by
      rw [he, List.cons_append, List.append_assoc, ntok_q (by decide) rfl]
      have := nq_esc w [] (tlL ws) (contains_false h34)
      simpa using this
    rw [h5]
    exact ⟨rfl, ntok_tl ws⟩
  · rw [if_neg h1] at h ⊢
    by_cases h2 : (!b && !w.isEmpty && w.all (fun c => c == 97 || c == 98)) = true
    · rw [if_pos h2]
      simp only [Bool.and_eq_true, Bool.not_eq_true'] at h2
      obtain ⟨⟨hb, hne⟩, hall⟩ := h2
      have hl4 : w.all let4 = true := by
        rw [List.all_eq_true] at hall ⊢
        intro c hc
        have := hall c hc
        have hc : c = 97 ∨ c = 98 := by simpa using this
        rcases hc with rfl | rfl <;> decide
      cases w with
      | nil => cases hne
      | cons c w =>
        have he : encL (c :: w, b) = c :: w := by
          unfold encL quoL
          rw [hb]
          simp only [Bool.false_eq_true, if_false]
          rw [if_neg (List.cons_ne_nil _ _), if_pos hl4]
        have hall' := hall
        rw [List.all_cons, Bool.and_eq_true] at hall'
        have hc : c = 97 ∨ c = 98 := by simpa using hall'.1
        have hw : isWs c = false := by rcases hc with rfl | rfl <;> decide
        rw [he, List.cons_append, ntok_c hw (by omega) (by omega), nw_ab w _ _ hall'.2, nw_tl]
        exact ⟨rfl, rfl⟩
    · rw [if_neg h2] at h; cases h
theorem net_part (p : List Nat × Bool) (hp : okp p) (ws : List (List Nat × Bool)) (h : (netL p.1 p.2).2 = false) :
    (netL p.1 p.2).1 = [39] ∧ (ntok (lineL (p :: ws))).1.take 1 = [39] := by
  obtain ⟨w, b⟩ := p
  rw [lineL_cons]
  unfold netL at h ⊢
  dsimp only at h ⊢
  by_cases h1 : (b && w.contains 39 && !w.contains 34) = true
  · rw [if_pos h1] at h; cases h
  rw [if_neg h1] at h ⊢
  by_cases h2 : (!b && !w.isEmpty && w.all (fun c => c == 97 || c == 98)) = true
  · rw [if_pos h2] at h; cases h
  rw [if_neg h2]
  refine ⟨rfl, ?_⟩
  have he : ∃ r, encL (w, b) = 39 :: r := by
    unfold encL
    dsimp only
    cases b with
    | true =>
      rw [if_pos rfl]
      unfold repL repQ
      rw [if_neg (by simpa using h1)]
      exact ⟨_, rfl⟩
    | false =>
      rw [if_neg Bool.false_ne_true]
      unfold quoL
      by_cases hw : w = []
      · rw [if_pos hw]; exact ⟨_, rfl⟩
      · rw [if_neg hw]
        by_cases hl : w.all let4 = true
        · exfalso
          apply h2
          have hne : w.isEmpty = false := by simpa using hw
          rw [hne]
          simp only [Bool.not_false, Bool.true_and]
          rw [List.all_eq_true] at hl ⊢
          intro c hc
          have h3 := hl c hc
          have h4 := hp.2 rfl c hc
          unfold let4 at h3
          simp only [List.contains_cons, List.contains_nil, Bool.or_false, Bool.or_eq_true, beq_iff_eq] at h3
          rcases h3 with h3 | h3 | h3 | h3 | h3
          · simp [h3]
          · simp [h3]
          · exact absurd h3 h4.1
          · exact absurd h3 h4.2.2
          · exact absurd h3 h4.2.1
        · rw [if_neg hl]; exact ⟨_, rfl⟩
  obtain ⟨r, hr⟩ := he
  rw [hr, List.cons_append]
  exact ntok_39 _
theorem net_nil : ntok (lineL []) = ([], []) := by
  show ntok [] = _
  rw [ntok]

theorem okc_letter {c : Nat} (h : let4 c = true) : isLet c = true := by
  unfold let4 at h
  simp only [List.contains_cons, List.contains_nil, Bool.or_false, Bool.or_eq_true, beq_iff_eq] at h
  rcases h with rfl | rfl | rfl | rfl | rfl <;> decide
theorem sa_tl (t : List Nat) (ws : List (List Nat × Bool)) : sa t (tlL ws) = (t, lineL ws, if ws = [] then 1 else 0) := by
  cases ws with
  | nil => show sa t [] = _; rw [sa_e]; rfl
  | cons q r => show sa t (32 :: _) = _; rw [sa_ws (by decide)]; rfl
theorem sa_lets : ∀ (w t r : List Nat), w.all let4 = true → sa t (w ++ r) = sa (t ++ w) r
  | [], t, r, _ => by simp
  | c :: w, t, r, h => by
    rw [List.all_cons, Bool.and_eq_true] at h
    rw [List.cons_append, sa_let (okc_letter h.1), sa_lets w _ r h.2]; simp
theorem sq_quo : ∀ (w t r : List Nat), sq t (w.flatMap quoC ++ 39 :: r) = sa (t ++ w) r
  | [], t, r => by
    show sq t (39 :: r) = _
    rw [sq_q rfl]; simp
  | c :: w, t, r => by
    rw [List.flatMap_cons, List.append_assoc]
    by_cases h : c = 39
    · subst h
      show sq t (39 :: 34 :: 39 :: 34 :: 39 :: (w.flatMap quoC ++ 39 :: r)) = _
      rw [sq_q rfl, sa_qt rfl, sd_c (by decide) (by decide), sd_q rfl, sa_ap rfl, sq_quo]; simp
    · rw [show quoC c = [c] from if_neg h]
      show sq t (c :: (w.flatMap quoC ++ 39 :: r)) = _
      rw [sq_c h, sq_quo]; simp
theorem sd_rep : ∀ (w t r : List Nat), (∀ c ∈ w, c ≠ 34) → sd t (w.flatMap (escc 34) ++ 34 :: r) = sa (t ++ escL w false) r
  | [], t, r, _ => by
    show sd t (34 :: r) = _
    rw [sd_q rfl]; simp [escL]
  | c :: w, t, r, h => by
    have hc := h c (.head _)
    have ih := fun t' => sd_rep w t' r fun d hd => h d (.tail _ hd)
    rw [List.flatMap_cons, List.append_assoc]
    have e : escL (c :: w) false = esdC false c ++ escL w false := by unfold escL; rw [List.flatMap_cons]
    rw [e]
    by_cases h2 : c = 92
    · subst h2
      show sd t (92 :: 92 :: (w.flatMap (escc 34) ++ 34 :: r)) = _
      rw [sd_b rfl, sde_s (.inr rfl), ih]; simp [esdC]
    · by_cases h3 : c = 10
      · subst h3
        show sd t (92 :: 110 :: (w.flatMap (escc 34) ++ 34 :: r)) = _
        rw [sd_b rfl, sde_o (by decide) (by decide), ih]; simp [esdC]
      · by_cases h4 : c = 9
        · subst h4
          show sd t (92 :: 116 :: (w.flatMap (escc 34) ++ 34 :: r)) = _
          rw [sd_b rfl, sde_o (by decide) (by decide), ih]; simp [esdC]
        · rw [escc_o hc h2 h3 h4, esdC_o h2 h3 h4]
          show sd t (c :: (w.flatMap (escc 34) ++ 34 :: r)) = _
          rw [sd_c hc h2, ih]; simp
theorem sq_rep : ∀ (w t r : List Nat), (∀ c ∈ w, c ≠ 39) → sq t (w.flatMap (escc 39) ++ r) = sq (t ++ escL w true) r
  | [], t, r, _ => by simp [escL]
  | c :: w, t, r, h => by
    have hc := h c (.head _)
    have ih := fun t' => sq_rep w t' r fun d hd => h d (.tail _ hd)
    rw [List.flatMap_cons, List.append_assoc]
    have e : escL (c :: w) true = esdC true c ++ escL w true := by unfold escL; rw [List.flatMap_cons]
    rw [e]
    by_cases h2 : c = 92
    · subst h2
      show sq t (92 :: 92 :: (w.flatMap (escc 39) ++ r)) = _
      rw [sq_c (by decide), sq_c (by decide), ih]; simp [esdC]
    · by_cases h3 : c = 10
      · subst h3
        show sq t (92 :: 110 :: (w.flatMap (escc 39) ++ r)) = _
        rw [sq_c (by decide), sq_c (by decide), ih]; simp [esdC]
      · by_cases h4 : c = 9
        · subst h4
          show sq t (92 :: 116 :: (w.flatMap (escc 39) ++ r)) = _
          rw [sq_c (by decide), sq_c (by decide), ih]; simp [esdC]
        · rw [escc_o hc h2 h3 h4, esdC_o h2 h3 h4]
          show sq t (c :: (w.flatMap (escc 39) ++ r)) = _
          rw [sq_c hc, ih]; simp
theorem she_whole (p : List Nat × Bool) (ws : List (List Nat × Bool)) (h : (sheL p.1 p.2).2 = true) :
    s0 (lineL (p :: ws)) = ((sheL p.1 p.2).1, lineL ws, if ws = [] then 1 else 0) := by
  obtain ⟨w, b⟩ := p
  rw [lineL_cons, ← sa_tl]
  unfold sheL at h ⊢
  dsimp only at h ⊢
  cases b with
  | false =>
    simp only [Bool.not_false, if_true]
    unfold encL quoL
    dsimp only
    rw [if_neg Bool.false_ne_true]
    by_cases hw : w = []
    · subst hw
      rw [if_pos rfl]
      show s0 (39 :: 39 :: tlL ws) = _
      rw [s0_ap rfl, sq_q rfl]
    · rw [if_neg hw]
      by_cases hl : w.all let4 = true
      · rw [if_pos hl]
        cases w with
        | nil => exact absurd rfl hw
        | cons c w =>
          have hl' := hl
          rw [List.all_cons, Bool.and_eq_true] at hl'
          rw [List.cons_append, s0_let (okc_letter hl'.1), sa_lets w _ _ hl'.2]; rfl
      · rw [if_neg hl, List.cons_append, List.append_assoc, s0_ap rfl]
        have := sq_quo w [] (tlL ws)
        simpa using this
  | true =>
    simp only [Bool.not_true, Bool.false_eq_true, if_false] at h ⊢
    by_cases h1 : (w.contains 39 && w.contains 34) = true
    · rw [if_pos h1] at h; cases h
    rw [if_neg h1]
    show s0 (repL w ++ tlL ws) = _
    unfold repL
    by_cases h39 : w.contains 39 = true
    · have h34 : w.contains 34 = false := by
        cases h34 : w.contains 34 with
        | false => rfl
        | true => rw [h39, h34] at h1; exact absurd rfl h1
      have hq : repQ w = 34 := by unfold repQ; rw [h39, h34]; rfl
      rw [hq, h39]
      rw [List.cons_append, List.append_assoc, s0_qt rfl]
      have := sd_rep w [] (tlL ws) (contains_false h34)
      simpa using this
    · have h39' : w.contains 39 = false := by simpa using h39
      have hq : repQ w = 39 := by unfold repQ; rw [h39']; rfl
      rw [hq, h39']
      rw [List.cons_append, List.append_assoc, s0_ap rfl, sq_rep w _ _ (contains_false h39')]
      show sq _ (39 :: tlL ws) = _
      rw [sq_q rfl]; rfl
theorem takeWhile_ne : ∀ {w : List Nat} (c : Nat), c ∈ w.takeWhile (· != 39) → c ≠ 39
  | [], c, h => by cases h
  | d :: w, c, h => by
    rw [List.takeWhile_cons] at h
    split at h
    · rename_i hd
      rcases List.mem_cons.mp h with e | h
      · rw [e]; simpa using hd
      · exact takeWhile_ne c h
    · cases h
noncomputable def okl (c : Nat) : Bool := okc c || c == 110
theorem okl_sa {c : Nat} (h : okl c = true) : isWs c = true ∨ c = 35 ∨ c = 39 ∨ c = 34 ∨ c = 92 ∨ isLet c = true := by
  unfold okl at h
  rw [Bool.or_eq_true] at h
  rcases h with h | h
  · rcases okc_cases h with h | h | h | h | h | h | h | h | h | h | h | h <;> subst h <;> decide
  · have : c = 110 := by simpa using h
    subst this; decide
noncomputable def outOk (d : List Nat) (o : List Nat × List Nat × Nat) : Prop := (∃ x, o.1 = d ++ x) ∧ (o.2.2 = 0 ∨ o.2.2 = 1 ∨ o.2.2 = 2 ∨ o.2.2 = 3)
theorem outOk.mono {d y : List Nat} {o : List Nat × List Nat × Nat} (h : outOk (d ++ y) o) : outOk d o := by
  obtain ⟨⟨x, hx⟩, h⟩ := h
  exact ⟨⟨y ++ x, by rw [hx]; simp⟩, h⟩
theorem sa_runs : ∀ (n : Nat) (r t : List Nat), r.length ≤ n → (∀ c ∈ r, okl c = true) → outOk t (sa t r) ∧ outOk t (sq t r) ∧ outOk t (sd t r) ∧ outOk t (se t r) ∧ outOk t (sde t r)
  | _, [], t, _, _ => by
    rw [sa_e, sq_e, sd_e, se_e, sde_e]
    refine ⟨⟨⟨[], by simp⟩, by simp⟩, ⟨⟨[], by simp⟩, by simp⟩, ⟨⟨[], by simp⟩, by simp⟩, ⟨⟨[], by simp⟩, by simp⟩, ⟨⟨[], by simp⟩, by simp⟩⟩
  | 0, c :: r, t, h, _ => by simp at h
  | n + 1, c :: r, t, h, hk => by
    have hr : r.length ≤ n := by simp at h; omega
    have hk' : ∀ d ∈ r, okl d = true := fun d hd => hk d (.tail _ hd)
    have hc := okl_sa (hk c (.head _))
    have IH := fun t' => sa_runs n r t' hr hk'
    refine ⟨?_, ?_, ?_, ?_, ?_⟩
    · rcases hc with hc | hc | hc | hc | hc | hc
      · rw [sa_ws hc]; exact ⟨⟨[], by simp⟩, by simp⟩
      · rw [sa_cm hc]; exact ⟨⟨[], by simp⟩, by simp⟩
      · rw [sa_ap hc]; exact (IH t).2.1
      · rw [sa_qt hc]; exact (IH t).2.2.1
      · rw [sa_bs hc]; exact (IH t).2.2.2.1
      · rw [sa_let hc]; exact (IH (t ++ [c])).1.mono
    · by_cases h1 : c = 39
      · rw [sq_q h1]; exact (IH t).1
      · rw [sq_c h1]; exact (IH (t ++ [c])).2.1.mono
    · by_cases h1 : c = 34
      · rw [sd_q h1]; exact (IH t).1
      · by_cases h2 : c = 92
        · rw [sd_b h2]; exact (IH t).2.2.2.2
        · rw [sd_c h1 h2]; exact (IH (t ++ [c])).2.2.1.mono
    · rw [se_c]; exact (IH (t ++ [c])).1.mono
    · by_cases h1 : c = 34 ∨ c = 92
      · rw [sde_s h1]; exact (IH (t ++ [c])).2.2.1.mono
      · rw [sde_o (fun e => h1 (.inl e)) (fun e => h1 (.inr e))]
        rw [List.append_assoc]
        exact (IH (t ++ ([92] ++ [c]))).2.2.1.mono
theorem okl_enc {p : List Nat × Bool} (hp : okw p.1) : ∀ c ∈ encL p, okl c = true := by
  obtain ⟨w, b⟩ := p
  have hw : ∀ c ∈ w, okl c = true := fun c hc => by unfold okl; rw [hp.1 c hc]; rfl
  intro c hc
  unfold encL at hc
  dsimp only at hc
  cases b with
  | true =>
    rw [if_pos rfl] at hc
    unfold repL at hc
    have hq : okl (repQ w) = true := by rcases repQ_is w with e | e <;> rw [e] <;> decide
    rcases List.mem_cons.mp hc with e | hc
    · rw [e]; exact hq
    rcases List.mem_append.mp hc with hc | hc
    · obtain ⟨d, hd, hcd⟩ := List.mem_flatMap.mp hc
      unfold escc at hcd
      have hdk := hw d hd
      repeat' split at hcd
      all_goals (simp at hcd)
      · rcases hcd with rfl | rfl
        · decide
        · exact hdk
      · rcases hcd with rfl | rfl <;> decide
      · rcases hcd with rfl | rfl <;> decide
      · rw [hcd]; exact hdk
    · rw [List.mem_singleton.mp hc]; exact hq
  | false =>
    rw [if_neg Bool.false_ne_true] at hc
    unfold quoL at hc
    repeat' split at hc
    · simp at hc; rw [hc]; decide
    · exact hw c hc
    · rcases List.mem_cons.mp hc with e | hc
      · rw [e]; decide
      rcases List.mem_append.mp hc with hc | hc
      · obtain ⟨d, hd, hcd⟩ := List.mem_flatMap.mp hc
        unfold quoC at hcd
        have hdk := hw d hd
        split at hcd
        · have : c = 39 ∨ c = 34 := by simp at hcd; omega
          rcases this with h | h <;> rw [h] <;> decide
        · rw [List.mem_singleton.mp hcd]; exact hdk
      · rw [List.mem_singleton.mp hc]; decide
theorem okl_line : ∀ (ws : List (List Nat × Bool)), (∀ p ∈ ws, okw p.1) → ∀ c ∈ lineL ws, okl c = true
  | [], _, c, hc => by cases hc
  | [p], h, c, hc => by
    rw [lineL_cons] at hc
    rcases List.mem_append.mp hc with hc | hc
    · exact okl_enc (h p (.head _)) c hc
    · cases hc
  | p :: q :: r, h, c, hc => by
    rw [lineL_cons] at hc
    rcases List.mem_append.mp hc with hc | hc
    · exact okl_enc (h p (.head _)) c hc
    · rcases List.mem_cons.mp hc with e | hc
      · rw [e]; decide
      · exact okl_line (q :: r) (fun z hz => h z (.tail _ hz)) c hc
theorem okl_tl (ws : List (List Nat × Bool)) (h : ∀ p ∈ ws, okw p.1) : ∀ c ∈ tlL ws, okl c = true := by
  cases ws with
  | nil => intro c hc; cases hc
  | cons q r =>
    intro c hc
    rcases List.mem_cons.mp hc with e | hc
    · rw [e]; decide
    · exact okl_line _ h c hc
theorem she_part (p : List Nat × Bool) (ws : List (List Nat × Bool)) (hk : ∀ q ∈ p :: ws, okw q.1) (h : (sheL p.1 p.2).2 = false) :
    outOk (sheL p.1 p.2).1 (s0 (lineL (p :: ws))) := by
  obtain ⟨w, b⟩ := p
  have hline := okl_line _ hk
  rw [lineL_cons] at hline ⊢
  unfold sheL at h ⊢
  dsimp only at h ⊢
  cases b with
  | false => simp at h
  | true =>
    simp only [Bool.not_true, Bool.false_eq_true, if_false] at h ⊢
    by_cases h1 : (w.contains 39 && w.contains 34) = true
    · rw [if_pos h1]
      rw [Bool.and_eq_true] at h1
      have hq : repQ w = 39 := by unfold repQ; rw [h1.1, h1.2]; rfl
      have hm : (39 : Nat) ∈ w := List.contains_iff_mem.mp h1.1
      obtain ⟨b, hb⟩ : ∃ b, w = w.takeWhile (· != 39) ++ 39 :: b := by
        clear h hline hk hq h1
        induction w with
        | nil => cases hm
        | cons c w ih =>
          by_cases hc : c = 39
          · subst hc; exact ⟨w, by simp⟩
          · rcases List.mem_cons.mp hm with e | hm
            · exact absurd e.symm hc
            · obtain ⟨b, hb⟩ := ih hm
              refine ⟨b, ?_⟩
              rw [List.takeWhile_cons, if_pos (by simpa using hc), List.cons_append, ← hb]
      have htw : ∀ c ∈ w.takeWhile (· != 39), c ≠ 39 := by
        intro c hc
        exact takeWhile_ne c hc
      have he : ∃ r, encL (w, true) = 39 :: ((w.takeWhile (· != 39)).flatMap (escc 39) ++ 92 :: 39 :: r) := by
        refine ⟨b.flatMap (escc 39) ++ [39], ?_⟩
        show repL w = _
        unfold repL
        rw [hq]
        conv => lhs; rw [hb]
        rw [List.flatMap_append, List.flatMap_cons]
        simp [escc]
      obtain ⟨r, hr⟩ := he
      rw [hr] at hline ⊢
      rw [List.cons_append, List.append_assoc, s0_ap rfl, sq_rep _ _ _ htw]
      show outOk _ (sq _ (92 :: 39 :: (r ++ tlL ws)))
      rw [sq_c (by decide), sq_q rfl]
      refine (sa_runs _ (r ++ tlL ws) _ (Nat.le_refl _) (fun c hc => hline c ?_)).1
      simp only [List.cons_append, List.append_assoc, List.mem_cons, List.mem_append] at hc ⊢
      right; right; right; right
      exact hc
    · rw [if_neg h1] at h; cases h
theorem she_ne4 (p : List Nat × Bool) (ws : List (List Nat × Bool)) (hk : ∀ q ∈ p :: ws, okw q.1) : (s0 (lineL (p :: ws))).2.2 ≠ 4 := by
  cases h : (sheL p.1 p.2).2 with
  | true =>
    rw [she_whole p ws h]
    dsimp only
    split <;> decide
  | false =>
    obtain ⟨_, h⟩ := she_part p ws hk h
    rcases h with h | h | h | h <;> rw [h] <;> decide
theorem nw_len : ∀ (n : Nat) (r t : List Nat), r.length ≤ n → (nw t r).1.length ≤ t.length + r.length ∧ (nwe t r).1.length ≤ t.length + r.length ∧ (nq t r).1.length ≤ t.length + r.length ∧ (nqe t r).1.length ≤ t.length + r.length
  | _, [], t, _ => by rw [nw_e, nwe_e, nq_e, nqe_e]; simp
  | 0, c :: r, t, h => by simp at h
  | n + 1, c :: r, t, h => by
    have hr : r.length ≤ n := by simp at h; omega
    have I1 := nw_len n r t hr
    have I2 := nw_len n r (t ++ [c]) hr
    simp only [List.length_append, List.length_cons, List.length_nil] at I2 ⊢
    refine ⟨?_, ?_, ?_, ?_⟩
    · by_cases h1 : isWs c = true
      · rw [nw_w h1]; dsimp only; omega
      · by_cases h2 : c = 92
        · rw [nw_b (by simpa using h1) h2]; omega
        · rw [nw_c (by simpa using h1) h2]; omega
    · rw [nwe_c]; omega
    · by_cases h1 : c = 34
      · rw [nq_q h1]; dsimp only; omega
      · by_cases h2 : c = 92
        · rw [nq_b h2]; omega
        · rw [nq_c h1 h2]; omega
    · rw [nqe_c]; omega
theorem ntok_len : ∀ (r : List Nat), (ntok r).1.length ≤ r.length
  | [] => by rw [ntok]; simp
  | c :: r => by
    have ih := ntok_len r
    have I1 := nw_len _ r [] (Nat.le_refl _)
    have I2 := nw_len _ r [c] (Nat.le_refl _)
    simp only [List.length_cons, List.length_nil] at I1 I2 ⊢
    by_cases h1 : isWs c = true
    · rw [ntok_ws h1]; omega
    · have h1' : isWs c = false := by simpa using h1
      by_cases h2 : c = 34
      · rw [ntok_q h1' h2]; omega
      · by_cases h3 : c = 92
        · rw [ntok_b h1' h3]; omega
        · rw [ntok_c h1' h2 h3]; omega
theorem sa_len : ∀ (n : Nat) (r t : List Nat), r.length ≤ n → (sa t r).1.length ≤ t.length + r.length ∧ (sq t r).1.length ≤ t.length + r.length ∧ (sd t r).1.length ≤ t.length + r.length ∧ (se t r).1.length ≤ t.length + r.length ∧ (sde t r).1.length ≤ t.length + r.length + 1
  | _, [], t, _ => by rw [sa_e, sq_e, sd_e, se_e, sde_e]; simp
  | 0, c :: r, t, h => by simp at h
  | n + 1, c :: r, t, h => by
    have hr : r.length ≤ n := by simp at h; omega
    have I1 := sa_len n r t hr
    have I2 := sa_len n r (t ++ [c]) hr
    have I3 := sa_len n r (t ++ [92] ++ [c]) hr
    simp only [List.length_append, List.length_cons, List.length_nil] at I2 I3 ⊢
    refine ⟨?_, ?_, ?_, ?_, ?_⟩
    · by_cases h1 : isWs c = true
      · rw [sa_ws h1]; dsimp only; omega
      by_cases h2 : c = 35
      · rw [sa_cm h2]; dsimp only; omega
      by_cases h3 : c = 39
      · rw [sa_ap h3]; omega
      by_cases h4 : c = 34
      · rw [sa_qt h4]; omega
      by_cases h5 : c = 92
      · rw [sa_bs h5]; omega
      by_cases h6 : isLet c = true
      · rw [sa_let h6]; omega
      rw [sa, if_neg h1, if_neg h2, if_neg h3, if_neg h4, if_neg h5, if_neg h6]
      dsimp only; omega
    · by_cases h1 : c = 39
      · rw [sq_q h1]; omega
      · rw [sq_c h1]; omega
    · by_cases h1 : c = 34
      · rw [sd_q h1]; omega
      · by_cases h2 : c = 92
        · rw [sd_b h2]; omega
        · rw [sd_c h1 h2]; omega
    · rw [se_c]; omega
    · by_cases h1 : c = 34 ∨ c = 92
      · rw [sde_s h1]; omega
      · rw [sde_o (fun e => h1 (.inl e)) (fun e => h1 (.inr e))]; omega
theorem s0_len : ∀ (r : List Nat), (s0 r).1.length ≤ r.length
  | [] => by rw [s0]; simp
  | c :: r => by
    have I1 := sa_len _ r [] (Nat.le_refl _)
    have I2 := sa_len _ r [c] (Nat.le_refl _)
    simp only [List.length_cons, List.length_nil] at I1 I2 ⊢
    by_cases h3 : c = 39
    · rw [s0_ap h3]; omega
    by_cases h4 : c = 34
    · rw [s0_qt h4]; omega
    by_cases h6 : isLet c = true
    · rw [s0_let h6]; omega
    rw [s0, if_neg h3, if_neg h4, if_neg h6]
    dsimp only; simp
theorem take1 {l : List Nat} (h : l.take 1 = [39]) : ∃ x, l = [39] ++ x := by
  cases l with
  | nil => cases h
  | cons c l => exact ⟨l, by simpa using h⟩
theorem enc_len (p : List Nat × Bool) : (encL p).length ≤ 5 * p.1.length + 2 := by
  obtain ⟨w, b⟩ := p
  have h1 : ∀ (q : Nat) (w : List Nat), (w.flatMap (escc q)).length ≤ 5 * w.length := by
    intro q w
    induction w with
    | nil => simp
    | cons c w ih =>
      rw [List.flatMap_cons, List.length_append, List.length_cons]
      have : (escc q c).length ≤ 2 := by unfold escc; repeat' split
                                         all_goals simp
      omega
  have h2 : ∀ (w : List Nat), (w.flatMap quoC).length ≤ 5 * w.length := by
    intro w
    induction w with
    | nil => simp
    | cons c w ih =>
      rw [List.flatMap_cons, List.length_append, List.length_cons]
      have : (quoC c).length ≤ 5 := by unfold quoC; split
                                       all_goals simp
      omega
  unfold encL
  dsimp only
  split
  · unfold repL
    have := h1 (repQ w) w
    rw [List.length_cons, List.length_append]
    show _ + 1 + 1 ≤ _
    omega
  · unfold quoL
    have := h2 w
    repeat' split
    · simp
    · omega
    · rw [List.length_cons, List.length_append]
      show _ + 1 + 1 ≤ _
      omega
theorem line_len : ∀ (ws : List (List Nat × Bool)), (∀ p ∈ ws, okw p.1) → (lineL ws).length ≤ 33 * ws.length
  | [], _ => by simp [lineL]
  | [p], h => by
    rw [lineL_cons]
    have h1 := enc_len p
    have h2 := (h p (.head _)).2
    simp [tlL]; omega
  | p :: q :: r, h => by
    rw [lineL_cons]
    have h1 := enc_len p
    have h2 := (h p (.head _)).2
    have ih := line_len (q :: r) fun z hz => h z (.tail _ hz)
    simp [tlL] at ih ⊢; omega
theorem slice_pre {l x : List Nat} {k : Int} (hk : k = (l.length : Int)) : Txt.slice (tx (l ++ x)) none (some k) = tx l := by
  subst hk
  have h := eq_of_beq (slice_closes_to (x := tx (l ++ x)) (j := (l.length : Int)) ⟨by omega, by simp; omega⟩)
  rw [h]
  simp
end Mine
end
section
open PySem PySem.W PyProof.Rows PySem.Calls PySem.Spec PyProof
set_option maxRecDepth 100000
set_option maxHeartbeats 8000000
namespace Mine
noncomputable abbrev WQ := Addr × List Nat × Tok × Bool
noncomputable abbrev tupO (q : WQ) : Obj := { cls := .type "tuple", data := .seq #[.str (tx q.2.1) q.2.2.1, .bool q.2.2.2] }
noncomputable abbrev wrefs (ws : List WQ) : List Value := ws.map fun q => .ref q.1
noncomputable abbrev wprs (ws : List WQ) : List (List Nat × Bool) := ws.map fun q => (q.2.1, q.2.2.2)
inductive PCon (h₀ : Heap) (L : Addr) (s : Shared) (I : Addr) (oI : Obj) (J : Nat → (Str → Option Value) → List (Addr × Obj) → Prop) (i : Nat) (s₃ : Shared) : Prop
  | mk (h' : Heap) (tk : Nat) (m₂ : Str → Option Value) (news₂ : List (Addr × Obj)) (e : s₃ = { s with heap := h', toks := tk }) (F : Fr h₀ L h' m₂) (N : News h₀ L h' ((I, oI) :: news₂)) (off : ∀ p ∈ news₂, p.1 ≠ I) (hJ : J i m₂ news₂) : PCon h₀ L s I oI J i s₃
inductive PInv (h₀ : Heap) (L : Addr) (s : Shared) (I wl : Addr) (k : Nat) (J : Nat → (Str → Option Value) → List (Addr × Obj) → Prop) (n : Nat) (s' : Shared) : Prop
  | mk (h₁ : Heap) (tk₁ : Nat) (m₁ : Str → Option Value) (news₁ : List (Addr × Obj)) (i : Nat) (e : s' = { s with heap := h₁, toks := tk₁ }) (hi : i ≤ k) (hn : n = k + 1 - i) (hit : h₁.IsListIter I wl i) (F : Fr h₀ L h₁ m₁) (N : News h₀ L h₁ news₁) (off : ∀ p ∈ news₁, p.1 ≠ I) (hJ : J i m₁ news₁) : PInv h₀ L s I wl k J n s'
noncomputable def PStep (h₀ : Heap) (L : Addr) (s : Shared) (I : Addr) (oI : Obj) (J : Nat → (Str → Option Value) → List (Addr × Obj) → Prop) (Q : Flow → Shared → Prop) (i : Nat) (f : Flow) (s₃ : Shared) : Prop :=
  match f with
  | .ret v => Q (.ret v) s₃
  | .brk => Q .next s₃
  | _ => PCon h₀ L s I oI J i s₃
noncomputable def Low (l : List (Addr × Obj)) (b : Nat) : Prop := ∀ q ∈ l, @LT.lt Nat _ q.1 b
theorem low_of {d : Addr} {l : List (Addr × Obj)} (h : AllLt d l) : Low l d := fun q hq => allLt_all h q hq
theorem ne_low {l : List (Addr × Obj)} {b : Nat} {d : Addr} (h : Low l b) (hb : @LE.le Nat _ b d) : ∀ q ∈ l, q.1 ≠ d := fun q hq => Nat.ne_of_lt (Nat.lt_of_lt_of_le (h q hq) hb)
section
variable {prog : Program} {w : World} {A : Around} {E : Value → Shared → Prop} {s : Shared} {h₀ : Heap} {L : Addr} {m : Str → Option Value} {news : List (Addr × Obj)} {env : Env}
theorem pstep_go {I : Addr} {oI : Obj} {J : Nat → (Str → Option Value) → List (Addr × Obj) → Prop} {Q : Flow → Shared → Prop} {i : Nat} {h' : Heap} {tk : Nat} {m₂ : Str → Option Value} {news₂ : List (Addr × Obj)} (F : Fr h₀ L h' m₂) (N : News h₀ L h' ((I, oI) :: news₂)) (off : ∀ p ∈ news₂, p.1 ≠ I) (hJ : J i m₂ news₂) :
    PStep h₀ L s I oI J Q i .next { s with heap := h', toks := tk } := ⟨h', tk, m₂, news₂, rfl, F, N, off, hJ⟩
theorem pstep_ret {I : Addr} {oI : Obj} {J : Nat → (Str → Option Value) → List (Addr × Obj) → Prop} {Q : Flow → Shared → Prop} {i : Nat} {v : Value} {s₃ : Shared} (h : Q (.ret v) s₃) : PStep h₀ L s I oI J Q i (.ret v) s₃ := h
theorem for_pairs {a b yn : Str} {pa pb tp py pos : Pos} {kk : Nat} {body : List Stmt} {ws : List WQ} {wl : Addr} {n9 : Nat} {Q : Flow → Shared → Prop} (J : Nat → (Str → Option Value) → List (Addr × Obj) → Prop)
    (hh : A.handled = none) (F : Fr h₀ L s.heap m) (N : News h₀ L s.heap news) (hJ : J 0 m news)
    (ev : ∀ Q' : Value → Shared → Prop, Q' (.ref wl) s → wpAny (model prog w) A (eval (.Name yn py) env) Q' E s)
    (hmem : ∀ i m₁ news₁, J i m₁ news₁ → (wl, W.listOf (wrefs ws).toArray n9) ∈ news₁ ∧ ∀ q ∈ ws, (q.1, tupO q) ∈ news₁)
    (ha : env.kindOf a = some .local) (hb : env.kindOf b = some .local) (hLe : env.locals = L) (hp : (env.scope.kind == .class || (env.scope.kind == .module && env.locals != env.globals)) = false)
    (turn : ∀ i q m₁ news₁ h₁ tk₁ I oI, ws[i]? = some q → J i m₁ news₁ → (∀ p ∈ news₁, p.1 ≠ I) → Fr h₀ L h₁ (fun z => if z = b then some (.bool q.2.2.2) else if z = a then some (.str (tx q.2.1) q.2.2.1) else m₁ z) → News h₀ L h₁ ((I, oI) :: news₁) →
      wpAny (model prog w) A (execs body env) (PStep h₀ L s I oI J Q (i + 1)) E { s with heap := h₁, toks := tk₁ })
    (done : ∀ m₁ news₁ h₁ tk₁, J ws.length m₁ news₁ → Fr h₀ L h₁ m₁ → News h₀ L h₁ news₁ → Q .next { s with heap := h₁, toks := tk₁ })
    (hs : ∀ x, foldedSetIterable (.Name yn py) env x = pure x := by intro _; rfl) (hE : PassesOwn (model prog w) A env E := by passes_own) :
    wpAny (model prog w) A (exec (.For (.Tuple [.Name a pa, .Name b pb] kk tp) (.Name yn py) body [] pos) env) Q E s := by
  subst hLe
  have hwl := (hmem _ _ _ hJ).1
  have hol := (N _ hwl).1
  refine wpAny_For (ev _ (wpAny_pyIter_list (items := (wrefs ws).toArray) ⟨_, hol, rfl, n9, rfl⟩ ?_)) hs
  have hIlt : ∀ c, c < s.heap.objs.size → c ≠ s.heap.objs.size := fun c hc => Nat.ne_of_lt hc
  have hI0 : h₀.get? s.heap.objs.size = none := next_is_new F
  have hIL : s.heap.objs.size ≠ env.locals := Ne.symm (Nat.ne_of_lt F.ns.lt)
  generalize hI : s.heap.objs.size = I at *
  refine codeAny_forLoop_any (R := fun r s' => match r with | .ok f => Q f s' | .error e => cameBackBy (model prog w) A env E e s')
    (PInv h₀ env.locals s I wl ws.length J) ?_ (ws.length + 1)
    ⟨_, _, m, news, 0, rfl, Nat.zero_le _, rfl, ⟨_, by rw [← hI]; exact Heap.get?_push_size _ rfl, rfl, rfl⟩, F.push _, fun p hp => ⟨Heap.get?_push_of_some _ (N p hp).1, (N p hp).2⟩, fun p hp => by rw [← hI]; exact Nat.ne_of_lt (Heap.lt_size (N p hp).1), hJ⟩
  rintro n s' ⟨h₁, tk₁, m₁, news₁, i, rfl, hi, rfl, hit, F₁, N₁, off, J₁⟩
  obtain ⟨hwl₁, hws₁⟩ := hmem _ _ _ J₁
  have hls : h₁.IsList wl (wrefs ws).toArray := ⟨_, (N₁ _ hwl₁).1, rfl, n9, rfl⟩
  refine wpAny_passesOwn hE ?_
  by_cases hlt : i < ws.length
  · have hq : ws[i]? = some ws[i] := by simp [hlt]
    have hx : (wrefs ws).toArray[i]? = some (.ref ws[i].1) := by simp [hlt]
    refine wpAny_pyNext_list_item hit hls hx fun h₂ hit₂ hs₂ => ?_
    have F₂ : Fr h₀ env.locals h₂ m₁ := ext_fr F₁ hs₂.extBut hIL hI0
    have N₂ : News h₀ env.locals h₂ news₁ := ext_news N₁ hs₂.extBut off
    refine wpAny_letOwnedTupleGo_listiter hit₂ ?_
    have ht : Heap.IsTuple h₂ ws[i].1 #[.str (tx ws[i].2.1) ws[i].2.2.1, .bool ws[i].2.2.2] := ⟨_, (N₂ _ (hws₁ _ (List.getElem_mem hlt))).1, rfl, _, rfl⟩
    refine wpAny_passesOwn hE (kcp_assign hh ht ha hb hp F₂.ns fun h₃ tk₃ hn₃ up₃ => ?_)
    obtain ⟨oI, ho, hc, hd⟩ := hit₂
    have F₃ : Fr h₀ env.locals h₃ _ := ⟨hn₃, fun c o e => up₃ c o (fun z => by rw [z, Heap.get?_none_of_le F₂.above] at e; cases e) (F₂.keep c o e), F₂.above⟩
    have N₃ : News h₀ env.locals h₃ ((I, oI) :: news₁) := fun p hp => by
      rcases List.mem_cons.mp hp with rfl | hp
      · exact ⟨up₃ _ _ hIL ho, hIL, hI0⟩
      · exact ⟨up₃ _ _ (N₂ p hp).2.1 (N₂ p hp).1, (N₂ p hp).2⟩
    refine wpAny_passesOwn hE (wpAny_mono (turn i ws[i] m₁ news₁ h₃ tk₃ I oI hq J₁ off F₃ N₃) (fun f s₃ h₃ => ?_) fun _ _ z => z)
    have fin : PCon h₀ env.locals s I oI J (i + 1) s₃ → ∃ n', n' < ws.length + 1 - i ∧ PInv h₀ env.locals s I wl ws.length J n' s₃ := by
      rintro ⟨h', tk, m₂, news₂, rfl, F', N', off', J'⟩
      exact ⟨ws.length + 1 - (i + 1), by omega, h', tk, m₂, news₂, i + 1, rfl, hlt, rfl, ⟨oI, (N' _ (.head _)).1, hc, hd⟩, F', fun p hp => N' p (.tail _ hp), off', J'⟩
    cases f with
    | next => exact fin h₃
    | cont => exact fin h₃
    | brk => exact h₃
    | ret _ => exact h₃
  · have hi' : i = ws.length := by omega
    refine wpAny_pyNext_list_end hh hit hls (by simp [hi']) fun h₂ he₂ => ?_
    exact wpAny_execs_nil (done m₁ news₁ h₂ tk₁ (hi' ▸ J₁) (ext_fr F₁ he₂ hIL hI0) (ext_news N₁ he₂ off))
end
end Mine
end
section
open PySem PySem.W PyProof.Rows PySem.Calls PySem.Spec PyProof
set_option maxRecDepth 100000
set_option maxHeartbeats 8000000
namespace Mine
noncomputable abbrev offW (m₂ m₀ : Str → Option Value) : Prop := ∀ z, z ≠ Str.ofString "by_repr" → z ≠ Str.ofString "word" → z ≠ Str.ofString "due" → z ≠ Str.ofString "whole" → z ≠ Str.ofString "token" → m₂ z = m₀ z
noncomputable abbrev mapW (m₀ : Str → Option Value) (v1 v2 v3 v4 v5 : Option Value) : Str → Option Value := fun z => if z = Str.ofString "by_repr" then v1 else if z = Str.ofString "word" then v2 else if z = Str.ofString "due" then v3 else if z = Str.ofString "whole" then v4 else if z = Str.ofString "token" then v5 else m₀ z
theorem mapW_of {m₁ m₀ : Str → Option Value} (h : offW m₁ m₀) : m₁ = mapW m₀ (m₁ (Str.ofString "by_repr")) (m₁ (Str.ofString "word")) (m₁ (Str.ofString "due")) (m₁ (Str.ofString "whole")) (m₁ (Str.ofString "token")) := by
  funext z
  unfold mapW
  by_cases h1 : z = Str.ofString "by_repr"
  · rw [if_pos h1, h1]
  rw [if_neg h1]
  by_cases h2 : z = Str.ofString "word"
  · rw [if_pos h2, h2]
  rw [if_neg h2]
  by_cases h3 : z = Str.ofString "due"
  · rw [if_pos h3, h3]
  rw [if_neg h3]
  by_cases h4 : z = Str.ofString "whole"
  · rw [if_pos h4, h4]
  rw [if_neg h4]
  by_cases h5 : z = Str.ofString "token"
  · rw [if_pos h5, h5]
  rw [if_neg h5]
  exact h z h1 h2 h3 h4 h5
inductive WCon (h₀ : Heap) (L : Addr) (s : Shared) (I : Addr) (oI : Obj) (m₀ : Str → Option Value) (J : Nat → List (Addr × Obj) → Prop) (i : Nat) (s₃ : Shared) : Prop
  | mk (h' : Heap) (tk : Nat) (m₂ : Str → Option Value) (news₂ : List (Addr × Obj)) (e : s₃ = { s with heap := h', toks := tk }) (F : Fr h₀ L h' m₂) (N : News h₀ L h' ((I, oI) :: news₂)) (off : ∀ p ∈ news₂, p.1 ≠ I) (hm : offW m₂ m₀) (hJ : J i news₂) : WCon h₀ L s I oI m₀ J i s₃
noncomputable def WStep (h₀ : Heap) (L : Addr) (s : Shared) (I : Addr) (oI : Obj) (m₀ : Str → Option Value) (J : Nat → List (Addr × Obj) → Prop) (Q : Flow → Shared → Prop) (i : Nat) (f : Flow) (s₃ : Shared) : Prop :=
  match f with
  | .ret v => Q (.ret v) s₃
  | .brk => Q .next s₃
  | _ => WCon h₀ L s I oI m₀ J i s₃
section
variable {prog : Program} {w : World} {A : Around} {E : Value → Shared → Prop} {s : Shared} {h₀ : Heap} {L : Addr} {m m₀ : Str → Option Value} {news : List (Addr × Obj)} {env : Env}
theorem wstep_go {I : Addr} {oI : Obj} {J : Nat → List (Addr × Obj) → Prop} {Q : Flow → Shared → Prop} {i : Nat} {h' : Heap} {tk : Nat} {m₂ : Str → Option Value} {news₂ : List (Addr × Obj)} (F : Fr h₀ L h' m₂) (N : News h₀ L h' ((I, oI) :: news₂)) (off : ∀ p ∈ news₂, p.1 ≠ I) (hm : offW m₂ m₀) (hJ : J i news₂) :
    WStep h₀ L s I oI m₀ J Q i .next { s with heap := h', toks := tk } := ⟨h', tk, m₂, news₂, rfl, F, N, off, hm, hJ⟩
theorem wstep_ret {I : Addr} {oI : Obj} {J : Nat → List (Addr × Obj) → Prop} {Q : Flow → Shared → Prop} {i : Nat} {v : Value} {s₃ : Shared} (h : Q (.ret v) s₃) : WStep h₀ L s I oI m₀ J Q i (.ret v) s₃ := h
theorem for_words {yn : Str} {pa pb tp py pos : Pos} {kk : Nat} {body : List Stmt} {ws : List WQ} {wl : Addr} {n9 : Nat} {Q : Flow → Shared → Prop} (J : Nat → List (Addr × Obj) → Prop)
    (hh : A.handled = none) (F : Fr h₀ L s.heap m) (N : News h₀ L s.heap news) (hJ : J 0 news)
    (ev : ∀ Q' : Value → Shared → Prop, Q' (.ref wl) s → wpAny (model prog w) A (eval (.Name yn py) env) Q' E s)
    (hmem : ∀ i news₁, J i news₁ → (wl, W.listOf (wrefs ws).toArray n9) ∈ news₁ ∧ ∀ q ∈ ws, (q.1, tupO q) ∈ news₁)
    (ha : env.kindOf (Str.ofString "word") = some .local) (hb : env.kindOf (Str.ofString "by_repr") = some .local) (hLe : env.locals = L) (hp : (env.scope.kind == .class || (env.scope.kind == .module && env.locals != env.globals)) = false)
    (turn : ∀ i q news₁ h₁ tk₁ I oI v3 v4 v5, ws[i]? = some q → J i news₁ → (∀ p ∈ news₁, p.1 ≠ I) → Fr h₀ L h₁ (mapW m (some (.bool q.2.2.2)) (some (.str (tx q.2.1) q.2.2.1)) v3 v4 v5) → News h₀ L h₁ ((I, oI) :: news₁) →
      wpAny (model prog w) A (execs body env) (WStep h₀ L s I oI m J Q (i + 1)) E { s with heap := h₁, toks := tk₁ })
    (done : ∀ news₁ h₁ tk₁ v1 v2 v3 v4 v5, J ws.length news₁ → Fr h₀ L h₁ (mapW m v1 v2 v3 v4 v5) → News h₀ L h₁ news₁ → Q .next { s with heap := h₁, toks := tk₁ })
    (hs : ∀ x, foldedSetIterable (.Name yn py) env x = pure x := by intro _; rfl) (hE : PassesOwn (model prog w) A env E := by passes_own) :
    wpAny (model prog w) A (exec (.For (.Tuple [.Name (Str.ofString "word") pa, .Name (Str.ofString "by_repr") pb] kk tp) (.Name yn py) body [] pos) env) Q E s := by
  refine for_pairs (fun i m₁ news₁ => offW m₁ m ∧ J i news₁) hh F N ⟨fun _ _ _ _ _ _ => rfl, hJ⟩ ev (fun i m₁ news₁ h => hmem i news₁ h.2) ha hb hLe hp ?_ ?_ hs hE
  · rintro i q m₁ news₁ h₁ tk₁ I oI hq ⟨hm, J₁⟩ off F₁ N₁
    have e : (fun z => if z = Str.ofString "by_repr" then some (Value.bool q.2.2.2) else if z = Str.ofString "word" then some (Value.str (tx q.2.1) q.2.2.1) else m₁ z) = mapW m (some (.bool q.2.2.2)) (some (.str (tx q.2.1) q.2.2.1)) (m₁ (Str.ofString "due")) (m₁ (Str.ofString "whole")) (m₁ (Str.ofString "token")) := by
      funext z
      unfold mapW
      by_cases h1 : z = Str.ofString "by_repr"
      · rw [if_pos h1, if_pos h1]
      rw [if_neg h1, if_neg h1]
      by_cases h2 : z = Str.ofString "word"
      · rw [if_pos h2, if_pos h2]
      rw [if_neg h2, if_neg h2]
      have := congrFun (mapW_of hm) z
      unfold mapW at this
      rw [if_neg h1, if_neg h2] at this
      exact this
    rw [e] at F₁
    refine wpAny_mono (turn i q news₁ h₁ tk₁ I oI _ _ _ hq J₁ off F₁ N₁) (fun f s₃ h => ?_) (fun _ _ z => z)
    have fin : WCon h₀ L s I oI m J (i + 1) s₃ → PStep h₀ L s I oI (fun i m₁ news₁ => offW m₁ m ∧ J i news₁) Q (i + 1) .next s₃ := by
      rintro ⟨h', tk, m₂, news₂, e, F', N', off', hm', J'⟩
      exact ⟨h', tk, m₂, news₂, e, F', N', off', hm', J'⟩
    cases f with
    | next => exact fin h
    | cont => exact fin h
    | brk => exact h
    | ret _ => exact h
  · rintro m₁ news₁ h₁ tk₁ ⟨hm, J₁⟩ F₁ N₁
    rw [mapW_of hm] at F₁
    exact done news₁ h₁ tk₁ _ _ _ _ _ J₁ F₁ N₁
end
end Mine
end
section
open PySem PySem.W PyProof.Rows PySem.Calls PySem.Spec PyProof
set_option Elab.async false
set_option maxRecDepth 100000
set_option maxHeartbeats 8000000
namespace Mine
set_option genSizeOf false
set_option genInjectivity false
structure SC where
  w : World
  pg : Program
  loose : List Str
  mean : ExcName → Option Value
  mg : Str → Option Value
  mb : Str → Option Value
  dp : Nat
  un : Nat
  gd : Option (List Code)
  env : Env
  outer : List Env
  base : Heap
  h₀ : Heap
  L : Addr
  s : Shared
  S : Str
  x1 : Addr
  dx1 : Addr
  x : Addr
  d : Addr
  pb : Addr
  fs : Addr
  κ : Nat → Tok
  rest : List (Addr × Obj)
  m₀ : Str → Option Value
noncomputable abbrev SC.A (c : SC) : Around := arnd c.dp c.un c.gd c.env c.outer
structure SC.Ok (c : SC) : Prop where
  B : Below c.A c.base (c.env :: c.outer) c.h₀
  X : (Mine.K c.w.params).In c.h₀
  T : Top c.pg c.loose c.mean c.mg c.mb c.h₀
  hdp : c.dp + 14 < recursionLimit
  hun : c.un + 150 < cLine
  hS : c.S.length ≤ 3990
  o1 : @LT.lt Nat _ c.d c.x
  o2 : @LT.lt Nat _ c.x c.dx1
  o3 : @LT.lt Nat _ c.dx1 c.x1
  o4 : @LT.lt Nat _ c.x1 c.pb
  o5 : @LT.lt Nat _ c.pb c.fs
  off1 : ∀ q ∈ c.rest, q.1 ≠ c.d
  off2 : ∀ q ∈ c.rest, q.1 ≠ c.dx1
  foo : PySem.Challenge.rw_in0140_01.foot = 8
structure TS where
  n : Nat
  st : Option Str
  tok : Str
  nc : Option Str
  es : Str
  q : Bool
noncomputable def SC.led (c : SC) (sv : Value) (ln p : Int) (tw : Str) (u1 u2 i6 : Tok) : List (Addr × Obj) := (c.x1, instObj 647 c.dx1) :: (c.dx1, dictOf (sioE c.w c.S p (c.κ 27) (c.κ 28) (c.κ 29) (c.κ 30) (c.κ 31) i6) 3) :: (c.x, instObj 782 c.d) :: (c.d, dictOf (shlE c.w c.x1 c.pb c.fs sv ln tw u1 u2 (c.κ 0) (c.κ 1) (c.κ 2) (c.κ 3) (c.κ 4) (c.κ 5) (c.κ 6) (c.κ 7) (c.κ 8) (c.κ 9) (c.κ 10) (c.κ 11) (c.κ 12) (c.κ 13) (c.κ 14) (c.κ 15) (c.κ 16) (c.κ 17) (c.κ 18) (c.κ 19) (c.κ 20) (c.κ 21) (c.κ 22) (c.κ 23) (c.κ 24) (c.κ 25) (c.κ 26)) 19) :: (c.pb, dqObj) :: (c.fs, dqObj) :: c.rest
noncomputable def SC.map (c : SC) (nv : Option Value) (ev : Value) (q : Bool) : Str → Option Value := fun z => if z = Str.ofString "nextchar" then nv else if z = Str.ofString "escapedstate" then some ev else if z = Str.ofString "quoted" then some (.bool q) else if z = Str.ofString "self" then some (.ref c.x) else c.m₀ z
noncomputable def isS (x : Str) (v : Value) : Prop := ∃ k, v = .str x k
noncomputable def ncOk : Option Str → Option Value → Prop
  | some y, v => ∃ k, v = some (.str y k)
  | none, _ => True
noncomputable def stOk : Option Str → Value → Prop
  | some y, v => ∃ k, v = .str y k
  | none, v => v = .none
inductive At (c : SC) (t : TS) (s : Shared) : Prop
  | mk (h : Heap) (tk : Nat) (nv : Option Value) (k2 : Tok) (sv : Value) (ln : Int) (u1 u2 i6 : Tok) (he : s = ⟨h, c.s.gens, c.s.drawn, tk, c.s.os⟩) (hnc : ncOk t.nc nv) (hst : stOk t.st sv) (hF : Fr c.h₀ c.L h (c.map nv (.str t.es k2) t.q)) (hN : News c.h₀ c.L h (c.led sv ln t.n t.tok u1 u2 i6)) : At c t s
noncomputable abbrev rtE (L : Addr) : Env := envOf (so "shlex.read_token") (fS [26, 6]) L 750 (vr 749)
noncomputable abbrev SC.M (c : SC) : Model := model PySem.Challenge.rw_in0140_01.row.prog c.w
noncomputable abbrev SC.E (c : SC) : Env := rtE c.L
noncomputable abbrev SC.D (c : SC) : Around := c.A.deeper c.E
noncomputable def Ev (c : SC) (t : TS) (e : Expr) (P : Value → Prop) : Prop := ∀ (Q : Value → Shared → Prop) (E : Value → Shared → Prop) (s : Shared), At c t s → (∀ v s', P v → At c t s' → Q v s') → wpAny c.M c.D (eval e c.E) Q E s
noncomputable def Tt (c : SC) (t : TS) (e : Expr) (b : Bool) : Prop := ∀ (Q : Bool → Shared → Prop) (E : Value → Shared → Prop) (s : Shared), At c t s → (∀ s', At c t s' → Q b s') → wpAny c.M c.D (PySem.isTrue e c.E (eval e c.E)) Q E s
noncomputable def Ex1 (c : SC) (t : TS) (st : Stmt) (f : Flow) (t' : TS) : Prop := ∀ (Q : Flow → Shared → Prop) (E : Value → Shared → Prop) (s : Shared), At c t s → (∀ s', At c t' s' → Q f s') → wpAny c.M c.D (exec st c.E) Q E s
noncomputable def Ex (c : SC) (t : TS) (l : List Stmt) (f : Flow) (t' : TS) : Prop := ∀ (Q : Flow → Shared → Prop) (E : Value → Shared → Prop) (s : Shared), At c t s → (∀ s', At c t' s' → Q f s') → wpAny c.M c.D (execs l c.E) Q E s
theorem rules_HR1_0 : True := by
  w_top off
  k_with_none
  (k_with "k tr" => (first | with_reducible assumption | (refine Nat.lt_trans (by with_reducible assumption) ?_; k_extra "k tr")))
  (k_with "k all" => assumption)
  trivial
theorem Ex.nil {c : SC} {t : TS} : Ex c t [] .next t := fun _ _ _ hs h => wpAny_execs_nil (h _ hs)
theorem Ex.cons {c : SC} {t t1 t2 : TS} {st : Stmt} {l : List Stmt} {f : Flow} (a : Ex1 c t st .next t1) (b : Ex c t1 l f t2) : Ex c t (st :: l) f t2 := fun Q E _ hs h => wpAny_execs_cons (a _ E _ hs (fun _ hs' => b Q E _ hs' h))
theorem Ex.one {c : SC} {t t1 : TS} {st : Stmt} {f : Flow} (a : Ex1 c t st f t1) : Ex c t [st] f t1 := fun Q E _ hs h => execs_one (a Q E _ hs h)
theorem Ex1.ift {c : SC} {t t1 : TS} {e : Expr} {l r : List Stmt} {p : Pos} {f : Flow} (a : Tt c t e true) (b : Ex c t l f t1) : Ex1 c t (.If e l r p) f t1 := fun Q E _ hs h => wpAny_If (a _ E _ hs (fun _ hs' => (if_pos rfl).mpr (b Q E _ hs' h)))
theorem Ex1.iff {c : SC} {t t1 : TS} {e : Expr} {l r : List Stmt} {p : Pos} {f : Flow} (a : Tt c t e false) (b : Ex c t r f t1) : Ex1 c t (.If e l r p) f t1 := fun Q E _ hs h => wpAny_If (a _ E _ hs (fun _ hs' => (if_neg (by decide)).mpr (b Q E _ hs' h)))
theorem Ex1.brk {c : SC} {t : TS} {p : Pos} : Ex1 c t (.Break p) .brk t := fun _ _ _ hs h => wpAny_Break (h _ hs)
theorem Ex1.cont {c : SC} {t : TS} {p : Pos} : Ex1 c t (.Continue p) .cont t := fun _ _ _ hs h => wpAny_Continue (h _ hs)
theorem Tt.not {c : SC} {t : TS} {e : Expr} {p : Pos} {b : Bool} (a : Tt c t e b) : Tt c t (.UnaryOp .Not e p) !b := fun _ E _ hs h => isTrue_not (a _ E _ hs (fun _ hs' => h _ hs'))
theorem Tt.and2f {c : SC} {t : TS} {e : Expr} {l : List Expr} {p : Pos} (a : Tt c t e false) : Tt c t (.BoolOp .And (e :: l) p) false := fun _ E _ hs h => isTrue_and (a _ E _ hs (fun _ hs' => (if_neg (by decide)).mpr (h _ hs')))
end Mine
end
section
open PySem PySem.W PyProof.Rows PySem.Calls PySem.Spec PyProof
set_option Elab.async false
set_option maxRecDepth 100000
set_option maxHeartbeats 8000000
namespace Mine
theorem rules_HR2_0 : True := by
  w_top off
  k_with_none
  (k_with "k tr" => (first | with_reducible assumption | (refine Nat.lt_trans (by with_reducible assumption) ?_; k_extra "k tr")))
  (k_with "k all" => assumption)
  (k_with "exec If" => ((with_reducible show wpAny _ _ (exec (Stmt.If _ _ (_ :: _) _) _) _ _ _); refine wpAny_If ?_))
  (k_with "execs cons" => (k_here; first | (with_unfolding_all (refine gen_toks0 (Nat.succ_pos _) ?_); intro tk') | with_reducible refine execs_one ?_ | ((with_reducible refine wpAny_execs_cons ?_); (try dsimp only); try k_fold)))
  (k_with "call builtin:str.replace" => (k_here; k_dflt (refine' rep_rule (hx := ?hx) (hy := ?hy) (hz := ?hz) ?hu ?hv ?huv ?hyz ?hb ?hb2 ?_); (case hx => first | exact lit_ap | exact rfl); (case hy => first | exact lit_bs | exact lit_nl | exact lit_tb | exact lit_ap); (case hz => first | exact lit_bs2 | exact lit_bn | exact lit_bt | exact lit_n | exact lit_t | exact lit_q5); (case hu => (show @Ne Nat _ _); (try dsimp only); omega); (case hv => (show @Ne Nat _ _); (try dsimp only); omega); (case huv => (show @Ne Nat _ _); (try dsimp only); omega); (case hyz => decide +kernel); (case hb => first | assumption | omega); (case hb2 => decide); intro t' k' hk'; (try dsimp only at hk')))
  (k_with "call builtin:repr" => (k_here; k_dflt (refine repr_of_str ?_ ?hsz); (case hsz => assumption)))
  trivial
theorem g_whitespace {c : SC} (ok : c.Ok) {t : TS} {p1 p2 : Pos} : Ev c t (.Attribute (.Name (Str.ofString "self") p1) (Str.ofString "whitespace") p2) (isS (Str.ofString " \t\x0d\n")) := by
  obtain ⟨w, pg, loose, mean, mg, mb, dp, un, gd, env, outer, base, h₀, L, s, S, x1, dx1, x, d, pb, fs, κ, rest, m₀⟩ := c
  obtain ⟨B, X, T, hdp, hun, hS, o1, o2, o3, o4, o5, off1, off2, foo⟩ := ok
  rintro Q E s9 ⟨h, tk, nv, k2, sv, ln, u1, u2, i6, rfl, hnc, hst, F, N⟩ hQ
  dsimp only [SC.M, SC.D, SC.A, SC.E, SC.led, SC.map] at *
  revert foo X
  k_fill
  intro X foo
  clear foo
  k_steps
  exact hQ _ _ ⟨_, rfl⟩ ⟨_, _, _, _, _, _, _, _, _, rfl, hnc, hst, by k_asm, by k_asm⟩
theorem g_commenters {c : SC} (ok : c.Ok) {t : TS} {p1 p2 : Pos} : Ev c t (.Attribute (.Name (Str.ofString "self") p1) (Str.ofString "commenters") p2) (isS (Str.ofString "#")) := by
  obtain ⟨w, pg, loose, mean, mg, mb, dp, un, gd, env, outer, base, h₀, L, s, S, x1, dx1, x, d, pb, fs, κ, rest, m₀⟩ := c
  obtain ⟨B, X, T, hdp, hun, hS, o1, o2, o3, o4, o5, off1, off2, foo⟩ := ok
  rintro Q E s9 ⟨h, tk, nv, k2, sv, ln, u1, u2, i6, rfl, hnc, hst, F, N⟩ hQ
  dsimp only [SC.M, SC.D, SC.A, SC.E, SC.led, SC.map] at *
  revert foo X
  k_fill
  intro X foo
  clear foo
  k_steps
  exact hQ _ _ ⟨_, rfl⟩ ⟨_, _, _, _, _, _, _, _, _, rfl, hnc, hst, by k_asm, by k_asm⟩
theorem g_escape {c : SC} (ok : c.Ok) {t : TS} {p1 p2 : Pos} : Ev c t (.Attribute (.Name (Str.ofString "self") p1) (Str.ofString "escape") p2) (isS (Str.ofString "\\")) := by
  obtain ⟨w, pg, loose, mean, mg, mb, dp, un, gd, env, outer, base, h₀, L, s, S, x1, dx1, x, d, pb, fs, κ, rest, m₀⟩ := c
  obtain ⟨B, X, T, hdp, hun, hS, o1, o2, o3, o4, o5, off1, off2, foo⟩ := ok
  rintro Q E s9 ⟨h, tk, nv, k2, sv, ln, u1, u2, i6, rfl, hnc, hst, F, N⟩ hQ
  dsimp only [SC.M, SC.D, SC.A, SC.E, SC.led, SC.map] at *
  revert foo X
  k_fill
  intro X foo
  clear foo
  k_steps
  exact hQ _ _ ⟨_, rfl⟩ ⟨_, _, _, _, _, _, _, _, _, rfl, hnc, hst, by k_asm, by k_asm⟩
theorem g_wordchars {c : SC} (ok : c.Ok) {t : TS} {p1 p2 : Pos} : Ev c t (.Attribute (.Name (Str.ofString "self") p1) (Str.ofString "wordchars") p2) (isS (wdc)) := by
  obtain ⟨w, pg, loose, mean, mg, mb, dp, un, gd, env, outer, base, h₀, L, s, S, x1, dx1, x, d, pb, fs, κ, rest, m₀⟩ := c
  obtain ⟨B, X, T, hdp, hun, hS, o1, o2, o3, o4, o5, off1, off2, foo⟩ := ok
  rintro Q E s9 ⟨h, tk, nv, k2, sv, ln, u1, u2, i6, rfl, hnc, hst, F, N⟩ hQ
  dsimp only [SC.M, SC.D, SC.A, SC.E, SC.led, SC.map] at *
  revert foo X
  k_fill
  intro X foo
  clear foo
  k_steps
  exact hQ _ _ ⟨_, rfl⟩ ⟨_, _, _, _, _, _, _, _, _, rfl, hnc, hst, by k_asm, by k_asm⟩
theorem g_quotes {c : SC} (ok : c.Ok) {t : TS} {p1 p2 : Pos} : Ev c t (.Attribute (.Name (Str.ofString "self") p1) (Str.ofString "quotes") p2) (isS (Str.ofString "'\"")) := by
  obtain ⟨w, pg, loose, mean, mg, mb, dp, un, gd, env, outer, base, h₀, L, s, S, x1, dx1, x, d, pb, fs, κ, rest, m₀⟩ := c
  obtain ⟨B, X, T, hdp, hun, hS, o1, o2, o3, o4, o5, off1, off2, foo⟩ := ok
  rintro Q E s9 ⟨h, tk, nv, k2, sv, ln, u1, u2, i6, rfl, hnc, hst, F, N⟩ hQ
  dsimp only [SC.M, SC.D, SC.A, SC.E, SC.led, SC.map] at *
  revert foo X
  k_fill
  intro X foo
  clear foo
  k_steps
  exact hQ _ _ ⟨_, rfl⟩ ⟨_, _, _, _, _, _, _, _, _, rfl, hnc, hst, by k_asm, by k_asm⟩
theorem g_escapedquotes {c : SC} (ok : c.Ok) {t : TS} {p1 p2 : Pos} : Ev c t (.Attribute (.Name (Str.ofString "self") p1) (Str.ofString "escapedquotes") p2) (isS (Str.ofString "\"")) := by
  obtain ⟨w, pg, loose, mean, mg, mb, dp, un, gd, env, outer, base, h₀, L, s, S, x1, dx1, x, d, pb, fs, κ, rest, m₀⟩ := c
  obtain ⟨B, X, T, hdp, hun, hS, o1, o2, o3, o4, o5, off1, off2, foo⟩ := ok
  rintro Q E s9 ⟨h, tk, nv, k2, sv, ln, u1, u2, i6, rfl, hnc, hst, F, N⟩ hQ
  dsimp only [SC.M, SC.D, SC.A, SC.E, SC.led, SC.map] at *
  revert foo X
  k_fill
  intro X foo
  clear foo
  k_steps
  exact hQ _ _ ⟨_, rfl⟩ ⟨_, _, _, _, _, _, _, _, _, rfl, hnc, hst, by k_asm, by k_asm⟩
theorem g_punctuation_chars {c : SC} (ok : c.Ok) {t : TS} {p1 p2 : Pos} : Ev c t (.Attribute (.Name (Str.ofString "self") p1) (Str.ofString "punctuation_chars") p2) (isS (Str.ofString "")) := by
  obtain ⟨w, pg, loose, mean, mg, mb, dp, un, gd, env, outer, base, h₀, L, s, S, x1, dx1, x, d, pb, fs, κ, rest, m₀⟩ := c
  obtain ⟨B, X, T, hdp, hun, hS, o1, o2, o3, o4, o5, off1, off2, foo⟩ := ok
  rintro Q E s9 ⟨h, tk, nv, k2, sv, ln, u1, u2, i6, rfl, hnc, hst, F, N⟩ hQ
  dsimp only [SC.M, SC.D, SC.A, SC.E, SC.led, SC.map] at *
  revert foo X
  k_fill
  intro X foo
  clear foo
  k_steps
  exact hQ _ _ ⟨_, rfl⟩ ⟨_, _, _, _, _, _, _, _, _, rfl, hnc, hst, by k_asm, by k_asm⟩
theorem g_debug {c : SC} (ok : c.Ok) {t : TS} {p1 p2 : Pos} : Ev c t (.Attribute (.Name (Str.ofString "self") p1) (Str.ofString "debug") p2) (fun v => ∃ k, v = .int 0 k) := by
  obtain ⟨w, pg, loose, mean, mg, mb, dp, un, gd, env, outer, base, h₀, L, s, S, x1, dx1, x, d, pb, fs, κ, rest, m₀⟩ := c
  obtain ⟨B, X, T, hdp, hun, hS, o1, o2, o3, o4, o5, off1, off2, foo⟩ := ok
  rintro Q E s9 ⟨h, tk, nv, k2, sv, ln, u1, u2, i6, rfl, hnc, hst, F, N⟩ hQ
  dsimp only [SC.M, SC.D, SC.A, SC.E, SC.led, SC.map] at *
  revert foo X
  k_fill
  intro X foo
  clear foo
  k_steps
  exact hQ _ _ ⟨_, rfl⟩ ⟨_, _, _, _, _, _, _, _, _, rfl, hnc, hst, by k_asm, by k_asm⟩
theorem g_posix {c : SC} (ok : c.Ok) {t : TS} {p1 p2 : Pos} : Ev c t (.Attribute (.Name (Str.ofString "self") p1) (Str.ofString "posix") p2) (fun v => v = .bool true) := by
  obtain ⟨w, pg, loose, mean, mg, mb, dp, un, gd, env, outer, base, h₀, L, s, S, x1, dx1, x, d, pb, fs, κ, rest, m₀⟩ := c
  obtain ⟨B, X, T, hdp, hun, hS, o1, o2, o3, o4, o5, off1, off2, foo⟩ := ok
  rintro Q E s9 ⟨h, tk, nv, k2, sv, ln, u1, u2, i6, rfl, hnc, hst, F, N⟩ hQ
  dsimp only [SC.M, SC.D, SC.A, SC.E, SC.led, SC.map] at *
  revert foo X
  k_fill
  intro X foo
  clear foo
  k_steps
  exact hQ _ _ rfl ⟨_, _, _, _, _, _, _, _, _, rfl, hnc, hst, by k_asm, by k_asm⟩
theorem g_whitespace_split {c : SC} (ok : c.Ok) {t : TS} {p1 p2 : Pos} : Ev c t (.Attribute (.Name (Str.ofString "self") p1) (Str.ofString "whitespace_split") p2) (fun v => v = .bool false) := by
  obtain ⟨w, pg, loose, mean, mg, mb, dp, un, gd, env, outer, base, h₀, L, s, S, x1, dx1, x, d, pb, fs, κ, rest, m₀⟩ := c
  obtain ⟨B, X, T, hdp, hun, hS, o1, o2, o3, o4, o5, off1, off2, foo⟩ := ok
  rintro Q E s9 ⟨h, tk, nv, k2, sv, ln, u1, u2, i6, rfl, hnc, hst, F, N⟩ hQ
  dsimp only [SC.M, SC.D, SC.A, SC.E, SC.led, SC.map] at *
  revert foo X
  k_fill
  intro X foo
  clear foo
  k_steps
  exact hQ _ _ rfl ⟨_, _, _, _, _, _, _, _, _, rfl, hnc, hst, by k_asm, by k_asm⟩
theorem g_token {c : SC} (ok : c.Ok) {t : TS} {p1 p2 : Pos} : Ev c t (.Attribute (.Name (Str.ofString "self") p1) (Str.ofString "token") p2) (isS t.tok) := by
  obtain ⟨w, pg, loose, mean, mg, mb, dp, un, gd, env, outer, base, h₀, L, s, S, x1, dx1, x, d, pb, fs, κ, rest, m₀⟩ := c
  obtain ⟨B, X, T, hdp, hun, hS, o1, o2, o3, o4, o5, off1, off2, foo⟩ := ok
  rintro Q E s9 ⟨h, tk, nv, k2, sv, ln, u1, u2, i6, rfl, hnc, hst, F, N⟩ hQ
  dsimp only [SC.M, SC.D, SC.A, SC.E, SC.led, SC.map] at *
  revert foo X
  k_fill
  intro X foo
  clear foo
  k_steps
  exact hQ _ _ ⟨_, rfl⟩ ⟨_, _, _, _, _, _, _, _, _, rfl, hnc, hst, by k_asm, by k_asm⟩
theorem g_state {c : SC} (ok : c.Ok) {t : TS} {p1 p2 : Pos} {y : Str} (e : t.st = some y) : Ev c t (.Attribute (.Name (Str.ofString "self") p1) (Str.ofString "state") p2) (isS y) := by
  obtain ⟨w, pg, loose, mean, mg, mb, dp, un, gd, env, outer, base, h₀, L, s, S, x1, dx1, x, d, pb, fs, κ, rest, m₀⟩ := c
  obtain ⟨B, X, T, hdp, hun, hS, o1, o2, o3, o4, o5, off1, off2, foo⟩ := ok
  rintro Q E s9 ⟨h, tk, nv, k2, sv, ln, u1, u2, i6, rfl, hnc, hst, F, N⟩ hQ
  dsimp only [SC.M, SC.D, SC.A, SC.E, SC.led, SC.map] at *
  revert foo X
  k_fill
  intro X foo
  clear foo
  rw [e] at hst
  obtain ⟨k9, rfl⟩ := hst
  have hst : stOk t.st (.str y k9) := by rw [e]; exact ⟨k9, rfl⟩
  k_steps
  exact hQ _ _ ⟨_, rfl⟩ ⟨_, _, _, _, _, _, _, _, _, rfl, hnc, hst, by k_asm, by k_asm⟩
end Mine
end
section
open PySem PySem.W PyProof.Rows PySem.Calls PySem.Spec PyProof
set_option Elab.async false
set_option maxRecDepth 100000
set_option maxHeartbeats 8000000
namespace Mine
theorem rules_HR3_0 : True := by
  w_top off
  k_with_none
  (k_with "k tr" => (first | with_reducible assumption | (refine Nat.lt_trans (by with_reducible assumption) ?_; k_extra "k tr")))
  (k_with "k all" => assumption)
  (k_with "exec If" => ((with_reducible show wpAny _ _ (exec (Stmt.If _ _ (_ :: _) _) _) _ _ _); refine wpAny_If ?_))
  (k_with "execs cons" => (k_here; first | (with_unfolding_all (refine gen_toks0 (Nat.succ_pos _) ?_); intro tk') | with_reducible refine execs_one ?_ | ((with_reducible refine wpAny_execs_cons ?_); (try dsimp only); try k_fold)))
  (k_with "call builtin:str.replace" => (k_here; k_dflt (refine' rep_rule (hx := ?hx) (hy := ?hy) (hz := ?hz) ?hu ?hv ?huv ?hyz ?hb ?hb2 ?_); (case hx => first | exact lit_ap | exact rfl); (case hy => first | exact lit_bs | exact lit_nl | exact lit_tb | exact lit_ap); (case hz => first | exact lit_bs2 | exact lit_bn | exact lit_bt | exact lit_n | exact lit_t | exact lit_q5); (case hu => (show @Ne Nat _ _); (try dsimp only); omega); (case hv => (show @Ne Nat _ _); (try dsimp only); omega); (case huv => (show @Ne Nat _ _); (try dsimp only); omega); (case hyz => decide +kernel); (case hb => first | assumption | omega); (case hb2 => decide); intro t' k' hk'; (try dsimp only at hk')))
  (k_with "call builtin:repr" => (k_here; k_dflt (refine repr_of_str ?_ ?hsz); (case hsz => assumption)))
  trivial
theorem At.tok {c : SC} {t : TS} {s : Shared} (h : At c t s) (n : Nat) : At c t ⟨s.heap, s.gens, s.drawn, n, s.os⟩ := by
  obtain ⟨h, tk, nv, k2, sv, ln, u1, u2, i6, rfl, hnc, hst, F, N⟩ := h
  exact ⟨_, _, _, _, _, _, _, _, _, rfl, hnc, hst, F, N⟩
theorem Tt.in_ {c : SC} {t : TS} {l r : Expr} {p : Pos} {x y : Str} {b : Bool} (a : Ev c t l (isS x)) (a2 : Ev c t r (isS y)) (hb : (Builtin.Str.occurrences y x 0 y.length 1).isEmpty = !b) (hm : behindInMarks .In r = false) : ∀ whole Q E s, At c t s → (∀ s', At c t s' → Q b s') → wpAny c.M c.D (PySem.isTrue (.Compare l [.In] [r] p) c.E whole) Q E s := fun _ Q E _ hs h =>
  wpAny_isTrue_Compare1 (a _ E _ hs (fun v s1 hv hs1 => by
    obtain ⟨k, rfl⟩ := hv
    refine a2 _ E _ hs1 (fun v s2 hv hs2 => ?_)
    obtain ⟨k, rfl⟩ := hv
    refine in_str (wpAny_truthy_bool ?_)
    rw [hb, Bool.not_not]
    exact h _ hs2)) hm
theorem Tt.eq_ {c : SC} {t : TS} {l r : Expr} {p : Pos} {x y : Str} {b : Bool} (a : Ev c t l (isS x)) (a2 : Ev c t r (isS y)) (hb : (x == y) = b) (hm : behindInMarks .Eq r = false) : ∀ whole Q E s, At c t s → (∀ s', At c t s' → Q b s') → wpAny c.M c.D (PySem.isTrue (.Compare l [.Eq] [r] p) c.E whole) Q E s := fun _ Q E _ hs h =>
  wpAny_isTrue_Compare1 (a _ E _ hs (fun v s1 hv hs1 => by
    obtain ⟨k, rfl⟩ := hv
    refine a2 _ E _ hs1 (fun v s2 hv hs2 => ?_)
    obtain ⟨k, rfl⟩ := hv
    refine eq_str (wpAny_truthy_bool ?_)
    rw [hb]
    exact h _ hs2)) hm
theorem Tt.ne_ {c : SC} {t : TS} {l r : Expr} {p : Pos} {x y : Str} {b : Bool} (a : Ev c t l (isS x)) (a2 : Ev c t r (isS y)) (hb : (x != y) = b) (hm : behindInMarks .NotEq r = false) : ∀ whole Q E s, At c t s → (∀ s', At c t s' → Q b s') → wpAny c.M c.D (PySem.isTrue (.Compare l [.NotEq] [r] p) c.E whole) Q E s := fun _ Q E _ hs h =>
  wpAny_isTrue_Compare1 (a _ E _ hs (fun v s1 hv hs1 => by
    obtain ⟨k, rfl⟩ := hv
    refine a2 _ E _ hs1 (fun v s2 hv hs2 => ?_)
    obtain ⟨k, rfl⟩ := hv
    refine ne_str (wpAny_truthy_bool ?_)
    rw [hb]
    exact h _ hs2)) hm
theorem Tt.isN {c : SC} {t : TS} {l : Expr} {p p2 : Pos} {k0 : Nat} {x : Str} (a : Ev c t l (isS x)) : ∀ whole Q E s, At c t s → (∀ s', At c t s' → Q false s') → wpAny c.M c.D (PySem.isTrue (.Compare l [.Is] [.Constant .none k0 p2] p) c.E whole) Q E s := fun _ Q E _ hs h =>
  wpAny_isTrue_Compare1 (a _ E _ hs (fun v s1 hv hs1 => by
    obtain ⟨k, rfl⟩ := hv
    refine wpAny_Constant_none ?_
    k_steps
    exact h _ (hs1.tok _)))
theorem Tt.num {c : SC} {t : TS} {l : Expr} {p p2 : Pos} {k0 : Nat} {n : Int} (op : CmpOp) (ho : op = .GtE ∧ 0 < n ∨ op = .Gt ∧ 0 < n) (a : Ev c t l (fun v => ∃ k, v = .int 0 k)) : ∀ whole Q E s, At c t s → (∀ s', At c t s' → Q false s') → wpAny c.M c.D (PySem.isTrue (.Compare l [op] [.Constant (.int n) k0 p2] p) c.E whole) Q E s := fun _ Q E _ hs h => by
  rcases ho with ⟨rfl, hn⟩ | ⟨rfl, hn⟩
  all_goals
    refine wpAny_isTrue_Compare1 (a _ E _ hs (fun v s1 hv hs1 => ?_))
    obtain ⟨k, rfl⟩ := hv
    refine wpAny_Constant_int ?_
    k_steps
    rw [show decide _ = false from decide_eq_false (by omega)]
    exact h _ (hs1.tok _)
theorem Tt.str1 {c : SC} {t : TS} {e : Expr} {x : Str} {b : Bool} (a : Ev c t e (isS x)) (hl : x.length ≤ 1000000) (hb : (((x.length : Nat) : Int) != 0) = b) (hw : PySem.isTrue e c.E (eval e c.E) = (do let v ← eval e c.E; standAt e.pos; holding [v] (truthy v))) : Tt c t e b := fun Q E _ hs h =>
  isTrue_plain (a _ E _ hs (fun v s1 hv hs1 => by
    obtain ⟨k, rfl⟩ := hv
    refine P.truthy_str (by omega) ?_
    rw [hb]
    exact h _ (hs1.tok _))) hw
theorem Tt.bool1 {c : SC} {t : TS} {e : Expr} {b : Bool} (a : Ev c t e (fun v => v = .bool b)) (hw : PySem.isTrue e c.E (eval e c.E) = (do let v ← eval e c.E; standAt e.pos; holding [v] (truthy v))) : Tt c t e b := fun Q E _ hs h =>
  isTrue_plain (a _ E _ hs (fun v s1 hv hs1 => by
    subst hv
    refine wpAny_truthy_bool ?_
    exact h _ hs1)) hw
noncomputable def TA (c : SC) (t : TS) (l : List Expr) (b : Bool) : Prop := ∀ (p : Pos) whole (Q : Bool → Shared → Prop) (E : Value → Shared → Prop) (s : Shared), At c t s → (∀ s', At c t s' → Q b s') → wpAny c.M c.D (PySem.isTrue (.BoolOp .And l p) c.E whole) Q E s
noncomputable def TO (c : SC) (t : TS) (l : List Expr) (b : Bool) : Prop := ∀ (p : Pos) whole (Q : Bool → Shared → Prop) (E : Value → Shared → Prop) (s : Shared), At c t s → (∀ s', At c t s' → Q b s') → wpAny c.M c.D (PySem.isTrue (.BoolOp .Or l p) c.E whole) Q E s
theorem TA.nil {c : SC} {t : TS} : TA c t [] true := fun _ _ _ _ _ hs h => isTrue_and_nil (h _ hs)
theorem TA.f {c : SC} {t : TS} {e : Expr} {l : List Expr} (a : Tt c t e false) : TA c t (e :: l) false := fun _ _ _ E _ hs h => isTrue_and (a _ E _ hs (fun _ hs' => (if_neg (by decide)).mpr (h _ hs')))
theorem TA.t {c : SC} {t : TS} {e : Expr} {l : List Expr} {b : Bool} (a : Tt c t e true) (a2 : TA c t l b) : TA c t (e :: l) b := fun p w _ E _ hs h => isTrue_and (a _ E _ hs (fun _ hs' => (if_pos rfl).mpr (a2 p w _ E _ hs' h)))
theorem TO.nil {c : SC} {t : TS} : TO c t [] false := fun _ _ _ _ _ hs h => isTrue_or_nil (h _ hs)
theorem TO.t {c : SC} {t : TS} {e : Expr} {l : List Expr} (a : Tt c t e true) : TO c t (e :: l) true := fun _ _ _ E _ hs h => isTrue_or (a _ E _ hs (fun _ hs' => (if_pos rfl).mpr (h _ hs')))
theorem TO.f {c : SC} {t : TS} {e : Expr} {l : List Expr} {b : Bool} (a : Tt c t e false) (a2 : TO c t l b) : TO c t (e :: l) b := fun p w _ E _ hs h => isTrue_or (a _ E _ hs (fun _ hs' => (if_neg (by decide)).mpr (a2 p w _ E _ hs' h)))
theorem Tt.and {c : SC} {t : TS} {l : List Expr} {p : Pos} {b : Bool} (a : TA c t l b) : Tt c t (.BoolOp .And l p) b := fun Q E s hs h => a p _ Q E s hs h
theorem Tt.or {c : SC} {t : TS} {l : List Expr} {p : Pos} {b : Bool} (a : TO c t l b) : Tt c t (.BoolOp .Or l p) b := fun Q E s hs h => a p _ Q E s hs h
theorem Ev.lit {c : SC} {t : TS} {y : Str} {k0 : Nat} {p : Pos} : Ev c t (.Constant (.str y) k0 p) (isS y) := fun _ _ _ hs h => wpAny_Constant_str (h _ _ ⟨_, rfl⟩ (hs.tok _))
theorem fr_nc {h₀ h : Heap} {L : Addr} {x : Value} {m₀ : Str → Option Value} {nv : Option Value} {ev qv v : Value} (F : Fr h₀ L h (fun y => if y = Str.ofString "nextchar" then some v else if y = Str.ofString "nextchar" then nv else if y = Str.ofString "escapedstate" then some ev else if y = Str.ofString "quoted" then some qv else if y = Str.ofString "self" then some x else m₀ y)) : Fr h₀ L h (fun y => if y = Str.ofString "nextchar" then some v else if y = Str.ofString "escapedstate" then some ev else if y = Str.ofString "quoted" then some qv else if y = Str.ofString "self" then some x else m₀ y) := by
  refine cast (congrArg (Fr h₀ L h) (funext fun z => ?_)) F
  by_cases h1 : z = Str.ofString "nextchar"
  · rw [if_pos h1, if_pos h1]
  · rw [if_neg h1, if_neg h1, if_neg h1]
theorem fr_es {h₀ h : Heap} {L : Addr} {x : Value} {m₀ : Str → Option Value} {nv : Option Value} {ev qv v : Value} (F : Fr h₀ L h (fun y => if y = Str.ofString "escapedstate" then some v else if y = Str.ofString "nextchar" then nv else if y = Str.ofString "escapedstate" then some ev else if y = Str.ofString "quoted" then some qv else if y = Str.ofString "self" then some x else m₀ y)) : Fr h₀ L h (fun y => if y = Str.ofString "nextchar" then nv else if y = Str.ofString "escapedstate" then some v else if y = Str.ofString "quoted" then some qv else if y = Str.ofString "self" then some x else m₀ y) := by
  refine cast (congrArg (Fr h₀ L h) (funext fun z => ?_)) F
  by_cases h1 : z = Str.ofString "escapedstate"
  · subst h1; rfl
  · rw [if_neg h1, if_neg h1]
    by_cases h2 : z = Str.ofString "nextchar"
    · rw [if_pos h2, if_pos h2]
    · rw [if_neg h2, if_neg h2, if_neg h1]
theorem fr_q {h₀ h : Heap} {L : Addr} {x : Value} {m₀ : Str → Option Value} {nv : Option Value} {ev qv v : Value} (F : Fr h₀ L h (fun y => if y = Str.ofString "quoted" then some v else if y = Str.ofString "nextchar" then nv else if y = Str.ofString "escapedstate" then some ev else if y = Str.ofString "quoted" then some qv else if y = Str.ofString "self" then some x else m₀ y)) : Fr h₀ L h (fun y => if y = Str.ofString "nextchar" then nv else if y = Str.ofString "escapedstate" then some ev else if y = Str.ofString "quoted" then some v else if y = Str.ofString "self" then some x else m₀ y) := by
  refine cast (congrArg (Fr h₀ L h) (funext fun z => ?_)) F
  by_cases h1 : z = Str.ofString "quoted"
  · subst h1; rfl
  · rw [if_neg h1, if_neg h1]
    by_cases h2 : z = Str.ofString "nextchar"
    · rw [if_pos h2, if_pos h2]
    · rw [if_neg h2, if_neg h2]
      by_cases h3 : z = Str.ofString "escapedstate"
      · rw [if_pos h3, if_pos h3]
      · rw [if_neg h3, if_neg h3, if_neg h1]
theorem g_nc {c : SC} (ok : c.Ok) {t : TS} {p1 : Pos} {y : Str} (e : t.nc = some y) : Ev c t (.Name (Str.ofString "nextchar") p1) (isS y) := by
  obtain ⟨w, pg, loose, mean, mg, mb, dp, un, gd, env, outer, base, h₀, L, s, S, x1, dx1, x, d, pb, fs, κ, rest, m₀⟩ := c
  obtain ⟨B, X, T, hdp, hun, hS, o1, o2, o3, o4, o5, off1, off2, foo⟩ := ok
  rintro Q E s9 ⟨h, tk, nv, k2, sv, ln, u1, u2, i6, rfl, hnc, hst, F, N⟩ hQ
  dsimp only [SC.M, SC.D, SC.A, SC.E, SC.led, SC.map] at *
  revert foo X
  k_fill
  intro X foo
  clear foo
  replace F : Fr h₀ L h (fun z => if z = Str.ofString "nextchar" then nv else if z = Str.ofString "escapedstate" then some (.str t.es k2) else if z = Str.ofString "quoted" then some (.bool t.q) else if z = Str.ofString "self" then some (.ref x) else m₀ z) := F
  have hnc9 := hnc
  rw [e] at hnc9
  obtain ⟨k9, rfl⟩ := hnc9
  k_steps
  exact hQ _ _ ⟨_, rfl⟩ ⟨_, _, _, _, _, _, _, _, _, rfl, hnc, hst, by k_asm, by k_asm⟩
theorem g_es {c : SC} (ok : c.Ok) {t : TS} {p1 : Pos} : Ev c t (.Name (Str.ofString "escapedstate") p1) (isS t.es) := by
  obtain ⟨w, pg, loose, mean, mg, mb, dp, un, gd, env, outer, base, h₀, L, s, S, x1, dx1, x, d, pb, fs, κ, rest, m₀⟩ := c
  obtain ⟨B, X, T, hdp, hun, hS, o1, o2, o3, o4, o5, off1, off2, foo⟩ := ok
  rintro Q E s9 ⟨h, tk, nv, k2, sv, ln, u1, u2, i6, rfl, hnc, hst, F, N⟩ hQ
  dsimp only [SC.M, SC.D, SC.A, SC.E, SC.led, SC.map] at *
  revert foo X
  k_fill
  intro X foo
  clear foo
  replace F : Fr h₀ L h (fun z => if z = Str.ofString "nextchar" then nv else if z = Str.ofString "escapedstate" then some (.str t.es k2) else if z = Str.ofString "quoted" then some (.bool t.q) else if z = Str.ofString "self" then some (.ref x) else m₀ z) := F
  k_steps
  exact hQ _ _ ⟨_, rfl⟩ ⟨_, _, _, _, _, _, _, _, _, rfl, hnc, hst, by k_asm, by k_asm⟩
theorem g_q {c : SC} (ok : c.Ok) {t : TS} {p1 : Pos} : Ev c t (.Name (Str.ofString "quoted") p1) (fun v => v = .bool t.q) := by
  obtain ⟨w, pg, loose, mean, mg, mb, dp, un, gd, env, outer, base, h₀, L, s, S, x1, dx1, x, d, pb, fs, κ, rest, m₀⟩ := c
  obtain ⟨B, X, T, hdp, hun, hS, o1, o2, o3, o4, o5, off1, off2, foo⟩ := ok
  rintro Q E s9 ⟨h, tk, nv, k2, sv, ln, u1, u2, i6, rfl, hnc, hst, F, N⟩ hQ
  dsimp only [SC.M, SC.D, SC.A, SC.E, SC.led, SC.map] at *
  revert foo X
  k_fill
  intro X foo
  clear foo
  replace F : Fr h₀ L h (fun z => if z = Str.ofString "nextchar" then nv else if z = Str.ofString "escapedstate" then some (.str t.es k2) else if z = Str.ofString "quoted" then some (.bool t.q) else if z = Str.ofString "self" then some (.ref x) else m₀ z) := F
  k_steps
  exact hQ _ _ rfl ⟨_, _, _, _, _, _, _, _, _, rfl, hnc, hst, by k_asm, by k_asm⟩
theorem s_state_nc {c : SC} (ok : c.Ok) {t : TS} {p1 p2 p3 p4 : Pos} {y : Str} (e : t.nc = some y) : Ex1 c t (.Assign [(.Attribute (.Name (Str.ofString "self") p1) (Str.ofString "state") p2)] (.Name (Str.ofString "nextchar") p3) p4) .next ⟨t.n, some y, t.tok, t.nc, t.es, t.q⟩ := by
  obtain ⟨w, pg, loose, mean, mg, mb, dp, un, gd, env, outer, base, h₀, L, s, S, x1, dx1, x, d, pb, fs, κ, rest, m₀⟩ := c
  obtain ⟨B, X, T, hdp, hun, hS, o1, o2, o3, o4, o5, off1, off2, foo⟩ := ok
  rintro Q E s9 ⟨h, tk, nv, k2, sv, ln, u1, u2, i6, rfl, hnc, hst, F, N⟩ hQ
  dsimp only [SC.M, SC.D, SC.A, SC.E, SC.led, SC.map] at *
  revert foo X
  k_fill
  intro X foo
  clear foo
  replace F : Fr h₀ L h (fun z => if z = Str.ofString "nextchar" then nv else if z = Str.ofString "escapedstate" then some (.str t.es k2) else if z = Str.ofString "quoted" then some (.bool t.q) else if z = Str.ofString "self" then some (.ref x) else m₀ z) := F
  have hnc9 := hnc
  rw [e] at hnc9
  obtain ⟨k9, rfl⟩ := hnc9
  k_steps
  exact hQ _ ⟨_, _, _, _, _, _, _, _, _, rfl, hnc, ⟨_, rfl⟩, by k_asm, by k_asm⟩
theorem s_state_es {c : SC} (ok : c.Ok) {t : TS} {p1 p2 p3 p4 : Pos} : Ex1 c t (.Assign [(.Attribute (.Name (Str.ofString "self") p1) (Str.ofString "state") p2)] (.Name (Str.ofString "escapedstate") p3) p4) .next ⟨t.n, some t.es, t.tok, t.nc, t.es, t.q⟩ := by
  obtain ⟨w, pg, loose, mean, mg, mb, dp, un, gd, env, outer, base, h₀, L, s, S, x1, dx1, x, d, pb, fs, κ, rest, m₀⟩ := c
  obtain ⟨B, X, T, hdp, hun, hS, o1, o2, o3, o4, o5, off1, off2, foo⟩ := ok
  rintro Q E s9 ⟨h, tk, nv, k2, sv, ln, u1, u2, i6, rfl, hnc, hst, F, N⟩ hQ
  dsimp only [SC.M, SC.D, SC.A, SC.E, SC.led, SC.map] at *
  revert foo X
  k_fill
  intro X foo
  clear foo
  replace F : Fr h₀ L h (fun z => if z = Str.ofString "nextchar" then nv else if z = Str.ofString "escapedstate" then some (.str t.es k2) else if z = Str.ofString "quoted" then some (.bool t.q) else if z = Str.ofString "self" then some (.ref x) else m₀ z) := F
  k_steps
  exact hQ _ ⟨_, _, _, _, _, _, _, _, _, rfl, hnc, ⟨_, rfl⟩, by k_asm, by k_asm⟩
theorem s_state_lit {c : SC} (ok : c.Ok) {t : TS} {p1 p2 p3 p4 : Pos} {kk : Nat} {y : Str} : Ex1 c t (.Assign [(.Attribute (.Name (Str.ofString "self") p1) (Str.ofString "state") p2)] (.Constant (.str y) kk p3) p4) .next ⟨t.n, some y, t.tok, t.nc, t.es, t.q⟩ := by
  obtain ⟨w, pg, loose, mean, mg, mb, dp, un, gd, env, outer, base, h₀, L, s, S, x1, dx1, x, d, pb, fs, κ, rest, m₀⟩ := c
  obtain ⟨B, X, T, hdp, hun, hS, o1, o2, o3, o4, o5, off1, off2, foo⟩ := ok
  rintro Q E s9 ⟨h, tk, nv, k2, sv, ln, u1, u2, i6, rfl, hnc, hst, F, N⟩ hQ
  dsimp only [SC.M, SC.D, SC.A, SC.E, SC.led, SC.map] at *
  revert foo X
  k_fill
  intro X foo
  clear foo
  replace F : Fr h₀ L h (fun z => if z = Str.ofString "nextchar" then nv else if z = Str.ofString "escapedstate" then some (.str t.es k2) else if z = Str.ofString "quoted" then some (.bool t.q) else if z = Str.ofString "self" then some (.ref x) else m₀ z) := F
  k_steps
  exact hQ _ ⟨_, _, _, _, _, _, _, _, _, rfl, hnc, ⟨_, rfl⟩, by k_asm, by k_asm⟩
theorem s_state_none {c : SC} (ok : c.Ok) {t : TS} {p1 p2 p3 p4 : Pos} {kk : Nat} : Ex1 c t (.Assign [(.Attribute (.Name (Str.ofString "self") p1) (Str.ofString "state") p2)] (.Constant .none kk p3) p4) .next ⟨t.n, none, t.tok, t.nc, t.es, t.q⟩ := by
  obtain ⟨w, pg, loose, mean, mg, mb, dp, un, gd, env, outer, base, h₀, L, s, S, x1, dx1, x, d, pb, fs, κ, rest, m₀⟩ := c
  obtain ⟨B, X, T, hdp, hun, hS, o1, o2, o3, o4, o5, off1, off2, foo⟩ := ok
  rintro Q E s9 ⟨h, tk, nv, k2, sv, ln, u1, u2, i6, rfl, hnc, hst, F, N⟩ hQ
  dsimp only [SC.M, SC.D, SC.A, SC.E, SC.led, SC.map] at *
  revert foo X
  k_fill
  intro X foo
  clear foo
  replace F : Fr h₀ L h (fun z => if z = Str.ofString "nextchar" then nv else if z = Str.ofString "escapedstate" then some (.str t.es k2) else if z = Str.ofString "quoted" then some (.bool t.q) else if z = Str.ofString "self" then some (.ref x) else m₀ z) := F
  k_steps
  exact hQ _ ⟨_, _, _, _, _, _, _, _, _, rfl, hnc, rfl, by k_asm, by k_asm⟩
theorem s_token_nc {c : SC} (ok : c.Ok) {t : TS} {p1 p2 p3 p4 : Pos} {y : Str} (e : t.nc = some y) : Ex1 c t (.Assign [(.Attribute (.Name (Str.ofString "self") p1) (Str.ofString "token") p2)] (.Name (Str.ofString "nextchar") p3) p4) .next ⟨t.n, t.st, y, t.nc, t.es, t.q⟩ := by
  obtain ⟨w, pg, loose, mean, mg, mb, dp, un, gd, env, outer, base, h₀, L, s, S, x1, dx1, x, d, pb, fs, κ, rest, m₀⟩ := c
  obtain ⟨B, X, T, hdp, hun, hS, o1, o2, o3, o4, o5, off1, off2, foo⟩ := ok
  rintro Q E s9 ⟨h, tk, nv, k2, sv, ln, u1, u2, i6, rfl, hnc, hst, F, N⟩ hQ
  dsimp only [SC.M, SC.D, SC.A, SC.E, SC.led, SC.map] at *
  revert foo X
  k_fill
  intro X foo
  clear foo
  replace F : Fr h₀ L h (fun z => if z = Str.ofString "nextchar" then nv else if z = Str.ofString "escapedstate" then some (.str t.es k2) else if z = Str.ofString "quoted" then some (.bool t.q) else if z = Str.ofString "self" then some (.ref x) else m₀ z) := F
  have hnc9 := hnc
  rw [e] at hnc9
  obtain ⟨k9, rfl⟩ := hnc9
  k_steps
  exact hQ _ ⟨_, _, _, _, _, _, _, _, _, rfl, hnc, hst, by k_asm, by k_asm⟩
theorem s_token_lit {c : SC} (ok : c.Ok) {t : TS} {p1 p2 p3 p4 : Pos} {kk : Nat} {y : Str} : Ex1 c t (.Assign [(.Attribute (.Name (Str.ofString "self") p1) (Str.ofString "token") p2)] (.Constant (.str y) kk p3) p4) .next ⟨t.n, t.st, y, t.nc, t.es, t.q⟩ := by
  obtain ⟨w, pg, loose, mean, mg, mb, dp, un, gd, env, outer, base, h₀, L, s, S, x1, dx1, x, d, pb, fs, κ, rest, m₀⟩ := c
  obtain ⟨B, X, T, hdp, hun, hS, o1, o2, o3, o4, o5, off1, off2, foo⟩ := ok
  rintro Q E s9 ⟨h, tk, nv, k2, sv, ln, u1, u2, i6, rfl, hnc, hst, F, N⟩ hQ
  dsimp only [SC.M, SC.D, SC.A, SC.E, SC.led, SC.map] at *
  revert foo X
  k_fill
  intro X foo
  clear foo
  replace F : Fr h₀ L h (fun z => if z = Str.ofString "nextchar" then nv else if z = Str.ofString "escapedstate" then some (.str t.es k2) else if z = Str.ofString "quoted" then some (.bool t.q) else if z = Str.ofString "self" then some (.ref x) else m₀ z) := F
  k_steps
  exact hQ _ ⟨_, _, _, _, _, _, _, _, _, rfl, hnc, hst, by k_asm, by k_asm⟩
theorem a_token_nc {c : SC} (ok : c.Ok) {t : TS} {p1 p2 p3 p4 : Pos} {y : Str} (e : t.nc = some y) (hl : t.tok.length + y.length ≤ sizeLine) : Ex1 c t (.AugAssign (.Attribute (.Name (Str.ofString "self") p1) (Str.ofString "token") p2) .Add (.Name (Str.ofString "nextchar") p3) p4) .next ⟨t.n, t.st, t.tok ++ y, t.nc, t.es, t.q⟩ := by
  obtain ⟨w, pg, loose, mean, mg, mb, dp, un, gd, env, outer, base, h₀, L, s, S, x1, dx1, x, d, pb, fs, κ, rest, m₀⟩ := c
  obtain ⟨B, X, T, hdp, hun, hS, o1, o2, o3, o4, o5, off1, off2, foo⟩ := ok
  rintro Q E s9 ⟨h, tk, nv, k2, sv, ln, u1, u2, i6, rfl, hnc, hst, F, N⟩ hQ
  dsimp only [SC.M, SC.D, SC.A, SC.E, SC.led, SC.map] at *
  revert foo X
  k_fill
  intro X foo
  clear foo
  replace F : Fr h₀ L h (fun z => if z = Str.ofString "nextchar" then nv else if z = Str.ofString "escapedstate" then some (.str t.es k2) else if z = Str.ofString "quoted" then some (.bool t.q) else if z = Str.ofString "self" then some (.ref x) else m₀ z) := F
  have hnc9 := hnc
  rw [e] at hnc9
  obtain ⟨k9, rfl⟩ := hnc9
  k_steps
  exact hQ _ ⟨_, _, _, _, _, _, _, _, _, rfl, hnc, hst, by k_asm, by k_asm⟩
theorem a_token_st {c : SC} (ok : c.Ok) {t : TS} {p1 p2 p3 p4 p5 : Pos} {y : Str} (e : t.st = some y) (hl : t.tok.length + y.length ≤ sizeLine) : Ex1 c t (.AugAssign (.Attribute (.Name (Str.ofString "self") p1) (Str.ofString "token") p2) .Add (.Attribute (.Name (Str.ofString "self") p3) (Str.ofString "state") p4) p5) .next ⟨t.n, t.st, t.tok ++ y, t.nc, t.es, t.q⟩ := by
  obtain ⟨w, pg, loose, mean, mg, mb, dp, un, gd, env, outer, base, h₀, L, s, S, x1, dx1, x, d, pb, fs, κ, rest, m₀⟩ := c
  obtain ⟨B, X, T, hdp, hun, hS, o1, o2, o3, o4, o5, off1, off2, foo⟩ := ok
  rintro Q E s9 ⟨h, tk, nv, k2, sv, ln, u1, u2, i6, rfl, hnc, hst, F, N⟩ hQ
  dsimp only [SC.M, SC.D, SC.A, SC.E, SC.led, SC.map] at *
  revert foo X
  k_fill
  intro X foo
  clear foo
  replace F : Fr h₀ L h (fun z => if z = Str.ofString "nextchar" then nv else if z = Str.ofString "escapedstate" then some (.str t.es k2) else if z = Str.ofString "quoted" then some (.bool t.q) else if z = Str.ofString "self" then some (.ref x) else m₀ z) := F
  have hst9 := hst
  rw [e] at hst9
  obtain ⟨k9, rfl⟩ := hst9
  k_steps
  exact hQ _ ⟨_, _, _, _, _, _, _, _, _, rfl, hnc, hst, by k_asm, by k_asm⟩
theorem s_es_lit {c : SC} (ok : c.Ok) {t : TS} {p1 p3 p4 : Pos} {kk : Nat} {y : Str} : Ex1 c t (.Assign [.Name (Str.ofString "escapedstate") p1] (.Constant (.str y) kk p3) p4) .next ⟨t.n, t.st, t.tok, t.nc, y, t.q⟩ := by
  obtain ⟨w, pg, loose, mean, mg, mb, dp, un, gd, env, outer, base, h₀, L, s, S, x1, dx1, x, d, pb, fs, κ, rest, m₀⟩ := c
  obtain ⟨B, X, T, hdp, hun, hS, o1, o2, o3, o4, o5, off1, off2, foo⟩ := ok
  rintro Q E s9 ⟨h, tk, nv, k2, sv, ln, u1, u2, i6, rfl, hnc, hst, F, N⟩ hQ
  dsimp only [SC.M, SC.D, SC.A, SC.E, SC.led, SC.map] at *
  revert foo X
  k_fill
  intro X foo
  clear foo
  replace F : Fr h₀ L h (fun z => if z = Str.ofString "nextchar" then nv else if z = Str.ofString "escapedstate" then some (.str t.es k2) else if z = Str.ofString "quoted" then some (.bool t.q) else if z = Str.ofString "self" then some (.ref x) else m₀ z) := F
  k_steps
  exact hQ _ ⟨_, _, _, _, _, _, _, _, _, rfl, hnc, hst, fr_es (by k_asm), by k_asm⟩
theorem s_es_st {c : SC} (ok : c.Ok) {t : TS} {p1 p3 p4 p5 : Pos} {y : Str} (e : t.st = some y) : Ex1 c t (.Assign [.Name (Str.ofString "escapedstate") p1] (.Attribute (.Name (Str.ofString "self") p3) (Str.ofString "state") p4) p5) .next ⟨t.n, t.st, t.tok, t.nc, y, t.q⟩ := by
  obtain ⟨w, pg, loose, mean, mg, mb, dp, un, gd, env, outer, base, h₀, L, s, S, x1, dx1, x, d, pb, fs, κ, rest, m₀⟩ := c
  obtain ⟨B, X, T, hdp, hun, hS, o1, o2, o3, o4, o5, off1, off2, foo⟩ := ok
  rintro Q E s9 ⟨h, tk, nv, k2, sv, ln, u1, u2, i6, rfl, hnc, hst, F, N⟩ hQ
  dsimp only [SC.M, SC.D, SC.A, SC.E, SC.led, SC.map] at *
  revert foo X
  k_fill
  intro X foo
  clear foo
  replace F : Fr h₀ L h (fun z => if z = Str.ofString "nextchar" then nv else if z = Str.ofString "escapedstate" then some (.str t.es k2) else if z = Str.ofString "quoted" then some (.bool t.q) else if z = Str.ofString "self" then some (.ref x) else m₀ z) := F
  have hst9 := hst
  rw [e] at hst9
  obtain ⟨k9, rfl⟩ := hst9
  k_steps
  exact hQ _ ⟨_, _, _, _, _, _, _, _, _, rfl, hnc, hst, fr_es (by k_asm), by k_asm⟩
theorem s_q {c : SC} (ok : c.Ok) {t : TS} {p1 p3 p4 : Pos} {kk : Nat} : Ex1 c t (.Assign [.Name (Str.ofString "quoted") p1] (.Constant (.bool true) kk p3) p4) .next ⟨t.n, t.st, t.tok, t.nc, t.es, true⟩ := by
  obtain ⟨w, pg, loose, mean, mg, mb, dp, un, gd, env, outer, base, h₀, L, s, S, x1, dx1, x, d, pb, fs, κ, rest, m₀⟩ := c
  obtain ⟨B, X, T, hdp, hun, hS, o1, o2, o3, o4, o5, off1, off2, foo⟩ := ok
  rintro Q E s9 ⟨h, tk, nv, k2, sv, ln, u1, u2, i6, rfl, hnc, hst, F, N⟩ hQ
  dsimp only [SC.M, SC.D, SC.A, SC.E, SC.led, SC.map] at *
  revert foo X
  k_fill
  intro X foo
  clear foo
  replace F : Fr h₀ L h (fun z => if z = Str.ofString "nextchar" then nv else if z = Str.ofString "escapedstate" then some (.str t.es k2) else if z = Str.ofString "quoted" then some (.bool t.q) else if z = Str.ofString "self" then some (.ref x) else m₀ z) := F
  k_steps
  exact hQ _ ⟨_, _, _, _, _, _, _, _, _, rfl, hnc, hst, fr_q (by k_asm), by k_asm⟩
theorem a_ln {c : SC} (ok : c.Ok) {t : TS} {p1 p2 p3 p4 : Pos} {kk : Nat} : Ex1 c t (.AugAssign (.Attribute (.Name (Str.ofString "self") p1) (Str.ofString "lineno") p2) .Add (.Constant (.int 1) kk p3) p4) .next t := by
  obtain ⟨w, pg, loose, mean, mg, mb, dp, un, gd, env, outer, base, h₀, L, s, S, x1, dx1, x, d, pb, fs, κ, rest, m₀⟩ := c
  obtain ⟨B, X, T, hdp, hun, hS, o1, o2, o3, o4, o5, off1, off2, foo⟩ := ok
  rintro Q E s9 ⟨h, tk, nv, k2, sv, ln, u1, u2, i6, rfl, hnc, hst, F, N⟩ hQ
  dsimp only [SC.M, SC.D, SC.A, SC.E, SC.led, SC.map] at *
  revert foo X
  k_fill
  intro X foo
  clear foo
  replace F : Fr h₀ L h (fun z => if z = Str.ofString "nextchar" then nv else if z = Str.ofString "escapedstate" then some (.str t.es k2) else if z = Str.ofString "quoted" then some (.bool t.q) else if z = Str.ofString "self" then some (.ref x) else m₀ z) := F
  k_steps
  exact hQ _ ⟨_, _, _, _, _, _, _, _, _, rfl, hnc, hst, by k_asm, by k_asm⟩
end Mine
end
section
open PySem PySem.W PyProof.Rows PySem.Calls PySem.Spec PyProof
set_option Elab.async false
set_option maxRecDepth 100000
set_option maxHeartbeats 8000000
namespace Mine
noncomputable def wBody : FuncBody → List Stmt
  | .stmts (_ :: _ :: Stmt.While _ b _ _ :: _) => b
  | _ => []
noncomputable def rtB : List Stmt := wBody (fB [26, 6])
noncomputable def rtBig : List Stmt := match rtB with
  | _ :: _ :: _ :: l => l
  | _ => []
noncomputable def ifElse : List Stmt → List Stmt
  | .If _ _ r _ :: _ => r
  | _ => []
noncomputable def ifThen : List Stmt → List Stmt
  | .If _ b _ _ :: _ => b
  | _ => []
noncomputable def hd9 : List Stmt → Stmt
  | s :: _ => s
  | _ => .Pass default
noncomputable def tl9 : List Stmt → List Stmt
  | _ :: l => l
  | _ => []
noncomputable def rdS : Stmt := hd9 (ifElse rtB)
noncomputable def rlL : List Stmt := ifThen (ifElse (ifElse (ifThen (ifElse (ifElse (ifElse (ifElse rtBig)))))))
noncomputable def rlS : Stmt := hd9 rlL
noncomputable abbrev emp (l x : Str) : Bool := (Builtin.Str.occurrences l x 0 l.length 1).isEmpty
noncomputable abbrev lnz (x : Str) : Bool := (((x.length : Nat) : Int) != 0)
local macro_rules | `(tactic| walk_at "call ref") => `(tactic| (k_here; (with_reducible show wpAny _ _ (call (Value.ref 593) _) _ _ _); k_dflt (refine' c_rdc1 (B := ?B) (F := ?F) (X := ?X) (T := ?T) (hf := ?hf) (hk := ?hk) (hdp := ?hdp) (hun := ?hun) (foo := ?foo) (N := ?N) (hp := ?hp) (hS := ?hS) (hx := ?hx) (hoff := ?hoff) (hc := ?hc) (hch := ?_); (case B => k_asm); (case F => k_asm); (case X => k_asm); (case T => k_asm); (case hf => exact rfl); (case hk => exact rfl); (case hdp => k_room); (case hun => k_units); (case foo => exact rfl); (case N => k_asm); (case hp => assumption); (case hS => omega); (case hx => omega); (case hoff => k_all); (case hc => assumption); k_whole); (intros; (try dsimp only); (try k_sweep); (try k_fold))))
local macro_rules | `(tactic| walk_at "call ref") => `(tactic| (k_here; (with_reducible show wpAny _ _ (call (Value.ref 593) _) _ _ _); k_dflt (refine' c_rde (B := ?B) (F := ?F) (X := ?X) (T := ?T) (hf := ?hf) (hk := ?hk) (hdp := ?hdp) (hun := ?hun) (foo := ?foo) (N := ?N) (hp := ?hp) (hS := ?hS) (hx := ?hx) (hoff := ?hoff) (hn := ?hn) (hend := ?_); (case B => k_asm); (case F => k_asm); (case X => k_asm); (case T => k_asm); (case hf => exact rfl); (case hk => exact rfl); (case hdp => k_room); (case hun => k_units); (case foo => exact rfl); (case N => k_asm); (case hp => assumption); (case hS => omega); (case hx => omega); (case hoff => k_all); (case hn => assumption); k_whole); (intros; (try dsimp only); (try k_sweep); (try k_fold))))
local macro_rules | `(tactic| walk_at "call ref") => `(tactic| (k_here; (with_reducible show wpAny _ _ (call (Value.ref 601) _) _ _ _); k_dflt (refine' c_rdl (B := ?B) (F := ?F) (X := ?X) (T := ?T) (hf := ?hf) (hk := ?hk) (hdp := ?hdp) (hun := ?hun) (foo := ?foo) (N := ?N) (hp := ?hp) (hS := ?hS) (hx := ?hx) (hoff := ?hoff) (hn := ?hn) (hret := ?_); (case B => k_asm); (case F => k_asm); (case X => k_asm); (case T => k_asm); (case hf => exact rfl); (case hk => exact rfl); (case hdp => k_room); (case hun => k_units); (case foo => exact rfl); (case N => (refine' Picks.news (ps := [_, _]) ?_ (by k_asm); repeat' (first | exact Picks.nil | refine' Picks.cons ?_ ?_ | exact Pick.head | refine' Pick.tail ?_))); (case hp => assumption); (case hS => omega); (case hx => omega); (case hoff => k_all); (case hn => omega); k_whole); (intros; (try dsimp only); (try k_sweep); (try k_fold))))
local macro_rules | `(tactic| walk_at "truthy str") => `(tactic| (k_here; k_dflt (refine' tr_yes ?hx ?hf ?_; (case hx => with_reducible assumption); (case hf => first | exact Nat.le_of_ble_eq_true rfl | exact Nat.le_trans (by assumption) (Nat.le_of_ble_eq_true rfl) | omega))))
local macro_rules | `(tactic| walk_at "truthy str") => `(tactic| (k_here; with_reducible refine tr_no0 ?_))
theorem rules_HR4_0 : True := by
  w_top off
  k_with_none
  (k_with "k tr" => (first | with_reducible assumption | (refine Nat.lt_trans (by with_reducible assumption) ?_; k_extra "k tr")))
  (k_with "k all" => assumption)
  (k_with "exec If" => ((with_reducible show wpAny _ _ (exec (Stmt.If _ _ (_ :: _) _) _) _ _ _); refine wpAny_If ?_))
  (k_with "execs cons" => (k_here; first | (with_unfolding_all (refine gen_toks0 (Nat.succ_pos _) ?_); intro tk') | with_reducible refine execs_one ?_ | ((with_reducible refine wpAny_execs_cons ?_); (try dsimp only); try k_fold)))
  (k_with "call builtin:str.replace" => (k_here; k_dflt (refine' rep_rule (hx := ?hx) (hy := ?hy) (hz := ?hz) ?hu ?hv ?huv ?hyz ?hb ?hb2 ?_); (case hx => first | exact lit_ap | exact rfl); (case hy => first | exact lit_bs | exact lit_nl | exact lit_tb | exact lit_ap); (case hz => first | exact lit_bs2 | exact lit_bn | exact lit_bt | exact lit_n | exact lit_t | exact lit_q5); (case hu => (show @Ne Nat _ _); (try dsimp only); omega); (case hv => (show @Ne Nat _ _); (try dsimp only); omega); (case huv => (show @Ne Nat _ _); (try dsimp only); omega); (case hyz => decide +kernel); (case hb => first | assumption | omega); (case hb2 => decide); intro t' k' hk'; (try dsimp only at hk')))
  (k_with "call builtin:repr" => (k_here; k_dflt (refine repr_of_str ?_ ?hsz); (case hsz => assumption)))
  (k_with "ShEnd brk" => (k_dflt (refine sh_brk ?_)))
  (k_with "ite" => (k_closed; k_dflt (first | refine ite_pos (by decide +kernel) ?_ | refine ite_neg (by decide +kernel) ?_)))
  (k_with "leaving ref" => (k_here; first | (refine' leave_newS ?k1 ?k0 ?k2 ?k3 ?_; (case k0 => assumption); (case k2 => assumption); (case k1 => assumption); (case k3 => k_asm); k_whole; intro h' S' R' U'; (try dsimp only at S' R' U' ⊢)) | (refine' leave_onSN ?k1 ?k2 ?k3 ?k4 ?_; (case k3 => assumption); (case k2 => assumption); (case k1 => assumption); (case k4 => assumption); k_whole; intro h' S' R' U'; (try dsimp only at S' R' U' ⊢))))
  trivial
theorem Tt.inF {c : SC} {t : TS} {l r : Expr} {p : Pos} {x y : Str} (a : Ev c t l (isS x)) (a2 : Ev c t r (isS y)) (hb : emp y x = true) (hm : behindInMarks .In r = false) : Tt c t (.Compare l [.In] [r] p) false := fun Q E s => Tt.in_ a a2 (b := false) hb hm _ Q E s
theorem Tt.inT {c : SC} {t : TS} {l r : Expr} {p : Pos} {x y : Str} (a : Ev c t l (isS x)) (a2 : Ev c t r (isS y)) (hb : emp y x = false) (hm : behindInMarks .In r = false) : Tt c t (.Compare l [.In] [r] p) true := fun Q E s => Tt.in_ a a2 (b := true) hb hm _ Q E s
theorem Tt.eqB {c : SC} {t : TS} {l r : Expr} {p : Pos} {x y : Str} {b : Bool} (a : Ev c t l (isS x)) (a2 : Ev c t r (isS y)) (hb : (x == y) = b) (hm : behindInMarks .Eq r = false) : Tt c t (.Compare l [.Eq] [r] p) b := fun Q E s => Tt.eq_ a a2 hb hm _ Q E s
theorem Tt.neB {c : SC} {t : TS} {l r : Expr} {p : Pos} {x y : Str} {b : Bool} (a : Ev c t l (isS x)) (a2 : Ev c t r (isS y)) (hb : (x != y) = b) (hm : behindInMarks .NotEq r = false) : Tt c t (.Compare l [.NotEq] [r] p) b := fun Q E s => Tt.ne_ a a2 hb hm _ Q E s
theorem Tt.isF {c : SC} {t : TS} {l : Expr} {p p2 : Pos} {k0 : Nat} {x : Str} (a : Ev c t l (isS x)) : Tt c t (.Compare l [.Is] [.Constant .none k0 p2] p) false := fun Q E s => Tt.isN a _ Q E s
theorem Tt.geF {c : SC} {t : TS} {l : Expr} {p p2 : Pos} {k0 : Nat} {n : Int} (a : Ev c t l (fun v => ∃ k, v = .int 0 k)) (hn : 0 < n) : Tt c t (.Compare l [.GtE] [.Constant (.int n) k0 p2] p) false := fun Q E s => Tt.num .GtE (.inl ⟨rfl, hn⟩) a _ Q E s
theorem Tt.notT {c : SC} {t : TS} {e : Expr} {p : Pos} (a : Tt c t e false) : Tt c t (.UnaryOp .Not e p) true := Tt.not a
theorem Tt.notF {c : SC} {t : TS} {e : Expr} {p : Pos} (a : Tt c t e true) : Tt c t (.UnaryOp .Not e p) false := Tt.not a
theorem Tt.nm {c : SC} {t : TS} {y : Str} {p : Pos} {x : Str} {b : Bool} (a : Ev c t (.Name y p) (isS x)) (hb : lnz x = b) (hl : x.length ≤ 1000000) : Tt c t (.Name y p) b := Tt.str1 a hl hb rfl
theorem Tt.nmb {c : SC} {t : TS} {y : Str} {p : Pos} {b : Bool} (a : Ev c t (.Name y p) (fun v => v = .bool b)) : Tt c t (.Name y p) b := Tt.bool1 a rfl
theorem Tt.at_ {c : SC} {t : TS} {y z : Str} {p p2 : Pos} {x : Str} {b : Bool} (a : Ev c t (.Attribute (.Name y p) z p2) (isS x)) (hb : lnz x = b) (hl : x.length ≤ 1000000) : Tt c t (.Attribute (.Name y p) z p2) b := Tt.str1 a hl hb rfl
theorem Tt.atb {c : SC} {t : TS} {y z : Str} {p p2 : Pos} {b : Bool} (a : Ev c t (.Attribute (.Name y p) z p2) (fun v => v = .bool b)) : Tt c t (.Attribute (.Name y p) z p2) b := Tt.bool1 a rfl
theorem Tt.ac {c : SC} (ok : c.Ok) {t : TS} {p1 p2 p3 p4 p5 p6 : Pos} {k1 k2 k3 : Nat} (e : t.st = some (Str.ofString "a")) : Tt c t (.Compare (.Attribute (.Name (Str.ofString "self") p1) (Str.ofString "state") p2) [.In] [.Tuple [.Constant (.str (Str.ofString "a")) k1 p3, .Constant (.str (Str.ofString "c")) k2 p4] k3 p5] p6) true := by
  obtain ⟨w, pg, loose, mean, mg, mb, dp, un, gd, env, outer, base, h₀, L, s, S, x1, dx1, x, d, pb, fs, κ, rest, m₀⟩ := c
  obtain ⟨B, X, T, hdp, hun, hS, o1, o2, o3, o4, o5, off1, off2, foo⟩ := ok
  rintro Q E s9 ⟨h, tk, nv, k2, sv, ln, u1, u2, i6, rfl, hnc, hst, F, N⟩ hQ
  dsimp only [SC.M, SC.D, SC.A, SC.E, SC.led, SC.map] at *
  revert foo X
  k_fill
  intro X foo
  clear foo
  replace F : Fr h₀ L h (fun z => if z = Str.ofString "nextchar" then nv else if z = Str.ofString "escapedstate" then some (.str t.es k2) else if z = Str.ofString "quoted" then some (.bool t.q) else if z = Str.ofString "self" then some (.ref x) else m₀ z) := F
  rw [e] at hst
  obtain ⟨k9, rfl⟩ := hst
  have hst : stOk t.st (.str (Str.ofString "a") k9) := by rw [e]; exact ⟨k9, rfl⟩
  k_steps
  exact hQ _ ⟨_, _, _, _, _, _, _, _, _, rfl, hnc, hst, by k_asm, by (refine' cb_drop (by k_asm) ?_; first | ((repeat' (first | exact sb_refl | refine sb_keep ?_ | refine sb_skip ?_)); done) | repeat' (first | refine' List.forall_mem_cons.mpr ⟨?_, ?_⟩ | exact List.Mem.head _ | (intro z9 hz9; repeat (first | exact hz9 | refine' List.Mem.tail _ ?_)) | refine' List.Mem.tail _ ?_))⟩
theorem rd_ch {c : SC} (ok : c.Ok) {t : TS} {ch : Nat} (hc : c.S.cps[t.n]? = some ch) : Ex1 c t rdS .next ⟨t.n + 1, t.st, t.tok, some ⟨#[ch]⟩, t.es, t.q⟩ := by
  obtain ⟨w, pg, loose, mean, mg, mb, dp, un, gd, env, outer, base, h₀, L, s, S, x1, dx1, x, d, pb, fs, κ, rest, m₀⟩ := c
  obtain ⟨B, X, T, hdp, hun, hS, o1, o2, o3, o4, o5, off1, off2, foo⟩ := ok
  rintro Q E s9 ⟨h, tk, nv, k2, sv, ln, u1, u2, i6, rfl, hnc, hst, F, N⟩ hQ
  dsimp only [SC.M, SC.D, SC.A, SC.E, SC.led, SC.map] at *
  revert foo X
  k_fill
  intro X foo
  clear foo
  replace F : Fr h₀ L h (fun z => if z = Str.ofString "nextchar" then nv else if z = Str.ofString "escapedstate" then some (.str t.es k2) else if z = Str.ofString "quoted" then some (.bool t.q) else if z = Str.ofString "self" then some (.ref x) else m₀ z) := F
  have hp9 : ((t.n : Nat) : Int) = (t.n : Int) := rfl
  have off2' : ∀ q ∈ rest, q.1 ≠ dx1 := off2
  refine wpAny_Assign_Name ?_
  k_steps
  exact hQ _ ⟨_, _, _, _, _, _, _, _, _, rfl, ⟨_, rfl⟩, hst, fr_nc (by k_asm), by (refine' cb_drop (by k_asm) ?_; first | ((repeat' (first | exact sb_refl | refine sb_keep ?_ | refine sb_skip ?_)); done) | repeat' (first | refine' List.forall_mem_cons.mpr ⟨?_, ?_⟩ | exact List.Mem.head _ | (intro z9 hz9; repeat (first | exact hz9 | refine' List.Mem.tail _ ?_)) | refine' List.Mem.tail _ ?_))⟩
theorem rd_e {c : SC} (ok : c.Ok) {t : TS} (he : t.n = c.S.length) : Ex1 c t rdS .next ⟨t.n, t.st, t.tok, some (Str.ofString ""), t.es, t.q⟩ := by
  obtain ⟨w, pg, loose, mean, mg, mb, dp, un, gd, env, outer, base, h₀, L, s, S, x1, dx1, x, d, pb, fs, κ, rest, m₀⟩ := c
  obtain ⟨B, X, T, hdp, hun, hS, o1, o2, o3, o4, o5, off1, off2, foo⟩ := ok
  rintro Q E s9 ⟨h, tk, nv, k2, sv, ln, u1, u2, i6, rfl, hnc, hst, F, N⟩ hQ
  dsimp only [SC.M, SC.D, SC.A, SC.E, SC.led, SC.map] at *
  revert foo X
  k_fill
  intro X foo
  clear foo
  replace F : Fr h₀ L h (fun z => if z = Str.ofString "nextchar" then nv else if z = Str.ofString "escapedstate" then some (.str t.es k2) else if z = Str.ofString "quoted" then some (.bool t.q) else if z = Str.ofString "self" then some (.ref x) else m₀ z) := F
  have hp9 : ((t.n : Nat) : Int) = (t.n : Int) := rfl
  refine wpAny_Assign_Name ?_
  k_steps
  exact hQ _ ⟨_, _, _, _, _, _, _, _, _, rfl, ⟨_, rfl⟩, hst, fr_nc (by k_asm), by (refine' cb_drop (by k_asm) ?_; first | ((repeat' (first | exact sb_refl | refine sb_keep ?_ | refine sb_skip ?_)); done) | repeat' (first | refine' List.forall_mem_cons.mpr ⟨?_, ?_⟩ | exact List.Mem.head _ | (intro z9 hz9; repeat (first | exact hz9 | refine' List.Mem.tail _ ?_)) | refine' List.Mem.tail _ ?_))⟩
noncomputable def Cm (c : SC) (t : TS) (l : List Stmt) : Prop := ∀ (Q : Flow → Shared → Prop) (E : Value → Shared → Prop) (s : Shared), At c t s → (∀ n' nc' s', n' ≤ c.S.length → At c ⟨n', some (Str.ofString " "), t.tok, nc', t.es, t.q⟩ s' → Q .brk s') → wpAny c.M c.D (execs l c.E) Q E s
theorem Cm.iff {c : SC} {t : TS} {e : Expr} {l r : List Stmt} {p : Pos} (a : Tt c t e false) (b : Cm c t r) : Cm c t [.If e l r p] := fun Q E _ hs h => execs_one (wpAny_If (a _ E _ hs (fun _ hs' => (if_neg (by decide)).mpr (b Q E _ hs' h))))
theorem Cm.ift {c : SC} {t : TS} {e : Expr} {l r : List Stmt} {p : Pos} (a : Tt c t e true) (b : Cm c t l) : Cm c t [.If e l r p] := fun Q E _ hs h => execs_one (wpAny_If (a _ E _ hs (fun _ hs' => (if_pos rfl).mpr (b Q E _ hs' h))))
theorem rd_l {c : SC} (ok : c.Ok) {t : TS} (hn : t.n ≤ c.S.length) (Q : Flow → Shared → Prop) (E : Value → Shared → Prop) (s : Shared) (hs : At c t s) (hQ : ∀ n' s', n' ≤ c.S.length → At c ⟨n', t.st, t.tok, t.nc, t.es, t.q⟩ s' → Q .next s') : wpAny c.M c.D (exec rlS c.E) Q E s := by
  revert hQ hs s E Q
  obtain ⟨w, pg, loose, mean, mg, mb, dp, un, gd, env, outer, base, h₀, L, s, S, x1, dx1, x, d, pb, fs, κ, rest, m₀⟩ := c
  obtain ⟨B, X, T, hdp, hun, hS, o1, o2, o3, o4, o5, off1, off2, foo⟩ := ok
  rintro Q E s9 ⟨h, tk, nv, k2, sv, ln, u1, u2, i6, rfl, hnc, hst, F, N⟩ hQ
  dsimp only [SC.M, SC.D, SC.A, SC.E, SC.led, SC.map] at *
  revert foo X
  k_fill
  intro X foo
  clear foo
  replace F : Fr h₀ L h (fun z => if z = Str.ofString "nextchar" then nv else if z = Str.ofString "escapedstate" then some (.str t.es k2) else if z = Str.ofString "quoted" then some (.bool t.q) else if z = Str.ofString "self" then some (.ref x) else m₀ z) := F
  have hp9 : ((t.n : Nat) : Int) = (t.n : Int) := rfl
  have hn9 : t.n ≤ S.length := hn
  refine wpAny_Expr ?_
  k_steps
  rename_i p9 k9 r9 t9 h9 tk9 a9 b9 c9 d9
  obtain ⟨n2, rfl⟩ : ∃ n2 : Nat, p9 = n2 := ⟨p9.toNat, by omega⟩
  exact hQ n2 _ (by omega) ⟨_, _, _, _, _, _, _, _, _, rfl, hnc, hst, a9, d9⟩
theorem Cm.here {c : SC} (ok : c.Ok) {t : TS} (hn : t.n ≤ c.S.length) (b : ∀ n', Ex c ⟨n', t.st, t.tok, t.nc, t.es, t.q⟩ (tl9 rlL) .brk ⟨n', some (Str.ofString " "), t.tok, t.nc, t.es, t.q⟩) : Cm c t rlL := fun Q E _ hs h =>
  wpAny_execs_cons (rd_l ok hn _ E _ hs (fun n' _ hn' hs' => b n' Q E _ hs' (fun _ hs2 => h n' _ _ hn' hs2)))
noncomputable def Rz (c : SC) (t : TS) (l : List Stmt) : Prop := ∀ (Q : Flow → Shared → Prop) (E : Value → Shared → Prop) (s : Shared), At c t s → (∀ e h' tk', RaisedSN c.base c.h₀ (c.env :: c.outer) e (.type "ValueError") c.rest h' → c.h₀.UpToSlots h' → E (.ref e) ⟨h', c.s.gens, c.s.drawn, tk', c.s.os⟩) →
  wpAny c.M c.D (execs l c.E) Q (fun e s' => wpAny c.M c.D (leaving c.E e) (fun _ s'' => E e s'') (fun e' s'' => E e' s'') s') s
theorem Rz.iff {c : SC} {t : TS} {e : Expr} {l r : List Stmt} {p : Pos} (a : Tt c t e false) (b : Rz c t r) : Rz c t [.If e l r p] := fun Q E _ hs h => execs_one (wpAny_If (a _ _ _ hs (fun _ hs' => (if_neg (by decide)).mpr (b Q E _ hs' h))))
theorem Rz.ift {c : SC} {t : TS} {e : Expr} {l r : List Stmt} {p : Pos} (a : Tt c t e true) (b : Rz c t l) : Rz c t [.If e l r p] := fun Q E _ hs h => execs_one (wpAny_If (a _ _ _ hs (fun _ hs' => (if_pos rfl).mpr (b Q E _ hs' h))))
theorem Rz.first {c : SC} {t : TS} {e : Expr} {l r l2 : List Stmt} {p : Pos} (a : Tt c t e true) (b : Rz c t l) : Rz c t (.If e l r p :: l2) := fun Q E _ hs h => wpAny_execs_cons (wpAny_If (a _ _ _ hs (fun _ hs' => (if_pos rfl).mpr (b _ E _ hs' h))))
theorem Rz.cons {c : SC} {t t1 : TS} {st : Stmt} {l : List Stmt} (a : Ex1 c t st .next t1) (b : Rz c t1 l) : Rz c t (st :: l) := fun Q E _ hs h => wpAny_execs_cons (a _ _ _ hs (fun _ hs' => b Q E _ hs' h))
theorem Rz.here {c : SC} (ok : c.Ok) {t : TS} {p1 p2 p3 p4 : Pos} {kk : Nat} {y : Str} {l : List Stmt} : Rz c t (.Raise (some (.Call (.Name (Str.ofString "ValueError") p1) [.Constant (.str y) kk p2] [] p3)) none p4 :: l) := by
  obtain ⟨w, pg, loose, mean, mg, mb, dp, un, gd, env, outer, base, h₀, L, s, S, x1, dx1, x, d, pb, fs, κ, rest, m₀⟩ := c
  obtain ⟨B, X, T, hdp, hun, hS, o1, o2, o3, o4, o5, off1, off2, foo⟩ := ok
  rintro Q E s9 ⟨h, tk, nv, k2, sv, ln, u1, u2, i6, rfl, hnc, hst, F, N⟩ hQ
  dsimp only [SC.M, SC.D, SC.A, SC.E, SC.led, SC.map] at *
  revert foo X
  k_fill
  intro X foo
  clear foo
  replace F : Fr h₀ L h (fun z => if z = Str.ofString "nextchar" then nv else if z = Str.ofString "escapedstate" then some (.str t.es k2) else if z = Str.ofString "quoted" then some (.bool t.q) else if z = Str.ofString "self" then some (.ref x) else m₀ z) := F
  k_steps
  exact hQ _ _ _ (raisedSN_sub (by assumption) (by intro z9 hz9; first | exact hz9 | (repeat (first | exact hz9 | refine List.Mem.tail _ ?_)))) (by assumption)
end Mine
end
section
open PySem PySem.W PyProof.Rows PySem.Calls PySem.Spec PyProof
set_option Elab.async false
set_option maxRecDepth 100000
set_option maxHeartbeats 8000000
namespace Mine
theorem rules_HR5_0 : True := by
  w_top off
  k_with_none
  (k_with "k tr" => (first | with_reducible assumption | (refine Nat.lt_trans (by with_reducible assumption) ?_; k_extra "k tr")))
  (k_with "k all" => assumption)
  trivial
theorem lnz_ch {ch : Nat} : lnz ⟨#[ch]⟩ = true := rfl
theorem len_ch {ch : Nat} : (⟨#[ch]⟩ : Str).length ≤ 1000000 := Nat.le_of_ble_eq_true rfl
theorem rtB_is : rtB = hd9 rtB :: hd9 (tl9 rtB) :: hd9 (tl9 (tl9 rtB)) :: rtBig := rfl
theorem g_token9 {c : SC} (ok : c.Ok) {n : Nat} {st : Option Str} {nc : Option Str} {tok es : Str} {q : Bool} {p1 p2 : Pos} : Ev c ⟨n, st, tok, nc, es, q⟩ (.Attribute (.Name (Str.ofString "self") p1) (Str.ofString "token") p2) (isS tok) := g_token ok
theorem g_state9 {c : SC} (ok : c.Ok) {n : Nat} {nc : Option Str} {tok es : Str} {q : Bool} {p1 p2 : Pos} {y : Str}  : Ev c ⟨n, some y, tok, nc, es, q⟩ (.Attribute (.Name (Str.ofString "self") p1) (Str.ofString "state") p2) (isS y) := g_state ok rfl
theorem g_nc9 {c : SC} (ok : c.Ok) {n : Nat} {st : Option Str} {tok es : Str} {q : Bool} {p1 : Pos} {y : Str}  : Ev c ⟨n, st, tok, some y, es, q⟩ (.Name (Str.ofString "nextchar") p1) (isS y) := g_nc ok rfl
theorem g_es9 {c : SC} (ok : c.Ok) {n : Nat} {st : Option Str} {nc : Option Str} {tok es : Str} {q : Bool} {p1 : Pos} : Ev c ⟨n, st, tok, nc, es, q⟩ (.Name (Str.ofString "escapedstate") p1) (isS es) := g_es ok
theorem g_q9 {c : SC} (ok : c.Ok) {n : Nat} {st : Option Str} {nc : Option Str} {tok es : Str} {q : Bool} {p1 : Pos} : Ev c ⟨n, st, tok, nc, es, q⟩ (.Name (Str.ofString "quoted") p1) (fun v => v = .bool q) := g_q ok
theorem s_state_nc9 {c : SC} (ok : c.Ok) {n : Nat} {st : Option Str} {tok es : Str} {q : Bool} {p1 p2 p3 p4 : Pos} {y : Str}  : Ex1 c ⟨n, st, tok, some y, es, q⟩ (.Assign [(.Attribute (.Name (Str.ofString "self") p1) (Str.ofString "state") p2)] (.Name (Str.ofString "nextchar") p3) p4) .next ⟨n, some y, tok, (some y), es, q⟩ := s_state_nc ok rfl
theorem s_state_es9 {c : SC} (ok : c.Ok) {n : Nat} {st : Option Str} {nc : Option Str} {tok es : Str} {q : Bool} {p1 p2 p3 p4 : Pos} : Ex1 c ⟨n, st, tok, nc, es, q⟩ (.Assign [(.Attribute (.Name (Str.ofString "self") p1) (Str.ofString "state") p2)] (.Name (Str.ofString "escapedstate") p3) p4) .next ⟨n, some es, tok, nc, es, q⟩ := s_state_es ok
theorem s_state_lit9 {c : SC} (ok : c.Ok) {n : Nat} {st : Option Str} {nc : Option Str} {tok es : Str} {q : Bool} {p1 p2 p3 p4 : Pos} {kk : Nat} {y : Str} : Ex1 c ⟨n, st, tok, nc, es, q⟩ (.Assign [(.Attribute (.Name (Str.ofString "self") p1) (Str.ofString "state") p2)] (.Constant (.str y) kk p3) p4) .next ⟨n, some y, tok, nc, es, q⟩ := s_state_lit ok
theorem s_state_none9 {c : SC} (ok : c.Ok) {n : Nat} {st : Option Str} {nc : Option Str} {tok es : Str} {q : Bool} {p1 p2 p3 p4 : Pos} {kk : Nat} : Ex1 c ⟨n, st, tok, nc, es, q⟩ (.Assign [(.Attribute (.Name (Str.ofString "self") p1) (Str.ofString "state") p2)] (.Constant .none kk p3) p4) .next ⟨n, none, tok, nc, es, q⟩ := s_state_none ok
theorem s_token_nc9 {c : SC} (ok : c.Ok) {n : Nat} {st : Option Str} {tok es : Str} {q : Bool} {p1 p2 p3 p4 : Pos} {y : Str}  : Ex1 c ⟨n, st, tok, some y, es, q⟩ (.Assign [(.Attribute (.Name (Str.ofString "self") p1) (Str.ofString "token") p2)] (.Name (Str.ofString "nextchar") p3) p4) .next ⟨n, st, y, (some y), es, q⟩ := s_token_nc ok rfl
theorem s_token_lit9 {c : SC} (ok : c.Ok) {n : Nat} {st : Option Str} {nc : Option Str} {tok es : Str} {q : Bool} {p1 p2 p3 p4 : Pos} {kk : Nat} {y : Str} : Ex1 c ⟨n, st, tok, nc, es, q⟩ (.Assign [(.Attribute (.Name (Str.ofString "self") p1) (Str.ofString "token") p2)] (.Constant (.str y) kk p3) p4) .next ⟨n, st, y, nc, es, q⟩ := s_token_lit ok
theorem a_token_nc9 {c : SC} (ok : c.Ok) {n : Nat} {st : Option Str} {tok es : Str} {q : Bool} {p1 p2 p3 p4 : Pos} {y : Str}  (hl : tok.length + y.length ≤ sizeLine) : Ex1 c ⟨n, st, tok, some y, es, q⟩ (.AugAssign (.Attribute (.Name (Str.ofString "self") p1) (Str.ofString "token") p2) .Add (.Name (Str.ofString "nextchar") p3) p4) .next ⟨n, st, tok ++ y, (some y), es, q⟩ := a_token_nc ok rfl hl
theorem a_token_st9 {c : SC} (ok : c.Ok) {n : Nat} {nc : Option Str} {tok es : Str} {q : Bool} {p1 p2 p3 p4 p5 : Pos} {y : Str}  (hl : tok.length + y.length ≤ sizeLine) : Ex1 c ⟨n, some y, tok, nc, es, q⟩ (.AugAssign (.Attribute (.Name (Str.ofString "self") p1) (Str.ofString "token") p2) .Add (.Attribute (.Name (Str.ofString "self") p3) (Str.ofString "state") p4) p5) .next ⟨n, (some y), tok ++ y, nc, es, q⟩ := a_token_st ok rfl hl
theorem s_es_lit9 {c : SC} (ok : c.Ok) {n : Nat} {st : Option Str} {nc : Option Str} {tok es : Str} {q : Bool} {p1 p3 p4 : Pos} {kk : Nat} {y : Str} : Ex1 c ⟨n, st, tok, nc, es, q⟩ (.Assign [.Name (Str.ofString "escapedstate") p1] (.Constant (.str y) kk p3) p4) .next ⟨n, st, tok, nc, y, q⟩ := s_es_lit ok
theorem s_es_st9 {c : SC} (ok : c.Ok) {n : Nat} {nc : Option Str} {tok es : Str} {q : Bool} {p1 p3 p4 p5 : Pos} {y : Str}  : Ex1 c ⟨n, some y, tok, nc, es, q⟩ (.Assign [.Name (Str.ofString "escapedstate") p1] (.Attribute (.Name (Str.ofString "self") p3) (Str.ofString "state") p4) p5) .next ⟨n, (some y), tok, nc, y, q⟩ := s_es_st ok rfl
theorem s_q9 {c : SC} (ok : c.Ok) {n : Nat} {st : Option Str} {nc : Option Str} {tok es : Str} {q : Bool} {p1 p3 p4 : Pos} {kk : Nat} : Ex1 c ⟨n, st, tok, nc, es, q⟩ (.Assign [.Name (Str.ofString "quoted") p1] (.Constant (.bool true) kk p3) p4) .next ⟨n, st, tok, nc, es, true⟩ := s_q ok
theorem Cm.here9 {c : SC} (ok : c.Ok) {n : Nat} {st nc : Option Str} {tok es : Str} {q : Bool} (hn : n ≤ c.S.length) (b : ∀ n', Ex c ⟨n', st, tok, nc, es, q⟩ (tl9 rlL) .brk ⟨n', some (Str.ofString " "), tok, nc, es, q⟩) : Cm c ⟨n, st, tok, nc, es, q⟩ rlL := Cm.here ok hn b
theorem Cm.cons {c : SC} {t t1 : TS} {st : Stmt} {l : List Stmt} (a : Ex1 c t st .next t1) (b : Cm c t1 l) (e1 : t1.tok = t.tok := by rfl) (e2 : t1.es = t.es := by rfl) (e3 : t1.q = t.q := by rfl) : Cm c t (st :: l) := fun Q E _ hs h => wpAny_execs_cons (a _ E _ hs (fun _ hs' => b Q E _ hs' (fun n' nc' s' hn hs2 => h n' nc' s' hn (by rw [← e1, ← e2, ← e3]; exact hs2))))
theorem rules_HR5_1 : True := by
  w_top off
  k_with_none
  (k_with "k tr" => (first | with_reducible assumption | (refine Nat.lt_trans (by with_reducible assumption) ?_; k_extra "k tr")))
  (k_with "k all" => assumption)
  (k_with "h ev" => (first | with_reducible exact g_nc9 (by assumption) | with_reducible exact Ev.lit | with_reducible exact g_state9 (by assumption) | with_reducible exact g_es9 (by assumption) | with_reducible exact g_q9 (by assumption) | with_reducible exact g_token9 (by assumption) | with_reducible exact g_whitespace (by assumption) | with_reducible exact g_commenters (by assumption) | with_reducible exact g_escape (by assumption) | with_reducible exact g_wordchars (by assumption) | with_reducible exact g_quotes (by assumption) | with_reducible exact g_escapedquotes (by assumption) | with_reducible exact g_punctuation_chars (by assumption) | with_reducible exact g_debug (by assumption) | with_reducible exact g_posix (by assumption) | with_reducible exact g_whitespace_split (by assumption)))
  (k_with "h hb" => (first | with_reducible assumption | exact lnz_ch | decide +kernel))
  (k_with "h hl" => (first | with_reducible assumption | exact len_ch | decide +kernel))
  (k_with "h ta" => (first | with_reducible exact TA.nil | ((with_reducible refine' TA.f ?ea); (case ea => k_extra "h tt")) | ((with_reducible refine' TA.t ?ea ?eb); (case ea => k_extra "h tt"); (case eb => k_extra "h ta"))))
  (k_with "h to" => (first | with_reducible exact TO.nil | ((with_reducible refine' TO.t ?ea); (case ea => k_extra "h tt")) | ((with_reducible refine' TO.f ?ea ?eb); (case ea => k_extra "h tt"); (case eb => k_extra "h to"))))
  (k_with "h tt" => (first | ((with_reducible refine' Tt.inF ?a ?b ?c ?d); (case a => k_extra "h ev"); (case b => k_extra "h ev"); (case c => k_extra "h hb"); (case d => rfl)) | ((with_reducible refine' Tt.inT ?a ?b ?c ?d); (case a => k_extra "h ev"); (case b => k_extra "h ev"); (case c => k_extra "h hb"); (case d => rfl)) | ((with_reducible refine' Tt.eqB ?a ?b ?c ?d); (case a => k_extra "h ev"); (case b => k_extra "h ev"); (case c => k_extra "h hb"); (case d => rfl)) | ((with_reducible refine' Tt.neB ?a ?b ?c ?d); (case a => k_extra "h ev"); (case b => k_extra "h ev"); (case c => k_extra "h hb"); (case d => rfl)) | ((with_reducible refine' Tt.isF ?a); (case a => k_extra "h ev")) | ((with_reducible refine' Tt.geF ?a ?c); (case a => k_extra "h ev"); (case c => decide)) | ((with_reducible refine' Tt.notT ?a); (case a => k_extra "h tt")) | ((with_reducible refine' Tt.notF ?a); (case a => k_extra "h tt")) | ((with_reducible refine' Tt.nmb ?a); (case a => k_extra "h ev")) | ((with_reducible refine' Tt.nm ?a ?c ?d); (case a => k_extra "h ev"); (case c => k_extra "h hb"); (case d => k_extra "h hl")) | ((with_reducible refine' Tt.atb ?a); (case a => k_extra "h ev")) | ((with_reducible refine' Tt.at_ ?a ?c ?d); (case a => k_extra "h ev"); (case c => k_extra "h hb"); (case d => k_extra "h hl")) | (with_reducible exact Tt.ac (by assumption) rfl) | ((with_reducible refine' Tt.and ?a); (case a => k_extra "h ta")) | ((with_reducible refine' Tt.or ?a); (case a => k_extra "h to"))))
  (k_with "h x" => (first | with_reducible exact Ex.nil | (with_reducible refine Ex.one ?_) | (with_reducible refine' Ex.cons ?_ ?_) | with_reducible exact Ex1.brk | with_reducible exact Ex1.cont | with_reducible exact s_state_nc9 (by assumption) | with_reducible exact s_state_es9 (by assumption) | with_reducible exact s_state_lit9 (by assumption) | with_reducible exact s_state_none9 (by assumption) | with_reducible exact s_token_nc9 (by assumption) | with_reducible exact s_token_lit9 (by assumption) | with_reducible exact s_es_lit9 (by assumption) | with_reducible exact s_es_st9 (by assumption) | with_reducible exact s_q9 (by assumption) | with_reducible exact a_ln (by assumption) | ((with_reducible refine' a_token_nc9 (by assumption) ?a); (case a => assumption)) | ((with_reducible refine' a_token_st9 (by assumption) ?a); (case a => assumption)) | ((with_reducible refine' Ex1.iff ?a ?_); (case a => k_extra "h tt")) | ((with_reducible refine' Ex1.ift ?a ?_); (case a => k_extra "h tt"))))
  (k_with "h r" => (first | (with_reducible exact Rz.here (by assumption)) | ((with_reducible refine' Rz.iff ?a ?_); (case a => k_extra "h tt")) | ((with_reducible refine' Rz.ift ?a ?_); (case a => k_extra "h tt")) | ((with_reducible refine' Rz.first ?a ?_); (case a => k_extra "h tt")) | (with_reducible refine' Rz.cons ?_ ?_) | k_extra "h x"))
  (k_with "h c" => (first | ((with_reducible show Cm _ _ (Stmt.Expr _ _ :: _)); refine Cm.here9 (by assumption) (by assumption) (fun n' => Ex.cons (a_ln (by assumption)) ?_)) | ((with_reducible refine' Cm.iff ?a ?_); (case a => k_extra "h tt")) | ((with_reducible refine' Cm.ift ?a ?_); (case a => k_extra "h tt")) | k_extra "h x"))
  trivial
theorem pre_ch {c : SC} (ok : c.Ok) {t t' : TS} {f : Flow} {ch : Nat} (hc : c.S.cps[t.n]? = some ch) (h : Ex c ⟨t.n + 1, t.st, t.tok, some ⟨#[ch]⟩, t.es, t.q⟩ rtBig f t') : Ex c t rtB f t' := by
  rw [rtB_is]
  refine Ex.cons (Ex1.iff (t1 := ⟨t.n + 1, t.st, t.tok, some ⟨#[ch]⟩, t.es, t.q⟩) ?_ (Ex.one (rd_ch ok hc))) (Ex.cons (t1 := ⟨t.n + 1, t.st, t.tok, some ⟨#[ch]⟩, t.es, t.q⟩) ?_ (Ex.cons (t1 := ⟨t.n + 1, t.st, t.tok, some ⟨#[ch]⟩, t.es, t.q⟩) ?_ h))
  · refine Tt.and (TA.f (Tt.at_ (g_punctuation_chars ok) ?_ ?_)) <;> decide +kernel
  · by_cases e : (⟨#[ch]⟩ : Str) == Str.ofString "\n"
    · exact Ex1.ift (Tt.eqB (g_nc ok rfl) Ev.lit e rfl) (Ex.one (a_ln ok))
    · exact Ex1.iff (Tt.eqB (g_nc ok rfl) Ev.lit (Bool.eq_false_iff.mpr e) rfl) Ex.nil
  · exact Ex1.iff (Tt.geF (g_debug ok) (by decide)) Ex.nil
theorem pre_e {c : SC} (ok : c.Ok) {t t' : TS} {f : Flow} (hc : t.n = c.S.length) (h : Ex c ⟨t.n, t.st, t.tok, some (Str.ofString ""), t.es, t.q⟩ rtBig f t') : Ex c t rtB f t' := by
  rw [rtB_is]
  refine Ex.cons (Ex1.iff (t1 := ⟨t.n, t.st, t.tok, some (Str.ofString ""), t.es, t.q⟩) ?_ (Ex.one (rd_e ok hc))) (Ex.cons (t1 := ⟨t.n, t.st, t.tok, some (Str.ofString ""), t.es, t.q⟩) ?_ (Ex.cons (t1 := ⟨t.n, t.st, t.tok, some (Str.ofString ""), t.es, t.q⟩) ?_ h))
  · refine Tt.and (TA.f (Tt.at_ (g_punctuation_chars ok) ?_ ?_)) <;> decide +kernel
  · by_cases e : (Str.ofString "" : Str) == Str.ofString "\n"
    · exact Ex1.ift (Tt.eqB (g_nc ok rfl) Ev.lit e rfl) (Ex.one (a_ln ok))
    · exact Ex1.iff (Tt.eqB (g_nc ok rfl) Ev.lit (Bool.eq_false_iff.mpr e) rfl) Ex.nil
  · exact Ex1.iff (Tt.geF (g_debug ok) (by decide)) Ex.nil
theorem pre_cm {c : SC} (ok : c.Ok) {t : TS} {ch : Nat} (hc : c.S.cps[t.n]? = some ch) (h : Cm c ⟨t.n + 1, t.st, t.tok, some ⟨#[ch]⟩, t.es, t.q⟩ rtBig) : Cm c t rtB := by
  rw [rtB_is]
  refine Cm.cons (Ex1.iff (t1 := ⟨t.n + 1, t.st, t.tok, some ⟨#[ch]⟩, t.es, t.q⟩) ?_ (Ex.one (rd_ch ok hc))) (Cm.cons (t1 := ⟨t.n + 1, t.st, t.tok, some ⟨#[ch]⟩, t.es, t.q⟩) ?_ (Cm.cons (t1 := ⟨t.n + 1, t.st, t.tok, some ⟨#[ch]⟩, t.es, t.q⟩) ?_ h))
  · refine Tt.and (TA.f (Tt.at_ (g_punctuation_chars ok) ?_ ?_)) <;> decide +kernel
  · by_cases e : (⟨#[ch]⟩ : Str) == Str.ofString "\n"
    · exact Ex1.ift (Tt.eqB (g_nc ok rfl) Ev.lit e rfl) (Ex.one (a_ln ok))
    · exact Ex1.iff (Tt.eqB (g_nc ok rfl) Ev.lit (Bool.eq_false_iff.mpr e) rfl) Ex.nil
  · exact Ex1.iff (Tt.geF (g_debug ok) (by decide)) Ex.nil
theorem pre_rz {c : SC} (ok : c.Ok) {t : TS} (hc : t.n = c.S.length) (h : Rz c ⟨t.n, t.st, t.tok, some (Str.ofString ""), t.es, t.q⟩ rtBig) : Rz c t rtB := by
  rw [rtB_is]
  refine Rz.cons (Ex1.iff (t1 := ⟨t.n, t.st, t.tok, some (Str.ofString ""), t.es, t.q⟩) ?_ (Ex.one (rd_e ok hc))) (Rz.cons (t1 := ⟨t.n, t.st, t.tok, some (Str.ofString ""), t.es, t.q⟩) ?_ (Rz.cons (t1 := ⟨t.n, t.st, t.tok, some (Str.ofString ""), t.es, t.q⟩) ?_ h))
  · refine Tt.and (TA.f (Tt.at_ (g_punctuation_chars ok) ?_ ?_)) <;> decide +kernel
  · by_cases e : (Str.ofString "" : Str) == Str.ofString "\n"
    · exact Ex1.ift (Tt.eqB (g_nc ok rfl) Ev.lit e rfl) (Ex.one (a_ln ok))
    · exact Ex1.iff (Tt.eqB (g_nc ok rfl) Ev.lit (Bool.eq_false_iff.mpr e) rfl) Ex.nil
  · exact Ex1.iff (Tt.geF (g_debug ok) (by decide)) Ex.nil
theorem m0_e {c : SC} (ok : c.Ok) {n : Nat} {es : Str} : Ex c ⟨n, some (Str.ofString " "), tx [], some (Str.ofString ""), es, false⟩ rtBig .brk ⟨n, none, tx [], some (Str.ofString ""), es, false⟩ := by
  refine Ex.one (Ex1.iff (Tt.isF (g_state ok rfl)) ?_)
  repeat' (k_extra "h x")
theorem m0_ap {c : SC} (ok : c.Ok) {n : Nat} {es : Str} {ch : Nat} (hch : ch = 39) : Ex c ⟨n, some (Str.ofString " "), tx [], some ⟨#[ch]⟩, es, false⟩ rtBig .next ⟨n, some (⟨#[ch]⟩), tx [], some ⟨#[ch]⟩, es, false⟩ := by
  obtain ⟨_, _, _, _, _, _, _, _⟩ := fct_ap hch
  refine Ex.one (Ex1.iff (Tt.isF (g_state ok rfl)) ?_)
  repeat' (k_extra "h x")
theorem m0_qt {c : SC} (ok : c.Ok) {n : Nat} {es : Str} {ch : Nat} (hch : ch = 34) : Ex c ⟨n, some (Str.ofString " "), tx [], some ⟨#[ch]⟩, es, false⟩ rtBig .next ⟨n, some (⟨#[ch]⟩), tx [], some ⟨#[ch]⟩, es, false⟩ := by
  obtain ⟨_, _, _, _, _, _, _, _⟩ := fct_qt hch
  refine Ex.one (Ex1.iff (Tt.isF (g_state ok rfl)) ?_)
  repeat' (k_extra "h x")
theorem m0_let {c : SC} (ok : c.Ok) {n : Nat} {es : Str} {ch : Nat} (hch : isLet ch = true) : Ex c ⟨n, some (Str.ofString " "), tx [], some ⟨#[ch]⟩, es, false⟩ rtBig .next ⟨n, some (Str.ofString "a"), ⟨#[ch]⟩, some ⟨#[ch]⟩, es, false⟩ := by
  obtain ⟨_, _, _, _, _, _⟩ := fct_let hch
  refine Ex.one (Ex1.iff (Tt.isF (g_state ok rfl)) ?_)
  repeat' (k_extra "h x")
theorem m1_e {c : SC} (ok : c.Ok) {n : Nat} {tok : List Nat} {es : Str} {q : Bool} : Ex c ⟨n, some (Str.ofString "a"), tx tok, some (Str.ofString ""), es, q⟩ rtBig .brk ⟨n, none, tx tok, some (Str.ofString ""), es, q⟩ := by
  refine Ex.one (Ex1.iff (Tt.isF (g_state ok rfl)) ?_)
  repeat' (k_extra "h x")
theorem m1_ws {c : SC} (ok : c.Ok) {n : Nat} {tok : List Nat} {es : Str} {q : Bool} {ch : Nat} (hch : isWs ch = true) (hT : (tx tok).length ≤ 1000000) (ht : tok ≠ [] ∨ q = true) : Ex c ⟨n, some (Str.ofString "a"), tx tok, some ⟨#[ch]⟩, es, q⟩ rtBig .brk ⟨n, some (Str.ofString " "), tx tok, some ⟨#[ch]⟩, es, q⟩ := by
  have _ := fct_ws hch
  refine Ex.one (Ex1.iff (Tt.isF (g_state ok rfl)) ?_)
  rcases ht with ht | rfl
  · have _ := tok_truth ht
    repeat' (k_extra "h x")
  · rcases tok with _ | ⟨z, tok⟩
    · repeat' (k_extra "h x")
    · have _ := tok_truth (List.cons_ne_nil z tok)
      repeat' (k_extra "h x")
theorem m1_ap {c : SC} (ok : c.Ok) {n : Nat} {tok : List Nat} {es : Str} {q : Bool} {ch : Nat} (hch : ch = 39) : Ex c ⟨n, some (Str.ofString "a"), tx tok, some ⟨#[ch]⟩, es, q⟩ rtBig .next ⟨n, some (⟨#[ch]⟩), tx tok, some ⟨#[ch]⟩, es, q⟩ := by
  obtain ⟨_, _, _, _, _, _, _, _⟩ := fct_ap hch
  refine Ex.one (Ex1.iff (Tt.isF (g_state ok rfl)) ?_)
  repeat' (k_extra "h x")
theorem m1_qt {c : SC} (ok : c.Ok) {n : Nat} {tok : List Nat} {es : Str} {q : Bool} {ch : Nat} (hch : ch = 34) : Ex c ⟨n, some (Str.ofString "a"), tx tok, some ⟨#[ch]⟩, es, q⟩ rtBig .next ⟨n, some (⟨#[ch]⟩), tx tok, some ⟨#[ch]⟩, es, q⟩ := by
  obtain ⟨_, _, _, _, _, _, _, _⟩ := fct_qt hch
  refine Ex.one (Ex1.iff (Tt.isF (g_state ok rfl)) ?_)
  repeat' (k_extra "h x")
theorem m1_bs {c : SC} (ok : c.Ok) {n : Nat} {tok : List Nat} {es : Str} {q : Bool} {ch : Nat} (hch : ch = 92) : Ex c ⟨n, some (Str.ofString "a"), tx tok, some ⟨#[ch]⟩, es, q⟩ rtBig .next ⟨n, some (⟨#[ch]⟩), tx tok, some ⟨#[ch]⟩, Str.ofString "a", q⟩ := by
  obtain ⟨_, _, _, _, _, _⟩ := fct_bs hch
  refine Ex.one (Ex1.iff (Tt.isF (g_state ok rfl)) ?_)
  repeat' (k_extra "h x")
theorem m1_let {c : SC} (ok : c.Ok) {n : Nat} {tok : List Nat} {es : Str} {q : Bool} {ch : Nat} (hch : isLet ch = true) (hT2 : (tx tok).length + (⟨#[ch]⟩ : Str).length ≤ sizeLine) : Ex c ⟨n, some (Str.ofString "a"), tx tok, some ⟨#[ch]⟩, es, q⟩ rtBig .next ⟨n, some (Str.ofString "a"), (tx tok ++ ⟨#[ch]⟩), some ⟨#[ch]⟩, es, q⟩ := by
  obtain ⟨_, _, _, _, _, _⟩ := fct_let hch
  refine Ex.one (Ex1.iff (Tt.isF (g_state ok rfl)) ?_)
  repeat' (k_extra "h x")
theorem m2_ap {c : SC} (ok : c.Ok) {n : Nat} {tok : List Nat} {es : Str} {q : Bool} {ch : Nat} (hch : ch = 39) : Ex c ⟨n, some (Str.ofString "'"), tx tok, some ⟨#[ch]⟩, es, q⟩ rtBig .next ⟨n, some (Str.ofString "a"), tx tok, some ⟨#[ch]⟩, es, true⟩ := by
  obtain ⟨_, _, _, _, _, _, _, _⟩ := fct_ap hch
  refine Ex.one (Ex1.iff (Tt.isF (g_state ok rfl)) ?_)
  repeat' (k_extra "h x")
theorem m2_c {c : SC} (ok : c.Ok) {n : Nat} {tok : List Nat} {es : Str} {q : Bool} {ch : Nat} (hch : ch ≠ 39) (hT2 : (tx tok).length + (⟨#[ch]⟩ : Str).length ≤ sizeLine) : Ex c ⟨n, some (Str.ofString "'"), tx tok, some ⟨#[ch]⟩, es, q⟩ rtBig .next ⟨n, some (Str.ofString "'"), (tx tok ++ ⟨#[ch]⟩), some ⟨#[ch]⟩, es, true⟩ := by
  have _ := fct_ne lit_ap hch
  refine Ex.one (Ex1.iff (Tt.isF (g_state ok rfl)) ?_)
  by_cases hb : ch = 92
  · obtain ⟨_, _, _, _, _, _⟩ := fct_bs hb
    repeat' (k_extra "h x")
  · have _ := fct_nb hb
    repeat' (k_extra "h x")
theorem m3_qt {c : SC} (ok : c.Ok) {n : Nat} {tok : List Nat} {es : Str} {q : Bool} {ch : Nat} (hch : ch = 34) : Ex c ⟨n, some (Str.ofString "\""), tx tok, some ⟨#[ch]⟩, es, q⟩ rtBig .next ⟨n, some (Str.ofString "a"), tx tok, some ⟨#[ch]⟩, es, true⟩ := by
  obtain ⟨_, _, _, _, _, _, _, _⟩ := fct_qt hch
  refine Ex.one (Ex1.iff (Tt.isF (g_state ok rfl)) ?_)
  repeat' (k_extra "h x")
theorem m3_bs {c : SC} (ok : c.Ok) {n : Nat} {tok : List Nat} {es : Str} {q : Bool} {ch : Nat} (hch : ch = 92) : Ex c ⟨n, some (Str.ofString "\""), tx tok, some ⟨#[ch]⟩, es, q⟩ rtBig .next ⟨n, some (⟨#[ch]⟩), tx tok, some ⟨#[ch]⟩, Str.ofString "\"", true⟩ := by
  obtain ⟨_, _, _, _, _, _⟩ := fct_bs hch
  refine Ex.one (Ex1.iff (Tt.isF (g_state ok rfl)) ?_)
  repeat' (k_extra "h x")
theorem m3_c {c : SC} (ok : c.Ok) {n : Nat} {tok : List Nat} {es : Str} {q : Bool} {ch : Nat} (hch : ch ≠ 34) (hch2 : ch ≠ 92) (hT2 : (tx tok).length + (⟨#[ch]⟩ : Str).length ≤ sizeLine) : Ex c ⟨n, some (Str.ofString "\""), tx tok, some ⟨#[ch]⟩, es, q⟩ rtBig .next ⟨n, some (Str.ofString "\""), (tx tok ++ ⟨#[ch]⟩), some ⟨#[ch]⟩, es, true⟩ := by
  have _ := fct_ne lit_qt hch
  have _ := fct_nb hch2
  refine Ex.one (Ex1.iff (Tt.isF (g_state ok rfl)) ?_)
  repeat' (k_extra "h x")
theorem m4_c {c : SC} (ok : c.Ok) {n : Nat} {tok : List Nat} {q : Bool} {ch : Nat} (hT2 : (tx tok).length + (⟨#[ch]⟩ : Str).length ≤ sizeLine) : Ex c ⟨n, some (Str.ofString "\\"), tx tok, some ⟨#[ch]⟩, Str.ofString "a", q⟩ rtBig .next ⟨n, some (Str.ofString "a"), (tx tok ++ ⟨#[ch]⟩), some ⟨#[ch]⟩, Str.ofString "a", q⟩ := by
  refine Ex.one (Ex1.iff (Tt.isF (g_state ok rfl)) ?_)
  repeat' (k_extra "h x")
theorem m5_qt {c : SC} (ok : c.Ok) {n : Nat} {tok : List Nat} {q : Bool} {ch : Nat} (hch : ch = 34) (hT2 : (tx tok).length + (⟨#[ch]⟩ : Str).length ≤ sizeLine) : Ex c ⟨n, some (Str.ofString "\\"), tx tok, some ⟨#[ch]⟩, Str.ofString "\"", q⟩ rtBig .next ⟨n, some (Str.ofString "\""), (tx tok ++ ⟨#[ch]⟩), some ⟨#[ch]⟩, Str.ofString "\"", q⟩ := by
  have _ := ne_t lit_bs (show ch ≠ 92 by omega)
  have _ := ne_f lit_qt hch
  refine Ex.one (Ex1.iff (Tt.isF (g_state ok rfl)) ?_)
  repeat' (k_extra "h x")
theorem m5_bs {c : SC} (ok : c.Ok) {n : Nat} {tok : List Nat} {q : Bool} {ch : Nat} (hch : ch = 92) (hT2 : (tx tok).length + (⟨#[ch]⟩ : Str).length ≤ sizeLine) : Ex c ⟨n, some (Str.ofString "\\"), tx tok, some ⟨#[ch]⟩, Str.ofString "\"", q⟩ rtBig .next ⟨n, some (Str.ofString "\""), (tx tok ++ ⟨#[ch]⟩), some ⟨#[ch]⟩, Str.ofString "\"", q⟩ := by
  have _ := ne_f lit_bs hch
  refine Ex.one (Ex1.iff (Tt.isF (g_state ok rfl)) ?_)
  repeat' (k_extra "h x")
theorem m5_c {c : SC} (ok : c.Ok) {n : Nat} {tok : List Nat} {q : Bool} {ch : Nat} (hch : ch ≠ 34) (hch2 : ch ≠ 92) (hT3 : (tx tok).length + (Str.ofString "\\").length ≤ sizeLine) (hT2 : (tx tok ++ Str.ofString "\\").length + (⟨#[ch]⟩ : Str).length ≤ sizeLine) : Ex c ⟨n, some (Str.ofString "\\"), tx tok, some ⟨#[ch]⟩, Str.ofString "\"", q⟩ rtBig .next ⟨n, some (Str.ofString "\""), (tx tok ++ Str.ofString "\\" ++ ⟨#[ch]⟩), some ⟨#[ch]⟩, Str.ofString "\"", q⟩ := by
  have _ := ne_t lit_bs hch2
  have _ := ne_t lit_qt hch
  refine Ex.one (Ex1.iff (Tt.isF (g_state ok rfl)) ?_)
  repeat' (k_extra "h x")
theorem m2_e {c : SC} (ok : c.Ok) {n : Nat} {tok : List Nat} {es : Str} {q : Bool} : Rz c ⟨n, some (Str.ofString "'"), tx tok, some (Str.ofString ""), es, q⟩ rtBig := by
  refine Rz.iff (Tt.isF (g_state ok rfl)) ?_
  repeat' (k_extra "h r")
theorem m3_e {c : SC} (ok : c.Ok) {n : Nat} {tok : List Nat} {es : Str} {q : Bool} : Rz c ⟨n, some (Str.ofString "\""), tx tok, some (Str.ofString ""), es, q⟩ rtBig := by
  refine Rz.iff (Tt.isF (g_state ok rfl)) ?_
  repeat' (k_extra "h r")
theorem m4_e {c : SC} (ok : c.Ok) {n : Nat} {tok : List Nat} {q : Bool} : Rz c ⟨n, some (Str.ofString "\\"), tx tok, some (Str.ofString ""), Str.ofString "a", q⟩ rtBig := by
  refine Rz.iff (Tt.isF (g_state ok rfl)) ?_
  repeat' (k_extra "h r")
theorem m5_e {c : SC} (ok : c.Ok) {n : Nat} {tok : List Nat} {q : Bool} : Rz c ⟨n, some (Str.ofString "\\"), tx tok, some (Str.ofString ""), Str.ofString "\"", q⟩ rtBig := by
  refine Rz.iff (Tt.isF (g_state ok rfl)) ?_
  repeat' (k_extra "h r")
theorem m1_cm {c : SC} (ok : c.Ok) {n : Nat} {tok : List Nat} {es : Str} {q : Bool} {ch : Nat} (hch : ch = 35) (hT : (tx tok).length ≤ 1000000) (ht : tok ≠ [] ∨ q = true) (hn : n ≤ c.S.length) : Cm c ⟨n, some (Str.ofString "a"), tx tok, some ⟨#[ch]⟩, es, q⟩ rtBig := by
  obtain ⟨_, _, _⟩ := fct_cm hch
  refine Cm.iff (Tt.isF (g_state ok rfl)) ?_
  rcases ht with ht | rfl
  · have _ := tok_truth ht
    repeat' (k_extra "h c")
  · rcases tok with _ | ⟨z, tok⟩
    · repeat' (k_extra "h c")
    · have _ := tok_truth (List.cons_ne_nil z tok)
      repeat' (k_extra "h c")
end Mine
end
section
open PySem PySem.W PyProof.Rows PySem.Calls PySem.Spec PyProof
set_option Elab.async false
set_option maxRecDepth 100000
set_option maxHeartbeats 8000000
namespace Mine
noncomputable def fnL : FuncBody → List Stmt
  | .stmts l => l
  | _ => []
noncomputable def rtR : List Stmt := tl9 (tl9 (tl9 (fnL (fB [26, 6]))))
local macro_rules | `(tactic| walk_at "truthy str") => `(tactic| (k_here; k_dflt (refine' tr_yes ?hx ?hf ?_; (case hx => with_reducible assumption); (case hf => first | exact Nat.le_of_ble_eq_true rfl | exact Nat.le_trans (by assumption) (Nat.le_of_ble_eq_true rfl) | omega))))
local macro_rules | `(tactic| walk_at "truthy str") => `(tactic| (k_here; with_reducible refine tr_no0 ?_))
theorem rules_HR6_0 : True := by
  w_top off
  k_with_none
  (k_with "k tr" => (first | with_reducible assumption | (refine Nat.lt_trans (by with_reducible assumption) ?_; k_extra "k tr")))
  (k_with "k all" => assumption)
  (k_with "exec If" => ((with_reducible show wpAny _ _ (exec (Stmt.If _ _ (_ :: _) _) _) _ _ _); refine wpAny_If ?_))
  (k_with "execs cons" => (k_here; first | (with_unfolding_all (refine gen_toks0 (Nat.succ_pos _) ?_); intro tk') | with_reducible refine execs_one ?_ | ((with_reducible refine wpAny_execs_cons ?_); (try dsimp only); try k_fold)))
  (k_with "call builtin:str.replace" => (k_here; k_dflt (refine' rep_rule (hx := ?hx) (hy := ?hy) (hz := ?hz) ?hu ?hv ?huv ?hyz ?hb ?hb2 ?_); (case hx => first | exact lit_ap | exact rfl); (case hy => first | exact lit_bs | exact lit_nl | exact lit_tb | exact lit_ap); (case hz => first | exact lit_bs2 | exact lit_bn | exact lit_bt | exact lit_n | exact lit_t | exact lit_q5); (case hu => (show @Ne Nat _ _); (try dsimp only); omega); (case hv => (show @Ne Nat _ _); (try dsimp only); omega); (case huv => (show @Ne Nat _ _); (try dsimp only); omega); (case hyz => decide +kernel); (case hb => first | assumption | omega); (case hb2 => decide); intro t' k' hk'; (try dsimp only at hk')))
  (k_with "call builtin:repr" => (k_here; k_dflt (refine repr_of_str ?_ ?hsz); (case hsz => assumption)))
  (k_with "ShEnd brk" => (k_dflt (refine sh_brk ?_)))
  (k_with "ite" => (k_closed; k_dflt (first | refine ite_pos (by decide +kernel) ?_ | refine ite_neg (by decide +kernel) ?_)))
  trivial
theorem fin1 {c : SC} (ok : c.Ok) {n : Nat} {tok : List Nat} {st nc : Option Str} {es : Str} {q : Bool} (ht : tok ≠ []) (hT : (tx tok).length ≤ 8000) : ∀ (Q : Flow → Shared → Prop) (E : Value → Shared → Prop) (s : Shared), At c ⟨n, st, tx tok, nc, es, q⟩ s → (∀ (h' : Heap) (tk' : Nat) (k : Tok) (m' : Str → Option Value) (sv : Value) (ln : Int) (u1 u2 i6 : Tok), Fr c.h₀ c.L h' m' → stOk st sv → News c.h₀ c.L h' (c.led sv ln n (Str.ofString "") u1 u2 i6) → Q (.ret (.str (tx tok) k)) ⟨h', c.s.gens, c.s.drawn, tk', c.s.os⟩) → wpAny c.M c.D (execs rtR c.E) Q E s := by
  obtain ⟨w, pg, loose, mean, mg, mb, dp, un, gd, env, outer, base, h₀, L, s, S, x1, dx1, x, d, pb, fs, κ, rest, m₀⟩ := c
  obtain ⟨B, X, T, hdp, hun, hS, o1, o2, o3, o4, o5, off1, off2, foo⟩ := ok
  rintro Q E s9 ⟨h, tk, nv, k2, sv, ln, u1, u2, i6, rfl, hnc, hst, F, N⟩ hQ
  dsimp only [SC.M, SC.D, SC.A, SC.E, SC.led, SC.map] at *
  revert foo X
  k_fill
  intro X foo
  clear foo
  replace F : Fr h₀ L h (fun z => if z = Str.ofString "nextchar" then nv else if z = Str.ofString "escapedstate" then some (.str es k2) else if z = Str.ofString "quoted" then some (.bool q) else if z = Str.ofString "self" then some (.ref x) else m₀ z) := F
  (try dsimp only at *)
  refine wpAny_execs_cons ?_
  have _ := tok_truth ht
  have _ := tok_empty ht
  have _ := tok_len ht
  k_steps
  all_goals exact hQ _ _ _ _ _ _ _ _ _ (by k_asm) hst (by k_asm)
theorem fin2 {c : SC} (ok : c.Ok) {n : Nat} {tok : List Nat} {st nc : Option Str} {es : Str} {q : Bool} (hq : q = true) (hT : (tx tok).length ≤ 8000) : ∀ (Q : Flow → Shared → Prop) (E : Value → Shared → Prop) (s : Shared), At c ⟨n, st, tx tok, nc, es, q⟩ s → (∀ (h' : Heap) (tk' : Nat) (k : Tok) (m' : Str → Option Value) (sv : Value) (ln : Int) (u1 u2 i6 : Tok), Fr c.h₀ c.L h' m' → stOk st sv → News c.h₀ c.L h' (c.led sv ln n (Str.ofString "") u1 u2 i6) → Q (.ret (.str (tx tok) k)) ⟨h', c.s.gens, c.s.drawn, tk', c.s.os⟩) → wpAny c.M c.D (execs rtR c.E) Q E s := by
  obtain ⟨w, pg, loose, mean, mg, mb, dp, un, gd, env, outer, base, h₀, L, s, S, x1, dx1, x, d, pb, fs, κ, rest, m₀⟩ := c
  obtain ⟨B, X, T, hdp, hun, hS, o1, o2, o3, o4, o5, off1, off2, foo⟩ := ok
  rintro Q E s9 ⟨h, tk, nv, k2, sv, ln, u1, u2, i6, rfl, hnc, hst, F, N⟩ hQ
  dsimp only [SC.M, SC.D, SC.A, SC.E, SC.led, SC.map] at *
  revert foo X
  k_fill
  intro X foo
  clear foo
  replace F : Fr h₀ L h (fun z => if z = Str.ofString "nextchar" then nv else if z = Str.ofString "escapedstate" then some (.str es k2) else if z = Str.ofString "quoted" then some (.bool q) else if z = Str.ofString "self" then some (.ref x) else m₀ z) := F
  (try dsimp only at *)
  refine wpAny_execs_cons ?_
  subst hq
  k_steps
  all_goals exact hQ _ _ _ _ _ _ _ _ _ (by k_asm) hst (by k_asm)
theorem fin3 {c : SC} (ok : c.Ok) {n : Nat} {tok : List Nat} {st nc : Option Str} {es : Str} {q : Bool} (ht : tok = []) (hq : q = false) : ∀ (Q : Flow → Shared → Prop) (E : Value → Shared → Prop) (s : Shared), At c ⟨n, st, tx tok, nc, es, q⟩ s → (∀ (h' : Heap) (tk' : Nat) (m' : Str → Option Value) (sv : Value) (ln : Int) (u1 u2 i6 : Tok), Fr c.h₀ c.L h' m' → stOk st sv → News c.h₀ c.L h' (c.led sv ln n (Str.ofString "") u1 u2 i6) → Q (.ret .none) ⟨h', c.s.gens, c.s.drawn, tk', c.s.os⟩) → wpAny c.M c.D (execs rtR c.E) Q E s := by
  obtain ⟨w, pg, loose, mean, mg, mb, dp, un, gd, env, outer, base, h₀, L, s, S, x1, dx1, x, d, pb, fs, κ, rest, m₀⟩ := c
  obtain ⟨B, X, T, hdp, hun, hS, o1, o2, o3, o4, o5, off1, off2, foo⟩ := ok
  rintro Q E s9 ⟨h, tk, nv, k2, sv, ln, u1, u2, i6, rfl, hnc, hst, F, N⟩ hQ
  dsimp only [SC.M, SC.D, SC.A, SC.E, SC.led, SC.map] at *
  revert foo X
  k_fill
  intro X foo
  clear foo
  replace F : Fr h₀ L h (fun z => if z = Str.ofString "nextchar" then nv else if z = Str.ofString "escapedstate" then some (.str es k2) else if z = Str.ofString "quoted" then some (.bool q) else if z = Str.ofString "self" then some (.ref x) else m₀ z) := F
  (try dsimp only at *)
  refine wpAny_execs_cons ?_
  subst hq ht
  k_steps
  all_goals exact hQ _ _ _ _ _ _ _ _ (by k_asm) hst (by k_asm)
end Mine
end
section
open PySem PySem.W PyProof.Rows PySem.Calls PySem.Spec PyProof
set_option Elab.async false
set_option maxRecDepth 100000
set_option maxHeartbeats 8000000
namespace Mine
theorem rules_HR7_0 : True := by
  w_top off
  k_with_none
  (k_with "k tr" => (first | with_reducible assumption | (refine Nat.lt_trans (by with_reducible assumption) ?_; k_extra "k tr")))
  (k_with "k all" => assumption)
  trivial
theorem rtk_turn {c : SC} (ok : c.Ok) {n : Nat} {st es : Str} {q : Bool} {tok : List Nat} {nc : Option Str} {out : List Nat × List Nat × Nat} (hG : Gm out st es q tok (c.S.cps.toList.drop n)) (hn : n ≤ c.S.length) (h4 : out.2.2 ≠ 4)
  {Q : Flow → Shared → Prop} {E : Value → Shared → Prop} {s : Shared} (hs : At c ⟨n, some st, tx tok, nc, es, q⟩ s)
  (go : ∀ n' st' es' q' tok' nc' s', n < n' → n' ≤ c.S.length → Gm out st' es' q' tok' (c.S.cps.toList.drop n') → At c ⟨n', some st', tx tok', nc', es', q'⟩ s' → Q .next s')
  (b0 : ∀ n' tok' r nc' es' q' s', out = (tok', r, 0) → n' ≤ c.S.length → c.S.cps.toList.drop n' = r → (tok' ≠ [] ∨ q' = true) → tok'.length ≤ 8000 → At c ⟨n', some (Str.ofString " "), tx tok', nc', es', q'⟩ s' → Q .brk s')
  (b1 : ∀ n' tok' r nc' es' q' s', out = (tok', r, 1) → n' = c.S.length → (tok' ≠ [] ∨ q' = true) → tok'.length ≤ 8000 → At c ⟨n', none, tx tok', nc', es', q'⟩ s' → Q .brk s')
  (b3 : ∀ n' tok' r nc' es' q' s', out = (tok', r, 3) → n' ≤ c.S.length → (tok' ≠ [] ∨ q' = true) → tok'.length ≤ 8000 → At c ⟨n', some (Str.ofString " "), tx tok', nc', es', q'⟩ s' → Q .brk s')
  (b5 : ∀ n' r nc' es' s', out = ([], r, 5) → n' = c.S.length → At c ⟨n', none, tx [], nc', es', false⟩ s' → Q .brk s')
  (rz : ∀ (t9 r : List Nat), out = (t9, r, 2) → ∀ (e : Addr) (h' : Heap) (tk' : Nat), RaisedSN c.base c.h₀ (c.env :: c.outer) e (.type "ValueError") c.rest h' → c.h₀.UpToSlots h' → E (.ref e) ⟨h', c.s.gens, c.s.drawn, tk', c.s.os⟩) :
  wpAny c.M c.D (execs rtB c.E) Q (fun e s' => wpAny c.M c.D (leaving c.E e) (fun _ s'' => E e s'') (fun e' s'' => E e' s'') s') s := by
  have hc0 : n = c.S.length ∨ ∃ ch, c.S.cps[n]? = some ch := by
    rcases Nat.lt_or_ge n c.S.cps.size with h | h
    · exact .inr ⟨_, Array.getElem?_eq_getElem h⟩
    · exact .inl (Nat.le_antisymm hn h)
  obtain ⟨hB, hG⟩ := hG
  rcases hG with ⟨rfl, rfl, rfl, hG⟩ | ⟨rfl, ht, hG⟩ | ⟨rfl, hG⟩ | ⟨rfl, hG⟩ | ⟨rfl, rfl, hG⟩ | ⟨rfl, rfl, hG⟩
  · rcases hc0 with he | ⟨ch, hc⟩
    · rw [drop_all he, s0_e] at hG
      exact pre_e ok he (m0_e ok) Q _ s hs (fun s' hs' => b5 _ _ _ _ s' hG.symm he hs')
    · have hlt := lt_of_get hc
      rw [drop_cons hc] at hG hB
      simp only [List.length_cons] at hB
      have hcl := s0_class _ _ (hG ▸ h4)
      rcases hcl with hch | hch | hch
      · rw [s0_ap hch] at hG
        refine pre_ch ok hc (m0_ap ok hch) Q _ s hs (fun s' hs' => ?_)
        exact go (n + 1) ⟨#[ch]⟩ es false [] _ s' (Nat.lt_succ_self _) hlt ⟨by (try simp only [List.length_append, List.length_cons, List.length_nil]); omega, Or.inr (Or.inr (Or.inl ⟨(by rw [hch, lit_ap]), hG⟩))⟩ hs'
      · rw [s0_qt hch] at hG
        refine pre_ch ok hc (m0_qt ok hch) Q _ s hs (fun s' hs' => ?_)
        exact go (n + 1) ⟨#[ch]⟩ es false [] _ s' (Nat.lt_succ_self _) hlt ⟨by (try simp only [List.length_append, List.length_cons, List.length_nil]); omega, Or.inr (Or.inr (Or.inr (Or.inl ⟨(by rw [hch, lit_qt]), hG⟩)))⟩ hs'
      · rw [s0_let hch] at hG
        refine pre_ch ok hc (m0_let ok hch) Q _ s hs (fun s' hs' => ?_)
        exact go (n + 1) (Str.ofString "a") es false [ch] _ s' (Nat.lt_succ_self _) hlt ⟨by (try simp only [List.length_append, List.length_cons, List.length_nil]); omega, Or.inr (Or.inl ⟨rfl, .inl (List.cons_ne_nil _ _), hG⟩)⟩ hs'
  · rcases hc0 with he | ⟨ch, hc⟩
    · rw [drop_all he, sa_e] at hG
      exact pre_e ok he (m1_e ok) Q _ s hs (fun s' hs' => b1 _ _ _ _ _ _ s' hG.symm he ht (by omega) hs')
    · have hlt := lt_of_get hc
      rw [drop_cons hc] at hG hB
      simp only [List.length_cons] at hB
      have hT2 : (tx tok).length + (⟨#[ch]⟩ : Str).length ≤ sizeLine := by rw [tx_len, sizeLine_eq]; show tok.length + 1 ≤ _; omega
      have hT : (tx tok).length ≤ 1000000 := by rw [tx_len]; omega
      have hcl := sa_class _ _ _ (hG ▸ h4)
      rcases hcl with hch | hch | hch | hch | hch | hch
      · rw [sa_ws hch] at hG
        exact pre_ch ok hc (m1_ws ok hch hT ht) Q _ s hs (fun s' hs' => b0 _ _ _ _ _ _ s' hG.symm hlt rfl ht (by omega) hs')
      · rw [sa_cm hch] at hG
        exact pre_cm ok hc (m1_cm ok hch hT ht hlt) Q _ s hs (fun n' nc' s' hn' hs' => b3 _ _ _ _ _ _ s' hG.symm hn' ht (by omega) hs')
      · rw [sa_ap hch] at hG
        refine pre_ch ok hc (m1_ap ok hch) Q _ s hs (fun s' hs' => ?_)
        exact go (n + 1) ⟨#[ch]⟩ es q tok _ s' (Nat.lt_succ_self _) hlt ⟨by (try simp only [List.length_append, List.length_cons, List.length_nil]); omega, Or.inr (Or.inr (Or.inl ⟨(by rw [hch, lit_ap]), hG⟩))⟩ hs'
      · rw [sa_qt hch] at hG
        refine pre_ch ok hc (m1_qt ok hch) Q _ s hs (fun s' hs' => ?_)
        exact go (n + 1) ⟨#[ch]⟩ es q tok _ s' (Nat.lt_succ_self _) hlt ⟨by (try simp only [List.length_append, List.length_cons, List.length_nil]); omega, Or.inr (Or.inr (Or.inr (Or.inl ⟨(by rw [hch, lit_qt]), hG⟩)))⟩ hs'
      · rw [sa_bs hch] at hG
        refine pre_ch ok hc (m1_bs ok hch) Q _ s hs (fun s' hs' => ?_)
        exact go (n + 1) ⟨#[ch]⟩ (Str.ofString "a") q tok _ s' (Nat.lt_succ_self _) hlt ⟨by (try simp only [List.length_append, List.length_cons, List.length_nil]); omega, Or.inr (Or.inr (Or.inr (Or.inr (Or.inl ⟨(by rw [hch, lit_bs]), rfl, hG⟩))))⟩ hs'
      · rw [sa_let hch] at hG
        refine pre_ch ok hc (m1_let ok hch hT2) Q _ s hs (fun s' hs' => ?_)
        rw [show (⟨#[ch]⟩ : Str) = tx [ch] from rfl, tx_app] at hs'; exact go (n + 1) (Str.ofString "a") es q (tok ++ [ch]) _ s' (Nat.lt_succ_self _) hlt ⟨by (try simp only [List.length_append, List.length_cons, List.length_nil]); omega, Or.inr (Or.inl ⟨rfl, .inl (by simp), hG⟩)⟩ hs'
  · rcases hc0 with he | ⟨ch, hc⟩
    · rw [drop_all he, sq_e] at hG
      exact pre_rz ok he (m2_e ok) Q E s hs (rz _ _ hG.symm)
    · have hlt := lt_of_get hc
      rw [drop_cons hc] at hG hB
      simp only [List.length_cons] at hB
      have hT2 : (tx tok).length + (⟨#[ch]⟩ : Str).length ≤ sizeLine := by rw [tx_len, sizeLine_eq]; show tok.length + 1 ≤ _; omega
      by_cases hch : ch = 39
      · rw [sq_q hch] at hG
        refine pre_ch ok hc (m2_ap ok hch) Q _ s hs (fun s' hs' => ?_)
        exact go (n + 1) (Str.ofString "a") es true tok _ s' (Nat.lt_succ_self _) hlt ⟨by (try simp only [List.length_append, List.length_cons, List.length_nil]); omega, Or.inr (Or.inl ⟨rfl, .inr rfl, hG⟩)⟩ hs'
      · rw [sq_c hch] at hG
        refine pre_ch ok hc (m2_c ok hch hT2) Q _ s hs (fun s' hs' => ?_)
        rw [show (⟨#[ch]⟩ : Str) = tx [ch] from rfl, tx_app] at hs'; exact go (n + 1) (Str.ofString "'") es true (tok ++ [ch]) _ s' (Nat.lt_succ_self _) hlt ⟨by (try simp only [List.length_append, List.length_cons, List.length_nil]); omega, Or.inr (Or.inr (Or.inl ⟨rfl, hG⟩))⟩ hs'
  · rcases hc0 with he | ⟨ch, hc⟩
    · rw [drop_all he, sd_e] at hG
      exact pre_rz ok he (m3_e ok) Q E s hs (rz _ _ hG.symm)
    · have hlt := lt_of_get hc
      rw [drop_cons hc] at hG hB
      simp only [List.length_cons] at hB
      have hT2 : (tx tok).length + (⟨#[ch]⟩ : Str).length ≤ sizeLine := by rw [tx_len, sizeLine_eq]; show tok.length + 1 ≤ _; omega
      by_cases hch : ch = 34
      · rw [sd_q hch] at hG
        refine pre_ch ok hc (m3_qt ok hch) Q _ s hs (fun s' hs' => ?_)
        exact go (n + 1) (Str.ofString "a") es true tok _ s' (Nat.lt_succ_self _) hlt ⟨by (try simp only [List.length_append, List.length_cons, List.length_nil]); omega, Or.inr (Or.inl ⟨rfl, .inr rfl, hG⟩)⟩ hs'
      · by_cases hch2 : ch = 92
        · rw [sd_b hch2] at hG
          refine pre_ch ok hc (m3_bs ok hch2) Q _ s hs (fun s' hs' => ?_)
          exact go (n + 1) ⟨#[ch]⟩ (Str.ofString "\"") true tok _ s' (Nat.lt_succ_self _) hlt ⟨by (try simp only [List.length_append, List.length_cons, List.length_nil]); omega, Or.inr (Or.inr (Or.inr (Or.inr (Or.inr ⟨(by rw [hch2, lit_bs]), rfl, hG⟩))))⟩ hs'
        · rw [sd_c hch hch2] at hG
          refine pre_ch ok hc (m3_c ok hch hch2 hT2) Q _ s hs (fun s' hs' => ?_)
          rw [show (⟨#[ch]⟩ : Str) = tx [ch] from rfl, tx_app] at hs'; exact go (n + 1) (Str.ofString "\"") es true (tok ++ [ch]) _ s' (Nat.lt_succ_self _) hlt ⟨by (try simp only [List.length_append, List.length_cons, List.length_nil]); omega, Or.inr (Or.inr (Or.inr (Or.inl ⟨rfl, hG⟩)))⟩ hs'
  · rcases hc0 with he | ⟨ch, hc⟩
    · rw [drop_all he, se_e] at hG
      exact pre_rz ok he (m4_e ok) Q E s hs (rz _ _ hG.symm)
    · have hlt := lt_of_get hc
      rw [drop_cons hc] at hG hB
      simp only [List.length_cons] at hB
      have hT2 : (tx tok).length + (⟨#[ch]⟩ : Str).length ≤ sizeLine := by rw [tx_len, sizeLine_eq]; show tok.length + 1 ≤ _; omega
      rw [se_c] at hG
      refine pre_ch ok hc (m4_c ok hT2) Q _ s hs (fun s' hs' => ?_)
      rw [show (⟨#[ch]⟩ : Str) = tx [ch] from rfl, tx_app] at hs'; exact go (n + 1) (Str.ofString "a") (Str.ofString "a") q (tok ++ [ch]) _ s' (Nat.lt_succ_self _) hlt ⟨by (try simp only [List.length_append, List.length_cons, List.length_nil]); omega, Or.inr (Or.inl ⟨rfl, .inl (by simp), hG⟩)⟩ hs'
  · rcases hc0 with he | ⟨ch, hc⟩
    · rw [drop_all he, sde_e] at hG
      exact pre_rz ok he (m5_e ok) Q E s hs (rz _ _ hG.symm)
    · have hlt := lt_of_get hc
      rw [drop_cons hc] at hG hB
      simp only [List.length_cons] at hB
      have hT2 : (tx tok).length + (⟨#[ch]⟩ : Str).length ≤ sizeLine := by rw [tx_len, sizeLine_eq]; show tok.length + 1 ≤ _; omega
      by_cases hch : ch = 34 ∨ ch = 92
      · rw [sde_s hch] at hG
        rcases hch with hch | hch
        · refine pre_ch ok hc (m5_qt ok hch hT2) Q _ s hs (fun s' hs' => ?_)
          rw [show (⟨#[ch]⟩ : Str) = tx [ch] from rfl, tx_app] at hs'; exact go (n + 1) (Str.ofString "\"") (Str.ofString "\"") q (tok ++ [ch]) _ s' (Nat.lt_succ_self _) hlt ⟨by (try simp only [List.length_append, List.length_cons, List.length_nil]); omega, Or.inr (Or.inr (Or.inr (Or.inl ⟨rfl, hG⟩)))⟩ hs'
        · refine pre_ch ok hc (m5_bs ok hch hT2) Q _ s hs (fun s' hs' => ?_)
          rw [show (⟨#[ch]⟩ : Str) = tx [ch] from rfl, tx_app] at hs'; exact go (n + 1) (Str.ofString "\"") (Str.ofString "\"") q (tok ++ [ch]) _ s' (Nat.lt_succ_self _) hlt ⟨by (try simp only [List.length_append, List.length_cons, List.length_nil]); omega, Or.inr (Or.inr (Or.inr (Or.inl ⟨rfl, hG⟩)))⟩ hs'
      · have hch1 : ch ≠ 34 := fun e => hch (.inl e)
        have hch2 : ch ≠ 92 := fun e => hch (.inr e)
        rw [sde_o hch1 hch2] at hG
        have hT3 : (tx tok).length + (Str.ofString "\\").length ≤ sizeLine := by rw [tx_len, sizeLine_eq, lit_bs, tx_len]; show tok.length + 1 ≤ _; omega
        have hT4 : (tx tok ++ Str.ofString "\\").length + (⟨#[ch]⟩ : Str).length ≤ sizeLine := by rw [lit_bs, tx_app, tx_len, sizeLine_eq, List.length_append]; show tok.length + 1 + 1 ≤ _; omega
        refine pre_ch ok hc (m5_c ok hch1 hch2 hT3 hT4) Q _ s hs (fun s' hs' => ?_)
        rw [lit_bs, tx_app, show (⟨#[ch]⟩ : Str) = tx [ch] from rfl, tx_app] at hs'; exact go (n + 1) (Str.ofString "\"") (Str.ofString "\"") q (tok ++ [92] ++ [ch]) _ s' (Nat.lt_succ_self _) hlt ⟨by (try simp only [List.length_append, List.length_cons, List.length_nil]); omega, Or.inr (Or.inr (Or.inr (Or.inl ⟨rfl, hG⟩)))⟩ hs'

end Mine
end
section
open PySem PySem.W PyProof.Rows PySem.Calls PySem.Spec PyProof
set_option Elab.async false
set_option maxRecDepth 100000
set_option maxHeartbeats 8000000
namespace Mine
theorem rules_HR8_0 : True := by
  w_top off
  k_with_none
  (k_with "k tr" => (first | with_reducible assumption | (refine Nat.lt_trans (by with_reducible assumption) ?_; k_extra "k tr")))
  (k_with "k all" => assumption)
  (k_with "exec If" => ((with_reducible show wpAny _ _ (exec (Stmt.If _ _ (_ :: _) _) _) _ _ _); refine wpAny_If ?_))
  (k_with "execs cons" => (k_here; first | (with_unfolding_all (refine gen_toks0 (Nat.succ_pos _) ?_); intro tk') | with_reducible refine execs_one ?_ | ((with_reducible refine wpAny_execs_cons ?_); (try dsimp only); try k_fold)))
  (k_with "call builtin:str.replace" => (k_here; k_dflt (refine' rep_rule (hx := ?hx) (hy := ?hy) (hz := ?hz) ?hu ?hv ?huv ?hyz ?hb ?hb2 ?_); (case hx => first | exact lit_ap | exact rfl); (case hy => first | exact lit_bs | exact lit_nl | exact lit_tb | exact lit_ap); (case hz => first | exact lit_bs2 | exact lit_bn | exact lit_bt | exact lit_n | exact lit_t | exact lit_q5); (case hu => (show @Ne Nat _ _); (try dsimp only); omega); (case hv => (show @Ne Nat _ _); (try dsimp only); omega); (case huv => (show @Ne Nat _ _); (try dsimp only); omega); (case hyz => decide +kernel); (case hb => first | assumption | omega); (case hb2 => decide); intro t' k' hk'; (try dsimp only at hk')))
  (k_with "call builtin:repr" => (k_here; k_dflt (refine repr_of_str ?_ ?hsz); (case hsz => assumption)))
  trivial
theorem true_test {M : Model} {A : Around} {E : Value → Shared → Prop} {s : Shared} {env : Env} {k : Nat} {p : Pos} {P R : Shared → Prop} (h : P s) : wpAny M A (PySem.isTrue (.Constant (.bool true) k p) env (eval (.Constant (.bool true) k p) env)) (fun b s₂ => if b = true then P s₂ else R s₂) E s :=
  isTrue_plain (Constant_bool (wpAny_truthy_bool ((if_pos rfl).mpr h)))
theorem map_other {c : SC} {nv : Option Value} {ev : Value} {q : Bool} (hself : c.m₀ (Str.ofString "self") = some (.ref c.x)) : ∀ z, z ≠ Str.ofString "quoted" → z ≠ Str.ofString "escapedstate" → z ≠ Str.ofString "nextchar" → c.map nv ev q z = c.m₀ z := by
  intro z h1 h2 h3
  unfold SC.map
  rw [if_neg h3, if_neg h2, if_neg h1]
  by_cases h : z = Str.ofString "self"
  · rw [if_pos h, h, hself]
  · rw [if_neg h]
theorem at_in {c : SC} {h : Heap} {nv : Option Value} {ev : Value} {q : Bool} (F : Fr c.h₀ c.L h (fun z => if z = Str.ofString "nextchar" then nv else if z = Str.ofString "escapedstate" then some ev else if z = Str.ofString "quoted" then some (.bool q) else c.m₀ z)) (hself : c.m₀ (Str.ofString "self") = some (.ref c.x)) : Fr c.h₀ c.L h (c.map nv ev q) := by
  refine cast (congrArg (Fr c.h₀ c.L h) (funext fun z => ?_)) F
  by_cases h1 : z = Str.ofString "nextchar"
  · subst h1; rfl
  · by_cases h2 : z = Str.ofString "escapedstate"
    · subst h2; rfl
    · by_cases h3 : z = Str.ofString "quoted"
      · subst h3; rfl
      · rw [map_other hself z h3 h2 h1, if_neg h1, if_neg h2, if_neg h3]
theorem fin12 {c : SC} (ok : c.Ok) {n : Nat} {tok : List Nat} {st nc : Option Str} {es : Str} {q : Bool} (ht : tok ≠ [] ∨ q = true) (hT : tok.length ≤ 8000) : ∀ (Q : Flow → Shared → Prop) (E : Value → Shared → Prop) (s : Shared), At c ⟨n, st, tx tok, nc, es, q⟩ s → (∀ (h' : Heap) (tk' : Nat) (k : Tok) (m' : Str → Option Value) (sv : Value) (ln : Int) (u1 u2 i6 : Tok), Fr c.h₀ c.L h' m' → stOk st sv → News c.h₀ c.L h' (c.led sv ln n (Str.ofString "") u1 u2 i6) → Q (.ret (.str (tx tok) k)) ⟨h', c.s.gens, c.s.drawn, tk', c.s.os⟩) → wpAny c.M c.D (execs rtR c.E) Q E s :=
  ht.elim (fun h => fin1 ok h (by rw [tx_len]; exact hT)) (fun h => fin2 ok h (by rw [tx_len]; exact hT))
theorem c_rtk {w : World} {pg : Program} {loose : List Str} {mean : ExcName → Option Value} {mg mb : Str → Option Value}
  {dp un : Nat} {gd : Option (List Code)} {env : Env} {outer : List Env} {A₀ : Around} {base h₀ : Heap} {L : Addr} {m : Str → Option Value} {s : Shared} {Q E : Value → Shared → Prop}
  {x1 dx1 x d pb fs : Addr} {ln : Int} {tw : Str} {u1 u2 k0 k1 k2 k3 k4 k5 k6 k7 k8 k9 k10 k11 k12 k13 k14 k15 k16 k17 k18 v4 v5 v6 v8 v9 v10 v14 v18 i1 i2 i3 i4 i5 i6 : Tok} {u3 : Tok} {S : Str} {n : Nat} {p : Int} {out : List Nat × List Nat × Nat} (hout : s0 (S.cps.toList.drop n) = out) (h4 : out.2.2 ≠ 4) (hp : p = n) (hn : n ≤ S.length) (hS : S.length ≤ 3990) {rest : List (Addr × Obj)} (o1 : @LT.lt Nat _ d x) (o2 : @LT.lt Nat _ x dx1) (o3 : @LT.lt Nat _ dx1 x1) (o4 : @LT.lt Nat _ x1 pb) (o5 : @LT.lt Nat _ pb fs) (off1 : ∀ q ∈ rest, q.1 ≠ d) (off2 : ∀ q ∈ rest, q.1 ≠ dx1) (htw : tw = tx [])
  (N : News h₀ L s.heap ((x1, instObj 647 dx1) :: (dx1, dictOf (sioE w S p i1 i2 i3 i4 i5 i6) 3) :: (x, instObj 782 d) :: (d, dictOf (shlE w x1 pb fs (.str " " u3) ln tw u1 u2 k0 k1 k2 k3 k4 k5 k6 k7 k8 k9 k10 k11 k12 k13 k14 k15 k16 k17 k18 v4 v5 v6 v8 v9 v10 v14 v18) 19) :: (pb, dqObj) :: (fs, dqObj) :: rest))
  (B : Below A₀ base outer h₀) (F : Fr h₀ L s.heap m) (X : (Mine.K w.params).In h₀) (T : Top pg loose mean mg mb h₀) (hf : env.frame = some L) (hk : env.scope.kind = .function)
  (hdp : dp + 14 < recursionLimit) (hun : un + 150 < cLine)
  (g0 : ∀ (t9 r : List Nat), out = (t9, r, 0) → ∀ (n' : Nat) (p' ln' : Int) (u1' u2' u3' i6' : Tok) (t : Tok) (h' : Heap) (tk' : Nat), Fr h₀ L h' m → p' = (n' : Int) → n' ≤ S.length → S.cps.toList.drop n' = r → News h₀ L h' ((x1, instObj 647 dx1) :: (dx1, dictOf (sioE w S p' i1 i2 i3 i4 i5 i6') 3) :: (x, instObj 782 d) :: (d, dictOf (shlE w x1 pb fs (.str " " u3') ln' (Str.ofString "") u1' u2' k0 k1 k2 k3 k4 k5 k6 k7 k8 k9 k10 k11 k12 k13 k14 k15 k16 k17 k18 v4 v5 v6 v8 v9 v10 v14 v18) 19) :: (pb, dqObj) :: (fs, dqObj) :: rest) → Q (.str (tx t9) t) { s with heap := h', toks := tk' })
  (g1 : ∀ (t9 r : List Nat), out = (t9, r, 1) → ∀ (p' ln' : Int) (u1' u2' i6' : Tok) (t : Tok) (h' : Heap) (tk' : Nat), Fr h₀ L h' m → p' = (S.length : Int) → News h₀ L h' ((x1, instObj 647 dx1) :: (dx1, dictOf (sioE w S p' i1 i2 i3 i4 i5 i6') 3) :: (x, instObj 782 d) :: (d, dictOf (shlE w x1 pb fs .none ln' (Str.ofString "") u1' u2' k0 k1 k2 k3 k4 k5 k6 k7 k8 k9 k10 k11 k12 k13 k14 k15 k16 k17 k18 v4 v5 v6 v8 v9 v10 v14 v18) 19) :: (pb, dqObj) :: (fs, dqObj) :: rest) → Q (.str (tx t9) t) { s with heap := h', toks := tk' })
  (g2 : ∀ (t9 r : List Nat), out = (t9, r, 2) → ∀ (e : Addr) (g₂ h' : Heap) (tk' : Nat), Fr h₀ L g₂ m → RaisedSN base g₂ (env :: outer) e (.type "ValueError") rest h' → g₂.UpToSlots h' → E (.ref e) { s with heap := h', toks := tk' })
  (g3 : ∀ (t9 r : List Nat), out = (t9, r, 3) → ∀ (p' ln' : Int) (u1' u2' u3' i6' : Tok) (t : Tok) (h' : Heap) (tk' : Nat), Fr h₀ L h' m → 0 ≤ p' → p' ≤ (S.length : Int) → News h₀ L h' ((x1, instObj 647 dx1) :: (dx1, dictOf (sioE w S p' i1 i2 i3 i4 i5 i6') 3) :: (x, instObj 782 d) :: (d, dictOf (shlE w x1 pb fs (.str " " u3') ln' (Str.ofString "") u1' u2' k0 k1 k2 k3 k4 k5 k6 k7 k8 k9 k10 k11 k12 k13 k14 k15 k16 k17 k18 v4 v5 v6 v8 v9 v10 v14 v18) 19) :: (pb, dqObj) :: (fs, dqObj) :: rest) → Q (.str (tx t9) t) { s with heap := h', toks := tk' })
  (g5 : ∀ (t9 r : List Nat), out = (t9, r, 5) → ∀ (p' ln' : Int) (u1' u2' i6' : Tok) (h' : Heap) (tk' : Nat), Fr h₀ L h' m → p' = (S.length : Int) → News h₀ L h' ((x1, instObj 647 dx1) :: (dx1, dictOf (sioE w S p' i1 i2 i3 i4 i5 i6') 3) :: (x, instObj 782 d) :: (d, dictOf (shlE w x1 pb fs .none ln' (Str.ofString "") u1' u2' k0 k1 k2 k3 k4 k5 k6 k7 k8 k9 k10 k11 k12 k13 k14 k15 k16 k17 k18 v4 v5 v6 v8 v9 v10 v14 v18) 19) :: (pb, dqObj) :: (fs, dqObj) :: rest) → Q .none { s with heap := h', toks := tk' }) (foo : PySem.Challenge.rw_in0140_01.foot = 8) :
   wpAny (model PySem.Challenge.rw_in0140_01.row.prog w) (arnd dp un gd env outer) (call (.ref 750) [.ref x]) Q E s := by
  revert foo X
  k_fill
  intro X foo
  refine wpAny_call ?_
  k_dflt ((refine' code_def ?k1 ?k2 ?k3 ?k4 ?k5 ?kA ?kF ?kK ?k6 ?k7 ?k8 ?k9 ?kB ?_ ?c2 ?c3 ?c4 ?c5); (case kA => exact rfl); (case kF => first | exact hf | exact rfl); (case kK => first | exact hk | exact rfl); (case k1 => k_asm); (case k2 => k_asm); (case k3 => k_asm); (case k4 => k_asm); (case k5 => k_asm); (case k6 => k_is); (case k7 => k_is); (case k8 => k_room); (case k9 => first | exact BindsTo.of_eq rfl | exact binds_K (by k_in) rfl (by k_is) rfl rfl rfl); (case c5 => decide); (case kB => exact locs rfl); (case c2 => exact rfl); (case c3 => exact rfl); (case c4 => exact rfl); k_whole; intro g' L' h' FG' F' N' B' X' T'; (try dsimp only); (try k_lift B'); (try k_fold))
  have hT9 : S.cps.size ≤ 3990 := hS
  subst htw
  (repeat' ((fail_if_success (with_reducible show wpAny _ _ (exec (Stmt.While _ _ _ _) _) _ _ _)); (first | (k_unfold; (try dsimp only)) | (k_end; wrow_close) | walk1 | (dsimp only; walk1) | (leave1; walk_say "STEP leave1"; try dsimp only) | fail "no step")))
  (k_dflt (refine' while_sh (S := S) (n := n) (tok := []) (G := Gm out) (F := ?F) (N := ?N) (e1 := ?e1) (e2 := ?e2) (hp := ?hp) (hn := ?hn) (hG := ?hG) (turn := ?_) (hE := ?hE)); (case F => k_asm); (case N => k_asm); (case e1 => exact rfl); (case e2 => exact rfl); (case hp => assumption); (case hn => assumption); (case hG => exact ⟨(by simp; omega), Or.inl ⟨rfl, rfl, rfl, hout⟩⟩); (case hE => first | passes_own | with_unfolding_all passes_own))
  clear N hp hn hout
  intro n1 st es q tok t1 t2 nc p9 ln9 u19 u29 i69 h9 tk9 hp9 hn9 hG F9 N9
  subst hp9
  refine true_test ?_
  have ok : ∀ m₀ : Str → Option Value, SC.Ok ⟨w, pg, loose, mean, mg, mb, dp, un, gd, env, outer, base, g', L', s, S, x1, dx1, x, d, pb, fs, fun i => List.getD [k0, k1, k2, k3, k4, k5, k6, k7, k8, k9, k10, k11, k12, k13, k14, k15, k16, k17, k18, v4, v5, v6, v8, v9, v10, v14, v18, i1, i2, i3, i4, i5] i 0, rest, m₀⟩ := fun _ => ⟨B', X', T', hdp, hun, hS, o1, o2, o3, o4, o5, off1, off2, foo⟩
  refine rtk_turn (ok _) hG hn9 h4 (nc := none) (E := E) ⟨h9, tk9, nc, t2, .str st t1, ln9, u19, u29, i69, rfl, trivial, ⟨t1, rfl⟩, at_in F9 rfl, N9⟩ ?_ ?_ ?_ ?_ ?_ ?_
  · intro n' st' es' q' tok' nc' s' hlt hn' hG' hs'
    obtain ⟨h, tk, nv, k2, sv, ln, u1, u2, i6, rfl, hnc, hst, F9, N9⟩ := hs'
    obtain ⟨k, rfl⟩ := hst
    exact sh_go .next (Or.inl rfl) F9 rfl rfl (map_other rfl) rfl hlt hn' N9 hG'
  · intro n' tok' r nc' es' q' s' ho hn' hr ht hl hs'
    refine sh_brk ?_
    refine fin12 (ok _) ht hl _ _ _ hs' ?_
    intro h9 tk9 k9 m9 sv9 ln9 u19 u29 i69 F9 hst N9
    obtain ⟨u39, rfl⟩ := hst
    k_steps
    all_goals exact g0 _ _ ho _ _ _ _ _ _ _ _ _ _ (by k_asm) rfl hn' hr (by k_asm)
  · intro n' tok' r nc' es' q' s' ho hn' ht hl hs'
    refine sh_brk ?_
    refine fin12 (ok _) ht hl _ _ _ hs' ?_
    intro h9 tk9 k9 m9 sv9 ln9 u19 u29 i69 F9 hst N9
    subst hst hn'
    k_steps
    all_goals exact g1 _ _ ho _ _ _ _ _ _ _ _ (by k_asm) rfl (by k_asm)
  · intro n' tok' r nc' es' q' s' ho hn' ht hl hs'
    refine sh_brk ?_
    refine fin12 (ok _) ht hl _ _ _ hs' ?_
    intro h9 tk9 k9 m9 sv9 ln9 u19 u29 i69 F9 hst N9
    obtain ⟨u39, rfl⟩ := hst
    k_steps
    all_goals exact g3 _ _ ho _ _ _ _ _ _ _ _ _ (by k_asm) (Int.natCast_nonneg _) (Int.ofNat_le.mpr hn') (by k_asm)
  · intro n' r nc' es' s' ho hn' hs'
    refine sh_brk ?_
    refine fin3 (ok _) rfl rfl _ _ _ hs' ?_
    intro h9 tk9 m9 sv9 ln9 u19 u29 i69 F9 hst N9
    subst hst hn'
    k_steps
    all_goals exact g5 _ _ ho _ _ _ _ _ _ _ (by k_asm) rfl (by k_asm)
  · intro t9 r ho e h' tk' R U
    exact g2 _ _ ho _ _ _ _ FG' R U

end Mine
end
section
open PySem PySem.W PyProof.Rows PySem.Calls PySem.Spec PyProof
set_option Elab.async false
set_option maxRecDepth 100000
set_option maxHeartbeats 8000000
namespace Mine
theorem rules_R6_0 : True := by
  w_top off
  k_with_none
  (k_with "k tr" => (first | with_reducible assumption | (refine Nat.lt_trans (by with_reducible assumption) ?_; k_extra "k tr")))
  (k_with "k all" => assumption)
  (k_with "exec If" => ((with_reducible show wpAny _ _ (exec (Stmt.If _ _ (_ :: _) _) _) _ _ _); refine wpAny_If ?_))
  (k_with "execs cons" => (k_here; first | (with_unfolding_all (refine gen_toks0 (Nat.succ_pos _) ?_); intro tk') | with_reducible refine execs_one ?_ | ((with_reducible refine wpAny_execs_cons ?_); (try dsimp only); try k_fold)))
  (k_with "call builtin:str.replace" => (k_here; k_dflt (refine' rep_rule (hx := ?hx) (hy := ?hy) (hz := ?hz) ?hu ?hv ?huv ?hyz ?hb ?hb2 ?_); (case hx => first | exact lit_ap | exact rfl); (case hy => first | exact lit_bs | exact lit_nl | exact lit_tb | exact lit_ap); (case hz => first | exact lit_bs2 | exact lit_bn | exact lit_bt | exact lit_n | exact lit_t | exact lit_q5); (case hu => (show @Ne Nat _ _); (try dsimp only); omega); (case hv => (show @Ne Nat _ _); (try dsimp only); omega); (case huv => (show @Ne Nat _ _); (try dsimp only); omega); (case hyz => decide +kernel); (case hb => first | assumption | omega); (case hb2 => decide); intro t' k' hk'; (try dsimp only at hk')))
  (k_with "call builtin:repr" => (k_here; k_dflt (refine repr_of_str ?_ ?hsz); (case hsz => assumption)))
  trivial
theorem ws_brk {h₀ : Heap} {L : Addr} {s : Shared} {J : Nat → (Str → Option Value) → List (Addr × Obj) → Prop} {Q : Flow → Shared → Prop} {n : Nat} {s₃ : Shared} (h : Q .next s₃) : WhileStep2 h₀ L s J Q n .brk s₃ := h
theorem g_state0 {c : SC} (ok : c.Ok) {t : TS} {p1 p2 : Pos} (e : t.st = none) : Ev c t (.Attribute (.Name (Str.ofString "self") p1) (Str.ofString "state") p2) (fun v => v = .none) := by
  obtain ⟨w, pg, loose, mean, mg, mb, dp, un, gd, env, outer, base, h₀, L, s, S, x1, dx1, x, d, pb, fs, κ, rest, m₀⟩ := c
  obtain ⟨B, X, T, hdp, hun, hS, o1, o2, o3, o4, o5, off1, off2, foo⟩ := ok
  rintro Q E s9 ⟨h, tk, nv, k2, sv, ln, u1, u2, i6, rfl, hnc, hst, F, N⟩ hQ
  dsimp only [SC.M, SC.D, SC.A, SC.E, SC.led, SC.map] at *
  revert foo X
  k_fill
  intro X foo
  clear foo
  rw [e] at hst
  cases hst
  have hst : stOk t.st .none := by rw [e]; rfl
  k_steps
  exact hQ _ _ rfl ⟨_, _, _, _, _, _, _, _, _, rfl, hnc, hst, by k_asm, by k_asm⟩
theorem Tt.isT {c : SC} {t : TS} {l : Expr} {p p2 : Pos} {k0 : Nat} (a : Ev c t l (fun v => v = .none)) : Tt c t (.Compare l [.Is] [.Constant .none k0 p2] p) true := fun Q E _ hs h =>
  wpAny_isTrue_Compare1 (a _ E _ hs (fun v s1 hv hs1 => by
    subst hv
    refine wpAny_Constant_none ?_
    k_steps
    exact h _ (hs1.tok _)))
theorem m6_e {c : SC} (ok : c.Ok) {n : Nat} {tok es : Str} {q : Bool} : Ex c ⟨n, none, tok, some (Str.ofString ""), es, q⟩ rtBig .brk ⟨n, none, Str.ofString "", some (Str.ofString ""), es, q⟩ := by
  exact Ex.one (Ex1.ift (Tt.isT (g_state0 ok rfl)) (Ex.cons (s_token_lit9 ok) (Ex.one Ex1.brk)))
theorem at_in0 {c : SC} {h : Heap} {ev : Value} {q : Bool} (F : Fr c.h₀ c.L h (fun z => if z = Str.ofString "escapedstate" then some ev else if z = Str.ofString "quoted" then some (.bool q) else c.m₀ z)) (hself : c.m₀ (Str.ofString "self") = some (.ref c.x)) : Fr c.h₀ c.L h (c.map (c.m₀ (Str.ofString "nextchar")) ev q) := by
  refine at_in (cast (congrArg (Fr c.h₀ c.L h) (funext fun z => ?_)) F) hself
  by_cases h1 : z = Str.ofString "nextchar"
  · subst h1; rfl
  · rw [if_neg h1]
theorem c_rtk0 {w : World} {pg : Program} {loose : List Str} {mean : ExcName → Option Value} {mg mb : Str → Option Value}
  {dp un : Nat} {gd : Option (List Code)} {env : Env} {outer : List Env} {A₀ : Around} {base h₀ : Heap} {L : Addr} {m : Str → Option Value} {s : Shared} {Q E : Value → Shared → Prop}
  {x1 dx1 x d pb fs : Addr} {ln : Int} {u1 u2 k0 k1 k2 k3 k4 k5 k6 k7 k8 k9 k10 k11 k12 k13 k14 k15 k16 k17 k18 v4 v5 v6 v8 v9 v10 v14 v18 i1 i2 i3 i4 i5 i6 : Tok} {S : Str} {p : Int} (hp : p = (S.length : Int)) (hS : S.length ≤ 3990) {rest : List (Addr × Obj)} (o1 : @LT.lt Nat _ d x) (o2 : @LT.lt Nat _ x dx1) (o3 : @LT.lt Nat _ dx1 x1) (o4 : @LT.lt Nat _ x1 pb) (o5 : @LT.lt Nat _ pb fs) (off1 : ∀ q ∈ rest, q.1 ≠ d) (off2 : ∀ q ∈ rest, q.1 ≠ dx1)
  (N : News h₀ L s.heap ((x1, instObj 647 dx1) :: (dx1, dictOf (sioE w S p i1 i2 i3 i4 i5 i6) 3) :: (x, instObj 782 d) :: (d, dictOf (shlE w x1 pb fs .none ln (Str.ofString "") u1 u2 k0 k1 k2 k3 k4 k5 k6 k7 k8 k9 k10 k11 k12 k13 k14 k15 k16 k17 k18 v4 v5 v6 v8 v9 v10 v14 v18) 19) :: (pb, dqObj) :: (fs, dqObj) :: rest))
  (B : Below A₀ base outer h₀) (F : Fr h₀ L s.heap m) (X : (Mine.K w.params).In h₀) (T : Top pg loose mean mg mb h₀) (hf : env.frame = some L) (hk : env.scope.kind = .function)
  (hdp : dp + 14 < recursionLimit) (hun : un + 150 < cLine)
  (g5 : ∀ (ln' : Int) (u1' u2' i6' : Tok) (h' : Heap) (tk' : Nat), Fr h₀ L h' m → News h₀ L h' ((x1, instObj 647 dx1) :: (dx1, dictOf (sioE w S p i1 i2 i3 i4 i5 i6') 3) :: (x, instObj 782 d) :: (d, dictOf (shlE w x1 pb fs .none ln' (Str.ofString "") u1' u2' k0 k1 k2 k3 k4 k5 k6 k7 k8 k9 k10 k11 k12 k13 k14 k15 k16 k17 k18 v4 v5 v6 v8 v9 v10 v14 v18) 19) :: (pb, dqObj) :: (fs, dqObj) :: rest) → Q .none { s with heap := h', toks := tk' }) (foo : PySem.Challenge.rw_in0140_01.foot = 8) :
   wpAny (model PySem.Challenge.rw_in0140_01.row.prog w) (arnd dp un gd env outer) (call (.ref 750) [.ref x]) Q E s := by
  revert foo X
  k_fill
  intro X foo
  refine wpAny_call ?_
  k_dflt ((refine' code_def ?k1 ?k2 ?k3 ?k4 ?k5 ?kA ?kF ?kK ?k6 ?k7 ?k8 ?k9 ?kB ?_ ?c2 ?c3 ?c4 ?c5); (case kA => exact rfl); (case kF => first | exact hf | exact rfl); (case kK => first | exact hk | exact rfl); (case k1 => k_asm); (case k2 => k_asm); (case k3 => k_asm); (case k4 => k_asm); (case k5 => k_asm); (case k6 => k_is); (case k7 => k_is); (case k8 => k_room); (case k9 => first | exact BindsTo.of_eq rfl | exact binds_K (by k_in) rfl (by k_is) rfl rfl rfl); (case c5 => decide); (case kB => exact locs rfl); (case c2 => exact rfl); (case c3 => exact rfl); (case c4 => exact rfl); k_whole; intro g' L' h' FG' F' N' B' X' T'; (try dsimp only); (try k_lift B'); (try k_fold))
  (repeat' ((fail_if_success (with_reducible show wpAny _ _ (exec (Stmt.While _ _ _ _) _) _ _ _)); (first | (k_unfold; (try dsimp only)) | (k_end; wrow_close) | walk1 | (dsimp only; walk1) | (leave1; walk_say "STEP leave1"; try dsimp only) | fail "no step")))
  (k_dflt (refine' While_inv2 (fun _ m₁ news₁ => m₁ = _ ∧ news₁ = _) (n₀ := 0) ?F ?N ⟨rfl, rfl⟩ ?_ ?hE; (case F => k_asm); (case N => k_asm); (case hE => first | passes_own | with_unfolding_all passes_own)))
  rintro _ _ _ h9 tk9 F9 N9 ⟨rfl, rfl⟩
  subst hp
  refine true_test ?_
  have ok : ∀ m₀ : Str → Option Value, SC.Ok ⟨w, pg, loose, mean, mg, mb, dp, un, gd, env, outer, base, g', L', s, S, x1, dx1, x, d, pb, fs, fun i => List.getD [k0, k1, k2, k3, k4, k5, k6, k7, k8, k9, k10, k11, k12, k13, k14, k15, k16, k17, k18, v4, v5, v6, v8, v9, v10, v14, v18, i1, i2, i3, i4, i5] i 0, rest, m₀⟩ := fun _ => ⟨B', X', T', hdp, hun, hS, o1, o2, o3, o4, o5, off1, off2, foo⟩
  refine pre_e (ok _) (t := ⟨S.length, none, Str.ofString "", none, Str.ofString " ", false⟩) rfl (m6_e (ok _)) _ _ _ ⟨h9, tk9, _, _, .none, _, _, _, _, rfl, trivial, rfl, at_in0 F9 rfl, N9⟩ ?_
  intro s' hs'
  refine ws_brk ?_
  dsimp only at hs'
  rw [lit_e] at hs'
  refine fin3 (ok _) rfl rfl _ _ _ hs' ?_
  intro h9 tk9 m9 sv9 ln9 u19 u29 i69 F9 hst N9
  subst hst
  k_steps
  all_goals exact g5 _ _ _ _ _ _ (by k_asm) (by k_asm)

end Mine
end
section
open PySem PySem.W PyProof.Rows PySem.Calls PySem.Spec PyProof
set_option Elab.async false
set_option maxRecDepth 100000
set_option maxHeartbeats 8000000
namespace Mine
theorem rules_G1_0 : True := by
  w_top off
  k_with_none
  (k_with "k tr" => (first | with_reducible assumption | (refine Nat.lt_trans (by with_reducible assumption) ?_; k_extra "k tr")))
  (k_with "k om" => (first | with_reducible assumption | exact Nat.le_refl _ | exact Nat.le_succ _ | k_extra "k tr" | walk_at "k lt" | exact Nat.ne_of_lt (by k_extra "k tr") | exact Nat.ne_of_gt (by k_extra "k tr") | exact Nat.ne_of_lt (by walk_at "k lt") | exact Nat.ne_of_gt (by walk_at "k lt") | omega))
  (k_with "k all" => assumption)
  (k_with "execs cons" => (k_here; first | (with_unfolding_all (refine gen_toks0 (Nat.succ_pos _) ?_); intro tk') | with_reducible refine execs_one ?_ | ((with_reducible refine wpAny_execs_cons ?_); (try dsimp only); try k_fold)))
  (k_with "call builtin:str.replace" => (k_here; k_dflt (refine' rep_rule (hx := ?hx) (hy := ?hy) (hz := ?hz) ?hu ?hv ?huv ?hyz ?hb ?hb2 ?_); (case hx => first | exact lit_ap | exact rfl); (case hy => first | exact lit_bs | exact lit_nl | exact lit_tb | exact lit_ap); (case hz => first | exact lit_bs2 | exact lit_bn | exact lit_bt | exact lit_n | exact lit_t | exact lit_q5); (case hu => (show @Ne Nat _ _); (try dsimp only); omega); (case hv => (show @Ne Nat _ _); (try dsimp only); omega); (case huv => (show @Ne Nat _ _); (try dsimp only); omega); (case hyz => decide +kernel); (case hb => first | assumption | omega); (case hb2 => decide); intro t' k' hk'; (try dsimp only at hk')))
  (k_with "call builtin:repr" => (k_here; k_dflt (refine repr_of_str ?_ ?hsz); (case hsz => assumption)))
  (k_with "call type:collections.deque" => (k_here; k_dflt (refine' dq_made ?F ?N ?_; (case F => k_asm); (case N => k_asm); k_whole); intro I9 h9 F9 N9 l9; (try k_lt l9); (try k_sweep); (try k_fold)))
  (k_with "truthy ref" => (k_here; k_dflt (refine' dq_true ?N ?q ?_; (case N => k_asm); (case q => k_mem); k_whole)))
  (k_with "leaving ref" => (k_here; first | (refine' leave_newS ?k1 ?k0 ?k2 ?k3 ?_; (case k0 => assumption); (case k2 => assumption); (case k1 => assumption); (case k3 => k_asm); k_whole; intro h' S' R' U'; (try dsimp only at S' R' U' ⊢)) | (refine' leave_onSN ?k1 ?k2 ?k3 ?k4 ?_; (case k3 => assumption); (case k2 => assumption); (case k1 => assumption); (case k4 => assumption); k_whole; intro h' S' R' U'; (try dsimp only at S' R' U' ⊢))))
  (k_with "call ref" => (k_here; (with_reducible show wpAny _ _ (call (Value.ref 750) _) _ _ _); k_dflt (refine' c_rtk (N := ?N) (hout := ?hout) (h4 := ?h4) (hp := ?hp) (hn := ?hn) (hS := ?hS) (o1 := ?o1) (o2 := ?o2) (o3 := ?o3) (o4 := ?o4) (o5 := ?o5) (off1 := ?off1) (off2 := ?off2) (htw := ?htw) (B := ?B) (F := ?F) (X := ?X) (T := ?T) (hf := ?hf) (hk := ?hk) (hdp := ?hdp) (hun := ?hun) (foo := ?foo) (g0 := ?_) (g1 := ?_) (g2 := ?_) (g3 := ?_) (g5 := ?_); (case B => k_asm); (case F => k_asm); (case X => k_asm); (case T => k_asm); (case hf => exact rfl); (case hk => exact rfl); (case hdp => k_room); (case hun => k_units); (case foo => exact rfl); (case N => k_asm); (case hout => assumption); (case h4 => assumption); (case hp => assumption); (case hn => assumption); (case hS => assumption); (case o1 => k_extra "k om"); (case o2 => k_extra "k om"); (case o3 => k_extra "k om"); (case o4 => k_extra "k om"); (case o5 => k_extra "k om"); (case off1 => k_all); (case off2 => k_all); (case htw => assumption); k_whole); (all_goals (intros; (try dsimp only); (try k_sweep); (try k_fold)))))
  trivial
theorem c_gtk {w : World} {pg : Program} {loose : List Str} {mean : ExcName → Option Value} {mg mb : Str → Option Value}
  {dp un : Nat} {gd : Option (List Code)} {env : Env} {outer : List Env} {A₀ : Around} {base h₀ : Heap} {L : Addr} {m : Str → Option Value} {s : Shared} {Q E : Value → Shared → Prop}
  {x1 dx1 x d pb fs : Addr} {ln : Int} {tw : Str} {u1 u2 k0 k1 k2 k3 k4 k5 k6 k7 k8 k9 k10 k11 k12 k13 k14 k15 k16 k17 k18 v4 v5 v6 v8 v9 v10 v14 v18 i1 i2 i3 i4 i5 i6 : Tok} {u3 : Tok} {S : Str} {n : Nat} {p : Int} {out : List Nat × List Nat × Nat} (hout : s0 (S.cps.toList.drop n) = out) (h4 : out.2.2 ≠ 4) (hp : p = n) (hn : n ≤ S.length) (hS : S.length ≤ 3990) {rest : List (Addr × Obj)} (o1 : @LT.lt Nat _ d x) (o2 : @LT.lt Nat _ x dx1) (o3 : @LT.lt Nat _ dx1 x1) (o4 : @LT.lt Nat _ x1 pb) (o5 : @LT.lt Nat _ pb fs) (off1 : ∀ q ∈ rest, q.1 ≠ d) (off2 : ∀ q ∈ rest, q.1 ≠ dx1) (htw : tw = tx [])
  (N : News h₀ L s.heap ((x1, instObj 647 dx1) :: (dx1, dictOf (sioE w S p i1 i2 i3 i4 i5 i6) 3) :: (x, instObj 782 d) :: (d, dictOf (shlE w x1 pb fs (.str " " u3) ln tw u1 u2 k0 k1 k2 k3 k4 k5 k6 k7 k8 k9 k10 k11 k12 k13 k14 k15 k16 k17 k18 v4 v5 v6 v8 v9 v10 v14 v18) 19) :: (pb, dqObj) :: (fs, dqObj) :: rest))
  (B : Below A₀ base outer h₀) (F : Fr h₀ L s.heap m) (X : (Mine.K w.params).In h₀) (T : Top pg loose mean mg mb h₀) (hf : env.frame = some L) (hk : env.scope.kind = .function)
  (hdp : dp + 16 < recursionLimit) (hun : un + 180 < cLine)
  (g0 : ∀ (t9 r : List Nat), out = (t9, r, 0) → ∀ (n' : Nat) (p' ln' : Int) (u1' u2' u3' i6' : Tok) (t : Tok) (h' : Heap) (tk' : Nat), Fr h₀ L h' m → p' = (n' : Int) → n' ≤ S.length → S.cps.toList.drop n' = r → News h₀ L h' ((x1, instObj 647 dx1) :: (dx1, dictOf (sioE w S p' i1 i2 i3 i4 i5 i6') 3) :: (x, instObj 782 d) :: (d, dictOf (shlE w x1 pb fs (.str " " u3') ln' (Str.ofString "") u1' u2' k0 k1 k2 k3 k4 k5 k6 k7 k8 k9 k10 k11 k12 k13 k14 k15 k16 k17 k18 v4 v5 v6 v8 v9 v10 v14 v18) 19) :: (pb, dqObj) :: (fs, dqObj) :: rest) → Q (.str (tx t9) t) { s with heap := h', toks := tk' })
  (g1 : ∀ (t9 r : List Nat), out = (t9, r, 1) → ∀ (p' ln' : Int) (u1' u2' i6' : Tok) (t : Tok) (h' : Heap) (tk' : Nat), Fr h₀ L h' m → p' = (S.length : Int) → News h₀ L h' ((x1, instObj 647 dx1) :: (dx1, dictOf (sioE w S p' i1 i2 i3 i4 i5 i6') 3) :: (x, instObj 782 d) :: (d, dictOf (shlE w x1 pb fs .none ln' (Str.ofString "") u1' u2' k0 k1 k2 k3 k4 k5 k6 k7 k8 k9 k10 k11 k12 k13 k14 k15 k16 k17 k18 v4 v5 v6 v8 v9 v10 v14 v18) 19) :: (pb, dqObj) :: (fs, dqObj) :: rest) → Q (.str (tx t9) t) { s with heap := h', toks := tk' })
  (g2 : ∀ (t9 r : List Nat), out = (t9, r, 2) → ∀ (e : Addr) (g₂ h' : Heap) (tk' : Nat), Fr h₀ L g₂ m → RaisedSN base g₂ (env :: outer) e (.type "ValueError") rest h' → g₂.UpToSlots h' → E (.ref e) { s with heap := h', toks := tk' })
  (g3 : ∀ (t9 r : List Nat), out = (t9, r, 3) → ∀ (p' ln' : Int) (u1' u2' u3' i6' : Tok) (t : Tok) (h' : Heap) (tk' : Nat), Fr h₀ L h' m → 0 ≤ p' → p' ≤ (S.length : Int) → News h₀ L h' ((x1, instObj 647 dx1) :: (dx1, dictOf (sioE w S p' i1 i2 i3 i4 i5 i6') 3) :: (x, instObj 782 d) :: (d, dictOf (shlE w x1 pb fs (.str " " u3') ln' (Str.ofString "") u1' u2' k0 k1 k2 k3 k4 k5 k6 k7 k8 k9 k10 k11 k12 k13 k14 k15 k16 k17 k18 v4 v5 v6 v8 v9 v10 v14 v18) 19) :: (pb, dqObj) :: (fs, dqObj) :: rest) → Q (.str (tx t9) t) { s with heap := h', toks := tk' })
  (g5 : ∀ (t9 r : List Nat), out = (t9, r, 5) → ∀ (p' ln' : Int) (u1' u2' i6' : Tok) (h' : Heap) (tk' : Nat), Fr h₀ L h' m → p' = (S.length : Int) → News h₀ L h' ((x1, instObj 647 dx1) :: (dx1, dictOf (sioE w S p' i1 i2 i3 i4 i5 i6') 3) :: (x, instObj 782 d) :: (d, dictOf (shlE w x1 pb fs .none ln' (Str.ofString "") u1' u2' k0 k1 k2 k3 k4 k5 k6 k7 k8 k9 k10 k11 k12 k13 k14 k15 k16 k17 k18 v4 v5 v6 v8 v9 v10 v14 v18) 19) :: (pb, dqObj) :: (fs, dqObj) :: rest) → Q .none { s with heap := h', toks := tk' }) (foo : PySem.Challenge.rw_in0140_01.foot = 8) :
   wpAny (model PySem.Challenge.rw_in0140_01.row.prog w) (arnd dp un gd env outer) (call (.ref 743) [.ref x]) Q E s := by
  revert foo X
  k_fill
  intro X foo
  refine wpAny_call ?_
  k_dflt ((refine' code_def ?k1 ?k2 ?k3 ?k4 ?k5 ?kA ?kF ?kK ?k6 ?k7 ?k8 ?k9 ?kB ?_ ?c2 ?c3 ?c4 ?c5); (case kA => exact rfl); (case kF => first | exact hf | exact rfl); (case kK => first | exact hk | exact rfl); (case k1 => k_asm); (case k2 => k_asm); (case k3 => k_asm); (case k4 => k_asm); (case k5 => k_asm); (case k6 => k_is); (case k7 => k_is); (case k8 => k_room); (case k9 => first | exact BindsTo.of_eq rfl | exact binds_K (by k_in) rfl (by k_is) rfl rfl rfl); (case c5 => decide); (case kB => exact locs rfl); (case c2 => exact rfl); (case c3 => exact rfl); (case c4 => exact rfl); k_whole; intro g' L' h' FG' F' N' B' X' T'; (try dsimp only); (try k_lift B'); (try k_fold))
  k_steps
  · (k_dflt (refine' g0 _ _ ?e _ _ _ _ _ _ _ _ _ _ ?lF ?lp ?ln ?lr ?lN); (case e => assumption); (case lF => k_asm); (case lN => (refine' cb_drop (by k_asm) ?_; first | ((repeat' (first | exact sb_refl | refine sb_keep ?_ | refine sb_skip ?_)); done) | repeat' (first | refine' List.forall_mem_cons.mpr ⟨?_, ?_⟩ | exact List.Mem.head _ | (intro z9 hz9; repeat (first | exact hz9 | refine' List.Mem.tail _ ?_)) | refine' List.Mem.tail _ ?_))); (case lp => assumption); (case ln => assumption); (case lr => assumption))
  · (k_dflt (refine' g1 _ _ ?e _ _ _ _ _ _ _ _ ?lF ?lp ?lN); (case e => assumption); (case lF => k_asm); (case lN => (refine' cb_drop (by k_asm) ?_; first | ((repeat' (first | exact sb_refl | refine sb_keep ?_ | refine sb_skip ?_)); done) | repeat' (first | refine' List.forall_mem_cons.mpr ⟨?_, ?_⟩ | exact List.Mem.head _ | (intro z9 hz9; repeat (first | exact hz9 | refine' List.Mem.tail _ ?_)) | refine' List.Mem.tail _ ?_))); (case lp => omega))
  · (k_dflt (refine' g2 _ _ ?e _ _ _ _ ?lF ?lR ?lU); (case e => assumption); (case lU => assumption); (case lR => assumption); (case lF => exact FG'))
  · (k_dflt (refine' g3 _ _ ?e _ _ _ _ _ _ _ _ _ ?lF ?lp ?ln ?lN); (case e => assumption); (case lF => k_asm); (case lN => (refine' cb_drop (by k_asm) ?_; first | ((repeat' (first | exact sb_refl | refine sb_keep ?_ | refine sb_skip ?_)); done) | repeat' (first | refine' List.forall_mem_cons.mpr ⟨?_, ?_⟩ | exact List.Mem.head _ | (intro z9 hz9; repeat (first | exact hz9 | refine' List.Mem.tail _ ?_)) | refine' List.Mem.tail _ ?_))); (case lp => omega); (case ln => omega))
  · (k_dflt (refine' g5 _ _ ?e _ _ _ _ _ _ _ ?lF ?lp ?lN); (case e => assumption); (case lF => k_asm); (case lN => (refine' cb_drop (by k_asm) ?_; first | ((repeat' (first | exact sb_refl | refine sb_keep ?_ | refine sb_skip ?_)); done) | repeat' (first | refine' List.forall_mem_cons.mpr ⟨?_, ?_⟩ | exact List.Mem.head _ | (intro z9 hz9; repeat (first | exact hz9 | refine' List.Mem.tail _ ?_)) | refine' List.Mem.tail _ ?_))); (case lp => omega))
end Mine
end
section
open PySem PySem.W PyProof.Rows PySem.Calls PySem.Spec PyProof
set_option Elab.async false
set_option maxRecDepth 100000
set_option maxHeartbeats 8000000
namespace Mine
theorem rules_G2_0 : True := by
  w_top off
  k_with_none
  (k_with "k tr" => (first | with_reducible assumption | (refine Nat.lt_trans (by with_reducible assumption) ?_; k_extra "k tr")))
  (k_with "k om" => (first | with_reducible assumption | exact Nat.le_refl _ | exact Nat.le_succ _ | k_extra "k tr" | walk_at "k lt" | exact Nat.ne_of_lt (by k_extra "k tr") | exact Nat.ne_of_gt (by k_extra "k tr") | exact Nat.ne_of_lt (by walk_at "k lt") | exact Nat.ne_of_gt (by walk_at "k lt") | omega))
  (k_with "k all" => assumption)
  (k_with "execs cons" => (k_here; first | (with_unfolding_all (refine gen_toks0 (Nat.succ_pos _) ?_); intro tk') | with_reducible refine execs_one ?_ | ((with_reducible refine wpAny_execs_cons ?_); (try dsimp only); try k_fold)))
  (k_with "call builtin:str.replace" => (k_here; k_dflt (refine' rep_rule (hx := ?hx) (hy := ?hy) (hz := ?hz) ?hu ?hv ?huv ?hyz ?hb ?hb2 ?_); (case hx => first | exact lit_ap | exact rfl); (case hy => first | exact lit_bs | exact lit_nl | exact lit_tb | exact lit_ap); (case hz => first | exact lit_bs2 | exact lit_bn | exact lit_bt | exact lit_n | exact lit_t | exact lit_q5); (case hu => (show @Ne Nat _ _); (try dsimp only); omega); (case hv => (show @Ne Nat _ _); (try dsimp only); omega); (case huv => (show @Ne Nat _ _); (try dsimp only); omega); (case hyz => decide +kernel); (case hb => first | assumption | omega); (case hb2 => decide); intro t' k' hk'; (try dsimp only at hk')))
  (k_with "call builtin:repr" => (k_here; k_dflt (refine repr_of_str ?_ ?hsz); (case hsz => assumption)))
  (k_with "call type:collections.deque" => (k_here; k_dflt (refine' dq_made ?F ?N ?_; (case F => k_asm); (case N => k_asm); k_whole); intro I9 h9 F9 N9 l9; (try k_lt l9); (try k_sweep); (try k_fold)))
  (k_with "truthy ref" => (k_here; k_dflt (refine' dq_true ?N ?q ?_; (case N => k_asm); (case q => k_mem); k_whole)))
  (k_with "call ref" => (k_here; (with_reducible show wpAny _ _ (call (Value.ref 750) _) _ _ _); k_dflt (refine' c_rtk0 (N := ?N) (hp := ?hp) (hS := ?hS) (o1 := ?o1) (o2 := ?o2) (o3 := ?o3) (o4 := ?o4) (o5 := ?o5) (off1 := ?off1) (off2 := ?off2) (B := ?B) (F := ?F) (X := ?X) (T := ?T) (hf := ?hf) (hk := ?hk) (hdp := ?hdp) (hun := ?hun) (foo := ?foo) (g5 := ?_); (case B => k_asm); (case F => k_asm); (case X => k_asm); (case T => k_asm); (case hf => exact rfl); (case hk => exact rfl); (case hdp => k_room); (case hun => k_units); (case foo => exact rfl); (case N => k_asm); (case hp => assumption); (case hS => assumption); (case o1 => k_extra "k om"); (case o2 => k_extra "k om"); (case o3 => k_extra "k om"); (case o4 => k_extra "k om"); (case o5 => k_extra "k om"); (case off1 => k_all); (case off2 => k_all); k_whole); (all_goals (intros; (try dsimp only); (try k_sweep); (try k_fold)))))
  trivial
theorem c_gtk0 {w : World} {pg : Program} {loose : List Str} {mean : ExcName → Option Value} {mg mb : Str → Option Value}
  {dp un : Nat} {gd : Option (List Code)} {env : Env} {outer : List Env} {A₀ : Around} {base h₀ : Heap} {L : Addr} {m : Str → Option Value} {s : Shared} {Q E : Value → Shared → Prop}
  {x1 dx1 x d pb fs : Addr} {ln : Int} {u1 u2 k0 k1 k2 k3 k4 k5 k6 k7 k8 k9 k10 k11 k12 k13 k14 k15 k16 k17 k18 v4 v5 v6 v8 v9 v10 v14 v18 i1 i2 i3 i4 i5 i6 : Tok} {S : Str} {p : Int} (hp : p = (S.length : Int)) (hS : S.length ≤ 3990) {rest : List (Addr × Obj)} (o1 : @LT.lt Nat _ d x) (o2 : @LT.lt Nat _ x dx1) (o3 : @LT.lt Nat _ dx1 x1) (o4 : @LT.lt Nat _ x1 pb) (o5 : @LT.lt Nat _ pb fs) (off1 : ∀ q ∈ rest, q.1 ≠ d) (off2 : ∀ q ∈ rest, q.1 ≠ dx1)
  (N : News h₀ L s.heap ((x1, instObj 647 dx1) :: (dx1, dictOf (sioE w S p i1 i2 i3 i4 i5 i6) 3) :: (x, instObj 782 d) :: (d, dictOf (shlE w x1 pb fs .none ln (Str.ofString "") u1 u2 k0 k1 k2 k3 k4 k5 k6 k7 k8 k9 k10 k11 k12 k13 k14 k15 k16 k17 k18 v4 v5 v6 v8 v9 v10 v14 v18) 19) :: (pb, dqObj) :: (fs, dqObj) :: rest))
  (B : Below A₀ base outer h₀) (F : Fr h₀ L s.heap m) (X : (Mine.K w.params).In h₀) (T : Top pg loose mean mg mb h₀) (hf : env.frame = some L) (hk : env.scope.kind = .function)
  (hdp : dp + 16 < recursionLimit) (hun : un + 180 < cLine)
  (g5 : ∀ (ln' : Int) (u1' u2' i6' : Tok) (h' : Heap) (tk' : Nat), Fr h₀ L h' m → News h₀ L h' ((x1, instObj 647 dx1) :: (dx1, dictOf (sioE w S p i1 i2 i3 i4 i5 i6') 3) :: (x, instObj 782 d) :: (d, dictOf (shlE w x1 pb fs .none ln' (Str.ofString "") u1' u2' k0 k1 k2 k3 k4 k5 k6 k7 k8 k9 k10 k11 k12 k13 k14 k15 k16 k17 k18 v4 v5 v6 v8 v9 v10 v14 v18) 19) :: (pb, dqObj) :: (fs, dqObj) :: rest) → Q .none { s with heap := h', toks := tk' }) (foo : PySem.Challenge.rw_in0140_01.foot = 8) :
   wpAny (model PySem.Challenge.rw_in0140_01.row.prog w) (arnd dp un gd env outer) (call (.ref 743) [.ref x]) Q E s := by
  revert foo X
  k_fill
  intro X foo
  refine wpAny_call ?_
  k_dflt ((refine' code_def ?k1 ?k2 ?k3 ?k4 ?k5 ?kA ?kF ?kK ?k6 ?k7 ?k8 ?k9 ?kB ?_ ?c2 ?c3 ?c4 ?c5); (case kA => exact rfl); (case kF => first | exact hf | exact rfl); (case kK => first | exact hk | exact rfl); (case k1 => k_asm); (case k2 => k_asm); (case k3 => k_asm); (case k4 => k_asm); (case k5 => k_asm); (case k6 => k_is); (case k7 => k_is); (case k8 => k_room); (case k9 => first | exact BindsTo.of_eq rfl | exact binds_K (by k_in) rfl (by k_is) rfl rfl rfl); (case c5 => decide); (case kB => exact locs rfl); (case c2 => exact rfl); (case c3 => exact rfl); (case c4 => exact rfl); k_whole; intro g' L' h' FG' F' N' B' X' T'; (try dsimp only); (try k_lift B'); (try k_fold))
  k_steps
  (k_dflt (refine' g5 _ _ _ _ _ _ ?lF ?lN; (case lF => k_asm); (case lN => (refine' cb_drop (by k_asm) ?_; first | ((repeat' (first | exact sb_refl | refine sb_keep ?_ | refine sb_skip ?_)); done) | repeat' (first | refine' List.forall_mem_cons.mpr ⟨?_, ?_⟩ | exact List.Mem.head _ | (intro z9 hz9; repeat (first | exact hz9 | refine' List.Mem.tail _ ?_)) | refine' List.Mem.tail _ ?_)))))
end Mine
end
section
open PySem PySem.W PyProof.Rows PySem.Calls PySem.Spec PyProof
set_option maxRecDepth 100000
set_option maxHeartbeats 8000000
namespace Mine

inductive NetJ (w : World) (S : Str) (x d lp f c cp ct x1 d1 pb pb1 : Addr) (fo oc op ot : Obj) (k0 k2 k3 k4 k5 k6 j0 j1 j2 j3 j4 j5 j6 j7 : Tok) (ws : List WQ) (rest : List (Addr × Obj)) (i : Nat) (news₁ : List (Addr × Obj)) : Prop
  | mk (n : Nat) (p ln : Int) (k1 tp : Tok) (r0 : p = (n : Int)) (r1 : n ≤ S.length) (r2 : ntok (S.cps.toList.drop n) = ntok (lineL ((wprs ws).drop i))) (r3 : news₁ = (x, instObj 90 d) :: (d, dictOf (nlxE w ln x1 pb k0 k1 k2 k3 k4 k5 k6) 4) :: (lp, W.listOf #[.int p tp] 0) :: (f, fo) :: (c, oc) :: (cp, op) :: (ct, ot) :: (x1, instObj 90 d1) :: (d1, dictOf (nl1E w f pb1 j0 j1 j2 j3 j4 j5 j6 j7) 5) :: (pb, W.listOf #[] 0) :: rest) : NetJ w S x d lp f c cp ct x1 d1 pb pb1 fo oc op ot k0 k2 k3 k4 k5 k6 j0 j1 j2 j3 j4 j5 j6 j7 ws rest i news₁
theorem for_first {prog : Program} {w : World} {A : Around} {E : Value → Shared → Prop} {s : Shared} {h₀ : Heap} {L : Addr} {m : Str → Option Value} {env : Env}
  {yn : Str} {pa pbb tpp py pos : Pos} {kk : Nat} {body : List Stmt} {Q : Flow → Shared → Prop} {S : Str} {ws : List WQ} {wl : Addr} {n9 : Nat} {x d lp f c cp ct x1 d1 pb pb1 : Addr} {fo oc op ot : Obj} {k0 k2 k3 k4 k5 k6 j0 j1 j2 j3 j4 j5 j6 j7 : Tok} {rest : List (Addr × Obj)} {n : Nat} {p ln : Int} {k1 tp : Tok}
  (hg : GiveCtr w f fo c oc cp op ct ot lp S) (F : Fr h₀ L s.heap m) (N : News h₀ L s.heap ((x, instObj 90 d) :: (d, dictOf (nlxE w ln x1 pb k0 k1 k2 k3 k4 k5 k6) 4) :: (lp, W.listOf #[.int p tp] 0) :: (f, fo) :: (c, oc) :: (cp, op) :: (ct, ot) :: (x1, instObj 90 d1) :: (d1, dictOf (nl1E w f pb1 j0 j1 j2 j3 j4 j5 j6 j7) 5) :: (pb, W.listOf #[] 0) :: rest)) (hp0 : p = (n : Int)) (hn : n ≤ S.length) (hr : ntok (S.cps.toList.drop n) = ntok (lineL (wprs ws)))
  (hwl : (wl, W.listOf (wrefs ws).toArray n9) ∈ rest) (hws : ∀ q ∈ ws, (q.1, tupO q) ∈ rest)
    (hh : A.handled = none)
    (ev : ∀ Q' : Value → Shared → Prop, Q' (.ref wl) s → wpAny (model prog w) A (eval (.Name yn py) env) Q' E s)
    (ha : env.kindOf (Str.ofString "word") = some .local) (hb : env.kindOf (Str.ofString "by_repr") = some .local) (hLe : env.locals = L) (hp : (env.scope.kind == .class || (env.scope.kind == .module && env.locals != env.globals)) = false)
    (turn : ∀ (i : Nat) (q : WQ) (n : Nat) (p ln : Int) (k1 tp : Tok) (h₁ : Heap) (tk₁ : Nat) (I : Addr) (oI : Obj) (v3 v4 v5 : Option Value), GiveCtr w f fo c oc cp op ct ot lp S → ws[i]? = some q → p = (n : Int) → n ≤ S.length → ntok (S.cps.toList.drop n) = ntok (lineL ((wprs ws).drop i)) →
      (@Ne Nat x I ∧ @Ne Nat d I ∧ @Ne Nat lp I ∧ @Ne Nat f I ∧ @Ne Nat c I ∧ @Ne Nat cp I ∧ @Ne Nat ct I ∧ @Ne Nat x1 I ∧ @Ne Nat d1 I ∧ @Ne Nat pb I) → (∀ p ∈ rest, p.1 ≠ I) → Fr h₀ L h₁ (mapW m (some (.bool q.2.2.2)) (some (.str (tx q.2.1) q.2.2.1)) v3 v4 v5) → News h₀ L h₁ ((I, oI) :: (x, instObj 90 d) :: (d, dictOf (nlxE w ln x1 pb k0 k1 k2 k3 k4 k5 k6) 4) :: (lp, W.listOf #[.int p tp] 0) :: (f, fo) :: (c, oc) :: (cp, op) :: (ct, ot) :: (x1, instObj 90 d1) :: (d1, dictOf (nl1E w f pb1 j0 j1 j2 j3 j4 j5 j6 j7) 5) :: (pb, W.listOf #[] 0) :: rest) →
      wpAny (model prog w) A (execs body env) (WStep h₀ L s I oI m (NetJ w S x d lp f c cp ct x1 d1 pb pb1 fo oc op ot k0 k2 k3 k4 k5 k6 j0 j1 j2 j3 j4 j5 j6 j7 ws rest) Q (i + 1)) E { s with heap := h₁, toks := tk₁ })
    (done : ∀ (n : Nat) (p ln : Int) (k1 tp : Tok) (h₁ : Heap) (tk₁ : Nat) (v1 v2 v3 v4 v5 : Option Value), GiveCtr w f fo c oc cp op ct ot lp S → p = (n : Int) → n ≤ S.length → ntok (S.cps.toList.drop n) = ([], []) → Fr h₀ L h₁ (mapW m v1 v2 v3 v4 v5) → News h₀ L h₁ ((x, instObj 90 d) :: (d, dictOf (nlxE w ln x1 pb k0 k1 k2 k3 k4 k5 k6) 4) :: (lp, W.listOf #[.int p tp] 0) :: (f, fo) :: (c, oc) :: (cp, op) :: (ct, ot) :: (x1, instObj 90 d1) :: (d1, dictOf (nl1E w f pb1 j0 j1 j2 j3 j4 j5 j6 j7) 5) :: (pb, W.listOf #[] 0) :: rest) → Q .next { s with heap := h₁, toks := tk₁ })
    (hs : ∀ x, foldedSetIterable (.Name yn py) env x = pure x := by intro _; rfl) (hE : PassesOwn (model prog w) A env E := by passes_own) :
    wpAny (model prog w) A (exec (.For (.Tuple [.Name (Str.ofString "word") pa, .Name (Str.ofString "by_repr") pbb] kk tpp) (.Name yn py) body [] pos) env) Q E s := by
  refine for_words (ws := ws) (n9 := n9) (NetJ w S x d lp f c cp ct x1 d1 pb pb1 fo oc op ot k0 k2 k3 k4 k5 k6 j0 j1 j2 j3 j4 j5 j6 j7 ws rest) hh F N ⟨n, p, ln, k1, tp, hp0, hn, hr, rfl⟩ ev ?_ ha hb hLe hp ?_ ?_ hs hE
  · rintro i news₁ ⟨n, p, ln, k1, tp, _, _, _, rfl⟩
    refine ⟨?_, fun q hq => ?_⟩
    · iterate 10 refine .tail _ ?_
      exact hwl
    · iterate 10 refine .tail _ ?_
      exact hws q hq
  · rintro i q news₁ h₁ tk₁ I oI v3 v4 v5 hq ⟨n, p, ln, k1, tp, hp, hn, hr, rfl⟩ off F₁ N₁
    have o := fun z hz => off z hz
    simp only [List.forall_mem_cons] at off
    obtain ⟨a1, a2, a3, a4, a5, a6, a7, a8, a9, a10, a11⟩ := off
    exact turn i q n p ln k1 tp h₁ tk₁ I oI v3 v4 v5 hg hq hp hn hr ⟨a1, a2, a3, a4, a5, a6, a7, a8, a9, a10⟩ a11 F₁ N₁
  · rintro news₁ h₁ tk₁ v1 v2 v3 v4 v5 ⟨n, p, ln, k1, tp, hp, hn, hr, rfl⟩ F₁ N₁
    refine done n p ln k1 tp h₁ tk₁ v1 v2 v3 v4 v5 hg hp hn ?_ F₁ N₁
    rw [hr, List.drop_eq_nil_of_le (by simp)]
    exact net_nil
theorem net_go {w : World} {s : Shared} {h₀ : Heap} {L : Addr} {m : Str → Option Value} {Q : Flow → Shared → Prop} {S : Str} {ws : List WQ} {x d lp f c cp ct x1 d1 pb pb1 : Addr} {fo oc op ot : Obj} {k0 k2 k3 k4 k5 k6 j0 j1 j2 j3 j4 j5 j6 j7 : Tok} {rest : List (Addr × Obj)} {n : Nat} {p ln : Int} {k1 tp : Tok} {I : Addr} {oI : Obj} {i : Nat} {h' : Heap} {tk : Nat} {m₂ : Str → Option Value}
  (F : Fr h₀ L h' m₂) (N : News h₀ L h' ((I, oI) :: (x, instObj 90 d) :: (d, dictOf (nlxE w ln x1 pb k0 k1 k2 k3 k4 k5 k6) 4) :: (lp, W.listOf #[.int p tp] 0) :: (f, fo) :: (c, oc) :: (cp, op) :: (ct, ot) :: (x1, instObj 90 d1) :: (d1, dictOf (nl1E w f pb1 j0 j1 j2 j3 j4 j5 j6 j7) 5) :: (pb, W.listOf #[] 0) :: rest)) (hI : @Ne Nat x I ∧ @Ne Nat d I ∧ @Ne Nat lp I ∧ @Ne Nat f I ∧ @Ne Nat c I ∧ @Ne Nat cp I ∧ @Ne Nat ct I ∧ @Ne Nat x1 I ∧ @Ne Nat d1 I ∧ @Ne Nat pb I) (hI2 : ∀ p ∈ rest, p.1 ≠ I) (hm : offW m₂ m) (hp : p = (n : Int)) (hn : n ≤ S.length) (hr : ntok (S.cps.toList.drop n) = ntok (lineL ((wprs ws).drop (i + 1)))) :
    WStep h₀ L s I oI m (NetJ w S x d lp f c cp ct x1 d1 pb pb1 fo oc op ot k0 k2 k3 k4 k5 k6 j0 j1 j2 j3 j4 j5 j6 j7 ws rest) Q (i + 1) .next { s with heap := h', toks := tk } := by
  refine ⟨h', tk, m₂, _, rfl, F, N, ?_, hm, n, p, ln, k1, tp, hp, hn, hr, rfl⟩
  simp only [List.forall_mem_cons]
  obtain ⟨a1, a2, a3, a4, a5, a6, a7, a8, a9, a10⟩ := hI
  exact ⟨a1, a2, a3, a4, a5, a6, a7, a8, a9, a10, hI2⟩
theorem slice_end {S : Str} {n : Nat} {p q : Int} (hn : n = S.length) (hp : p = (n : Int)) (hq : q = (n : Int) + 1) : Txt.slice S (some p) (some q) = Str.ofString "" := by
  subst hp hq
  have e : Builtin.Str.strSliceIndices (some (n : Int)) (some ((n : Int) + 1)) 1 S.length = [] := by
    unfold Builtin.Str.strSliceIndices
    have h1 : ¬ ((n : Int) < 0) := by omega
    have h2 : ¬ ((n : Int) + 1 < 0) := by omega
    simp only [show (1 : Int) > 0 by decide, if_true, if_neg h1, if_neg h2]
    rw [show max (0 : Int) (min (n : Int) (S.length : Int)) = n by omega, show max (0 : Int) (min ((n : Int) + 1) (S.length : Int)) = n by omega]
    unfold sliceRange
    simp
  unfold Txt.slice
  rw [e, lit_e]
  by_cases h : S.length = 0
  · rw [if_pos (by simp [h])]
    obtain ⟨⟨l⟩⟩ := S
    have : l = [] := List.length_eq_zero_iff.mp h
    rw [this]
  · rw [if_neg (by simp; omega)]
    rfl
theorem perm_first {h₀ h : Heap} {L : Addr} {q1 q2 q3 q4 q5 q6 q7 q8 q9 q10 q11 : Addr × Obj} {r : List (Addr × Obj)} (N : News h₀ L h (q1 :: q2 :: q3 :: q4 :: q5 :: q6 :: q7 :: q8 :: q9 :: q10 :: q11 :: r)) :
    News h₀ L h (q2 :: q3 :: q9 :: q4 :: q5 :: q10 :: q11 :: q7 :: q8 :: q1 :: q6 :: r) := fun p hp => N p (by
  simp only [List.mem_cons] at hp ⊢
  rcases hp with h | h | h | h | h | h | h | h | h | h | h | h <;> simp [h])
theorem c_ntok0 {w : World} {pg : Program} {loose : List Str} {mean : ExcName → Option Value} {mg mb : Str → Option Value}
  {dp un : Nat} {gd : Option (List Code)} {env : Env} {outer : List Env} {A₀ : Around} {base h₀ : Heap} {L : Addr} {m : Str → Option Value} {s : Shared} {Q E : Value → Shared → Prop}
  {x d lp f c cp ct x1 d1 pb pb1 : Addr} {fo oc op ot : Obj} {ln : Int} {k0 k1 k2 k3 k4 k5 k6 tp j0 j1 j2 j3 j4 j5 j6 j7 : Tok} {S : Str} {n : Nat} {p : Int} (hg : GiveCtr w f fo c oc cp op ct ot lp S) (hp : p = n) (hn : n ≤ S.length) (hS : S.length ≤ 3990) {rest : List (Addr × Obj)}
  (o1 : @LT.lt Nat _ ct cp) (o2 : @LT.lt Nat _ cp lp) (o3 : @LT.lt Nat _ lp d1) (o4 : @LT.lt Nat _ d1 x1) (o5 : @LT.lt Nat _ x1 c) (o6 : @LT.lt Nat _ c f) (o7 : @LT.lt Nat _ f d) (o8 : @LT.lt Nat _ d x) (o9 : @LT.lt Nat _ x pb) (off1 : ∀ q ∈ rest, q.1 ≠ d) (off2 : ∀ q ∈ rest, q.1 ≠ lp) (N : News h₀ L s.heap ((x, instObj 90 d) :: (d, dictOf (nlxE w ln x1 pb k0 k1 k2 k3 k4 k5 k6) 4) :: (lp, W.listOf #[.int p tp] 0) :: (f, fo) :: (c, oc) :: (cp, op) :: (ct, ot) :: (x1, instObj 90 d1) :: (d1, dictOf (nl1E w f pb1 j0 j1 j2 j3 j4 j5 j6 j7) 5) :: (pb, W.listOf #[] 0) :: rest))
  (B : Below A₀ base outer h₀) (F : Fr h₀ L s.heap m) (X : (Mine.K w.params).In h₀) (T : Top pg loose mean mg mb h₀) (hf : env.frame = some L) (hk : env.scope.kind = .function)
  (hdp : dp + 14 < recursionLimit) (hun : un + 150 < cLine)
  (hr0 : ntok (S.cps.toList.drop n) = ([], []))
  (hret : ∀ (n' : Nat) (p' ln' : Int) (k1' tp' : Tok) (t : Tok) (h' : Heap) (tk' : Nat), Fr h₀ L h' m → p' = (n' : Int) → n' ≤ S.length → ntok (S.cps.toList.drop n') = ([], []) → News h₀ L h' ((x, instObj 90 d) :: (d, dictOf (nlxE w ln' x1 pb k0 k1' k2 k3 k4 k5 k6) 4) :: (lp, W.listOf #[.int p' tp'] 0) :: (f, fo) :: (c, oc) :: (cp, op) :: (ct, ot) :: (x1, instObj 90 d1) :: (d1, dictOf (nl1E w f pb1 j0 j1 j2 j3 j4 j5 j6 j7) 5) :: (pb, W.listOf #[] 0) :: rest) → Q (.str (Str.ofString "") t) { s with heap := h', toks := tk' }) (foo : PySem.Challenge.rw_in0140_01.foot = 8) :
   wpAny (model PySem.Challenge.rw_in0140_01.row.prog w) (arnd dp un gd env outer) (call (.ref 80) [.ref x]) Q E s := by
  refine c_ntok (hg := hg) (hp := hp) (hn := hn) (hS := hS) (o1 := o1) (o2 := o2) (o3 := o3) (o4 := o4) (o5 := o5) (o6 := o6) (o7 := o7) (o8 := o8) (o9 := o9) (off1 := off1) (off2 := off2) (N := N) (B := B) (F := F) (X := X) (T := T) (hf := hf) (hk := hk) (hdp := hdp) (hun := hun) (foo := foo) ?_
  intro n' p' ln' k1' tp' t h' tk' F' hp' hn' hd N'
  rw [hr0] at hd ⊢
  rw [show tx ([], ([] : List Nat)).1 = Str.ofString "" from lit_e.symm]
  refine hret n' p' ln' k1' tp' t h' tk' F' hp' hn' ?_ N'
  rw [hd]; rw [ntok]
end Mine
end
section
open PySem PySem.W PyProof.Rows PySem.Calls PySem.Spec PyProof
set_option Elab.async false
set_option maxRecDepth 100000
set_option maxHeartbeats 8000000
namespace Mine
local macro_rules | `(tactic| walk_at "call ref") => `(tactic| (k_here; (with_reducible show wpAny _ _ (call (Value.ref 820) _) _ _ _); k_dflt (refine' c_net (B := ?B) (F := ?F) (X := ?X) (T := ?T) (hf := ?hf) (hk := ?hk) (hdp := ?hdp) (hun := ?hun) (foo := ?foo) (hw := ?hw) (N := ?N) (hret := ?_); (case B => k_asm); (case F => k_asm); (case X => k_asm); (case T => k_asm); (case hf => exact rfl); (case hk => exact rfl); (case hdp => k_room); (case hun => k_units); (case foo => exact rfl); (case hw => assumption); (case N => k_asm); k_whole); (intro _ _ _ _ _ _ l9; (try k_lt l9); (try dsimp only); (try k_sweep); (try k_fold))))
local macro_rules | `(tactic| walk_at "call ref") => `(tactic| (k_here; (with_reducible show wpAny _ _ (call (Value.ref 80) _) _ _ _); (rename GiveCtr _ _ _ _ _ _ _ _ _ _ _ => hG9); k_dflt (refine' c_ntok (hg := hG9) (hp := ?hp) (hn := ?hn) (hS := ?hS) (o1 := ?o1) (o2 := ?o2) (o3 := ?o3) (o4 := ?o4) (o5 := ?o5) (o6 := ?o6) (o7 := ?o7) (o8 := ?o8) (o9 := ?o9) (off1 := ?off1) (off2 := ?off2) (N := ?N) (B := ?B) (F := ?F) (X := ?X) (T := ?T) (hf := ?hf) (hk := ?hk) (hdp := ?hdp) (hun := ?hun) (foo := ?foo) (hret := ?_); (case B => k_asm); (case F => k_asm); (case X => k_asm); (case T => k_asm); (case hf => exact rfl); (case hk => exact rfl); (case hdp => k_room); (case hun => k_units); (case foo => exact rfl); (case N => (refine' Picks.news (ps := [_, _, _, _, _, _, _, _, _, _]) ?_ (by k_asm); repeat' (first | exact Picks.nil | refine' Picks.cons ?_ ?_ | exact Pick.head | refine' Pick.tail ?_))); (case hp => assumption); (case hn => assumption); (case hS => assumption); (case o1 => k_extra "k om"); (case o2 => k_extra "k om"); (case o3 => k_extra "k om"); (case o4 => k_extra "k om"); (case o5 => k_extra "k om"); (case o6 => k_extra "k om"); (case o7 => k_extra "k om"); (case o8 => k_extra "k om"); (case o9 => k_extra "k om"); (case off1 => ((try dsimp only [List.append]); k_all)); (case off2 => ((try dsimp only [List.append]); k_all)); k_whole); (intros; (try dsimp only); (try k_sweep); (try k_fold))))
local macro_rules | `(tactic| walk_at "call ref") => `(tactic| (k_here; (with_reducible show wpAny _ _ (call (Value.ref 80) _) _ _ _); (rename GiveCtr _ _ _ _ _ _ _ _ _ _ _ => hG9); k_dflt (refine' c_ntok0 (hr0 := ?hr0) (hg := hG9) (hp := ?hp) (hn := ?hn) (hS := ?hS) (o1 := ?o1) (o2 := ?o2) (o3 := ?o3) (o4 := ?o4) (o5 := ?o5) (o6 := ?o6) (o7 := ?o7) (o8 := ?o8) (o9 := ?o9) (off1 := ?off1) (off2 := ?off2) (N := ?N) (B := ?B) (F := ?F) (X := ?X) (T := ?T) (hf := ?hf) (hk := ?hk) (hdp := ?hdp) (hun := ?hun) (foo := ?foo) (hret := ?_); (case B => k_asm); (case F => k_asm); (case X => k_asm); (case T => k_asm); (case hf => exact rfl); (case hk => exact rfl); (case hdp => k_room); (case hun => k_units); (case foo => exact rfl); (case N => (refine' Picks.news (ps := [_, _, _, _, _, _, _, _, _, _]) ?_ (by k_asm); repeat' (first | exact Picks.nil | refine' Picks.cons ?_ ?_ | exact Pick.head | refine' Pick.tail ?_))); (case hr0 => assumption); (case hp => assumption); (case hn => assumption); (case hS => assumption); (case o1 => k_extra "k om"); (case o2 => k_extra "k om"); (case o3 => k_extra "k om"); (case o4 => k_extra "k om"); (case o5 => k_extra "k om"); (case o6 => k_extra "k om"); (case o7 => k_extra "k om"); (case o8 => k_extra "k om"); (case o9 => k_extra "k om"); (case off1 => ((try dsimp only [List.append]); k_all)); (case off2 => ((try dsimp only [List.append]); k_all)); k_whole); (intros; (try dsimp only); (try k_sweep); (try k_fold))))
theorem rules_F3_0 : True := by
  w_top off
  k_with_none
  (k_with "k tr" => (first | with_reducible assumption | (refine Nat.lt_trans (by with_reducible assumption) ?_; k_extra "k tr")))
  (k_with "k om" => (first | with_reducible assumption | exact Nat.le_refl _ | exact Nat.le_succ _ | k_extra "k tr" | walk_at "k lt" | exact Nat.ne_of_lt (by k_extra "k tr") | exact Nat.ne_of_gt (by k_extra "k tr") | exact Nat.ne_of_lt (by walk_at "k lt") | exact Nat.ne_of_gt (by walk_at "k lt") | omega))
  (k_with "storeName" => (k_here; k_dflt (refine' storeX_LL ?F ?N ?_ ?a ?b; (case F => k_asm); (case N => k_asm); (case a => rfl); (case b => rfl); k_whole); intro h' m' F' N'; (try k_sweep)))
  (k_with "setAttr ref" => (k_here; k_dflt (refine' set_dict_LL ?k1 ?k2 ?k3 ?k4 ?k5 ?k6 ?k7 ?k8 ?k9 ?k10 ?k11 ?k13 ?_; (case k1 => k_asm); (case k2 => k_asm); (case k3 => k_asm); (case k4 => k_inst); (case k5 => exact rfl); (case k6 => k_is); (case k7 => k_is); (case k8 => k_is); (case k9 => k_is); (case k10 => k_get); (case k11 => k_put); (case k13 => exact Nat.le_of_ble_eq_true rfl); k_whole); intro es9; (k_dflt (refine' SetStep.intro ?k12 ?_; (case k12 => k_upd); k_whole)); intro h' F' N'; (try k_sweep)))
  (k_with "execs cons" => (k_here; first | (with_unfolding_all (refine gen_toks0 (Nat.succ_pos _) ?_); intro tk') | with_reducible refine execs_one ?_ | ((with_reducible refine wpAny_execs_cons ?_); (try dsimp only); try k_fold)))
  (k_with "call builtin:str.replace" => (k_here; k_dflt (refine' rep_rule (hx := ?hx) (hy := ?hy) (hz := ?hz) ?hu ?hv ?huv ?hyz ?hb ?hb2 ?_); (case hx => first | exact lit_ap | exact rfl); (case hy => first | exact lit_bs | exact lit_nl | exact lit_tb | exact lit_ap); (case hz => first | exact lit_bs2 | exact lit_bn | exact lit_bt | exact lit_n | exact lit_t | exact lit_q5); (case hu => (show @Ne Nat _ _); (try dsimp only); omega); (case hv => (show @Ne Nat _ _); (try dsimp only); omega); (case huv => (show @Ne Nat _ _); (try dsimp only); omega); (case hyz => decide +kernel); (case hb => first | assumption | omega); (case hb2 => decide); intro t' k' hk'; (try dsimp only at hk')))
  (k_with "call builtin:repr" => (k_here; k_dflt (refine repr_of_str ?_ ?hsz); (case hsz => assumption)))
  (k_with "k all" => (refine' ne_low ?zh ?zb; (case zh => assumption); (case zb => first | omega | ((try simp only); omega))))
  (k_with "k all" => assumption)
  (k_with "WStep ret" => (k_dflt (refine wstep_ret ?_)))
  trivial
theorem c_first {w : World} {pg : Program} {loose : List Str} {mean : ExcName → Option Value} {mg mb : Str → Option Value}
  {dp un : Nat} {gd : Option (List Code)} {env : Env} {outer : List Env} {A₀ : Around} {base h₀ : Heap} {L : Addr} {m : Str → Option Value} {s : Shared} {Q E : Value → Shared → Prop}
  {t : Tok} {ws : List WQ} {wl : Addr} {n9 : Nat} (hS : (tx (lineL (wprs ws))).length ≤ 3990) (hok : ∀ q ∈ ws, okp (q.2.1, q.2.2.2)) (codeHd : CodeHd base 800 796) {rest : List (Addr × Obj)} (off796 : ∀ p ∈ rest, p.1 ≠ 796)
  (hwl : (wl, W.listOf (wrefs ws).toArray n9) ∈ rest) (hws : ∀ q ∈ ws, (q.1, tupO q) ∈ rest) (N : News h₀ L s.heap ((796, tabObj #[]) :: rest))
  (B : Below A₀ base outer h₀) (F : Fr h₀ L s.heap m) (X : (Mine.K w.params).In h₀) (T : Top pg loose mean mg mb h₀) (hf : env.frame = some L) (hk : env.scope.kind = .function)
  (hdp : dp + 30 < recursionLimit) (hun : un + 200 < cLine)
  (hret : ∀ (D : Addr) (h' : Heap) (tk' : Nat), Fr h₀ L h' m → News h₀ L h' ((796, tabObj #[rawInt 790, rawInt 4, .ref D]) :: rest) → Q (.bool true) { s with heap := h', toks := tk' }) (foo : PySem.Challenge.rw_in0140_01.foot = 8) :
   wpAny (model PySem.Challenge.rw_in0140_01.row.prog w) (arnd dp un gd env outer) (call (.ref 834) [.str (tx (lineL (wprs ws))) t, .ref wl]) Q E s := by
  revert foo X
  k_fill
  intro X foo
  clear foo
  refine wpAny_call ?_
  k_dflt ((refine' code_def ?k1 ?k2 ?k3 ?k4 ?k5 ?kA ?kF ?kK ?k6 ?k7 ?k8 ?k9 ?kB ?_ ?c2 ?c3 ?c4 ?c5); (case kA => exact rfl); (case kF => first | exact hf | exact rfl); (case kK => first | exact hk | exact rfl); (case k1 => k_asm); (case k2 => k_asm); (case k3 => k_asm); (case k4 => k_asm); (case k5 => k_asm); (case k6 => k_is); (case k7 => k_is); (case k8 => k_room); (case k9 => first | exact BindsTo.of_eq rfl | exact binds_K (by k_in) rfl (by k_is) rfl rfl rfl); (case c5 => decide); (case kB => exact locs rfl); (case c2 => exact rfl); (case c3 => exact rfl); (case c4 => exact rfl); k_whole; intro g' L' h' FG' F' N' B' X' T'; (try dsimp only); (try k_lift B'); (try k_fold))
  (repeat' ((fail_if_success (with_reducible show wpAny _ _ (exec (Stmt.For _ _ _ _ _) _) _ _ _)); (first | (k_unfold; (try dsimp only)) | (k_end; wrow_close) | walk1 | (dsimp only; walk1) | (leave1; walk_say "STEP leave1"; try dsimp only) | fail "no step")))
  (rename _ ∧ AllLt _ rest => hA9)
  obtain ⟨h796, hA⟩ := hA9
  replace hA := low_of hA
  (repeat' ((fail_if_success (with_reducible show wpAny _ _ (exec (Stmt.For _ _ _ _ _) _) _ _ _)); (first | (k_unfold; (try dsimp only)) | (k_end; wrow_close) | walk1 | (dsimp only; walk1) | (leave1; walk_say "STEP leave1"; try dsimp only) | fail "no step")))
  (k_dflt (refine' for_first (S := tx (lineL (wprs ws))) (ws := ws) (wl := wl) (n9 := n9) (n := 0) (k6 := 0) (j7 := 0) (hg := ?hg) (F := ?F) (N := ?N) (hp0 := ?hp0) (hn := ?hn) (hr := ?hr) (hwl := ?hwl) (hws := ?hws) (hh := ?hh) (ev := ?ev) (ha := ?ha) (hb := ?hb) (hLe := ?hLe) (hp := ?hp) (turn := ?turn) (done := ?done) (hs := ?hs) (hE := ?hE)); (case F => k_asm); (case N => exact perm_first (by k_asm)); (case hp0 => exact rfl); (case hn => exact Nat.zero_le _); (case hr => exact rfl); (case hh => exact rfl); (case ha => exact rfl); (case hb => exact rfl); (case hLe => exact rfl); (case hp => exact rfl); (case hs => (intro _; rfl)); (case hE => first | passes_own | with_unfolding_all passes_own); (case ev => (intro Q9 h9; refine' nameX_L ?F ?v h9 ?a ?b; (case F => k_asm); (case a => rfl); (case b => rfl); (case v => rfl))); (case hwl => (first | exact hwl | exact .tail _ (hwl) | exact .tail _ (.tail _ (hwl)) | exact .tail _ (.tail _ (.tail _ (hwl))) | exact .tail _ (.tail _ (.tail _ (.tail _ (hwl)))) | exact .tail _ (.tail _ (.tail _ (.tail _ (.tail _ (hwl))))))); (case hws => (intro q8 hq8; (first | exact hws q8 hq8 | exact .tail _ (hws q8 hq8) | exact .tail _ (.tail _ (hws q8 hq8)) | exact .tail _ (.tail _ (.tail _ (hws q8 hq8))) | exact .tail _ (.tail _ (.tail _ (.tail _ (hws q8 hq8)))) | exact .tail _ (.tail _ (.tail _ (.tail _ (.tail _ (hws q8 hq8)))))))))
  case hg =>
    refine ⟨⟨_, rfl⟩, ?_⟩
    intro pg2 loose2 mean2 mg2 mb2 dp2 un2 gd2 env2 outer2 A2 base2 h2 L2 m2 s2 Q2 E2 p2 n2 tp2 u2 rest2 B2 F2 X2 T2 hf2 hk2 hdp2 hun2 off2 hp2 hn2 N2 hend2 hch2
    refine wpAny_call ?_
    (refine' code_nest ?k1 ?k2 ?k3 ?k4 ?k5 ?kA ?kF ?kK ?k6 ?k7 ?k8 ?k9 ?kB ?_ ?c2 ?c3 ?c4 ?c5; (case kA => exact rfl); (case kF => exact hf2); (case kK => exact hk2); (case k1 => exact B2); (case k2 => exact F2); (case k3 => exact X2); (case k4 => exact N2); (case k5 => exact T2); (case k6 => k_mem); (case k7 => exact codeRec_news (by k_asm) (by k_mem) (by assumption) (by assumption)); (case k8 => k_room); (case k9 => exact BindsTo.of_eq rfl); (case c5 => decide); (case kB => exact locs rfl); (case c2 => exact rfl); (case c3 => exact rfl); (case c4 => exact rfl); k_whole; intro g' L' h' FG' F' N' B' X' T'; (try dsimp only); (try k_lift B'); (try k_fold))
    k_steps
    have e3 : [p2].getD (Int.toNat 0) 0 = p2 := rfl
    (rename News _ _ _ _ => N9)
    rw [e3] at N9 ⊢
    rcases Nat.lt_or_ge n2 (tx (lineL (wprs ws))).length with hlt | hge
    · obtain ⟨ch, hc⟩ : ∃ ch, (tx (lineL (wprs ws))).cps[n2]? = some ch := ⟨_, Array.getElem?_eq_getElem hlt⟩
      rw [slice_one hc hp2 (by omega)] at N9 ⊢
      exact hch2 ch hc _ _ _ _ (by k_asm) N9
    · have hne : n2 = (tx (lineL (wprs ws))).length := Nat.le_antisymm hn2 hge
      have e2 : p2 + (((Str.ofString "").length : Nat) : Int) = p2 := by rw [lit_e, tx_len]; simp
      rw [slice_end hne hp2 (by omega), e2] at N9
      rw [slice_end hne hp2 (by omega)]
      exact hend2 hne _ _ _ _ (by k_asm) N9
  case turn =>
    intro i q n p ln k1 tp h9 tk9 I oI v3 v4 v5 hg hq hp hn hr hI hI2 F9 N9
    have hI9 := hI
    obtain ⟨_, _, _, _, _, _, _, _, _, _⟩ := hI
    have hwd : q.2.1.length ≤ 6 := (hok q (List.mem_of_getElem? hq)).1.2
    have hqi : (wprs ws).drop i = (q.2.1, q.2.2.2) :: (wprs ws).drop (i + 1) := by
      have h8 : (wprs ws)[i]? = some (q.2.1, q.2.2.2) := by simp [hq]
      obtain ⟨hlt, hx⟩ := List.getElem?_eq_some_iff.mp h8
      rw [List.drop_eq_getElem_cons hlt, hx]
    rw [hqi] at hr
    replace hr : ntok (List.drop n (lineL (wprs ws))) = _ := hr
    have hT : (tx (ntok (List.drop n (lineL (wprs ws)))).1).length ≤ 4000 := by
      have h8 := ntok_len (List.drop n (lineL (wprs ws)))
      rw [tx_len] at hS ⊢
      rw [List.length_drop] at h8
      omega
    rcases Bool.eq_false_or_eq_true (netL q.2.1 q.2.2.2).2 with hw | hw
    · obtain ⟨e1, e2⟩ := net_whole (q.2.1, q.2.2.2) ((wprs ws).drop (i + 1)) hw
      rw [← hr] at e1 e2
      have hA9 : (tx (ntok (List.drop n (lineL (wprs ws)))).1 != tx (netL q.2.1 q.2.2.2).1) = false := by rw [e1]; simp
      k_steps
      (k_dflt (refine' net_go (F := ?lF) (N := ?lN) (hI := hI9) (hI2 := hI2) (hm := ?lm) (hp := ?lp) (hn := ?ln) (hr := ?lr))); (case lF => k_asm); (case lN => (refine' cb_drop (by k_asm) ?_; first | ((repeat' (first | exact sb_refl | refine sb_keep ?_ | refine sb_skip ?_)); done) | repeat' (first | refine' List.forall_mem_cons.mpr ⟨?_, ?_⟩ | exact List.Mem.head _ | (intro z9 hz9; repeat (first | exact hz9 | refine' List.Mem.tail _ ?_)) | refine' List.Mem.tail _ ?_))); (case lm => (intro z5 z1 z2 z3 z4 z6; (repeat (first | refine ifn z1 ?_ | refine ifn z2 ?_ | refine ifn z3 ?_ | refine ifn z4 ?_ | refine ifn z6 ?_ | refine ifr z1 ?_ | refine ifr z2 ?_ | refine ifr z3 ?_ | refine ifr z4 ?_ | refine ifr z6 ?_)); rfl)); (case lp => assumption); (case ln => assumption); (case lr => (rename List.drop _ (tx _).cps.toList = _ => h7; rw [h7]; exact e2))
    · obtain ⟨e1, e2⟩ := net_part (q.2.1, q.2.2.2) (hok q (List.mem_of_getElem? hq)) ((wprs ws).drop (i + 1)) hw
      rw [← hr] at e2
      obtain ⟨x9, hx9⟩ := take1 e2
      k_steps
      have e3 : (netL q.2.1 q.2.2.2).1 = [39] := e1
      rw [hx9, slice_pre (l := [39]) (k := 1) rfl, e3, show (tx [39] == tx [39]) = true from by decide +kernel]
      exact hret _ _ _ (by k_asm) (by (refine' cb_drop (by k_asm) ?_; first | ((repeat' (first | exact sb_refl | refine sb_keep ?_ | refine sb_skip ?_)); done) | repeat' (first | refine' List.forall_mem_cons.mpr ⟨?_, ?_⟩ | exact List.Mem.head _ | (intro z9 hz9; repeat (first | exact hz9 | refine' List.Mem.tail _ ?_)) | refine' List.Mem.tail _ ?_)))
  case done =>
    intro n p ln k1 tp h9 tk9 v1 v2 v3 v4 v5 hg hp hn hr F9 N9
    replace hr : ntok (List.drop n (lineL (wprs ws))) = _ := hr
    k_steps
    exact hret _ _ _ (by k_asm) (by (refine' cb_drop (by k_asm) ?_; first | ((repeat' (first | exact sb_refl | refine sb_keep ?_ | refine sb_skip ?_)); done) | repeat' (first | refine' List.forall_mem_cons.mpr ⟨?_, ?_⟩ | exact List.Mem.head _ | (intro z9 hz9; repeat (first | exact hz9 | refine' List.Mem.tail _ ?_)) | refine' List.Mem.tail _ ?_)))
end Mine
end
section
open PySem PySem.W PyProof.Rows PySem.Calls PySem.Spec PyProof
set_option maxRecDepth 100000
namespace Mine
noncomputable def reCode : Array Nat := #[14, 17, 4, 1, 1, 21, 9, 0, 604043296, 1, 0, 0, 0, 0, 0, 8, 4, 0, 13, 14, 21, 9, 0, 604043296, 1, 0, 0, 0, 0, 0, 8, 4, 0, 1]
theorem set_ok {c : Nat} (h : okc c = true) (i : Nat) (hi : i = 5 ∨ i = 20) (seen : Sre.Seen) : ∃ seen', Sre.inSet reCode c 34 i true seen = .ok (!let4 c, seen') := by
  rcases hi with rfl | rfl <;> rcases okc_cases h with h | h | h | h | h | h | h | h | h | h | h | h <;> subst h <;> exact ⟨_, rfl⟩
theorem adm_ok (m : Sre.M) (l : List Nat) (hc : m.code = reCode) (ht : m.text = l.toArray) (hlim : m.lim = l.length) (hok : ∀ c ∈ l, okc c = true) :
    ∀ (fuel s : Nat) (seen : Sre.Seen), l.length + 1 - s ≤ fuel → ((l.drop s).all let4 = true → ∃ seen', Sre.M.admitted m fuel s seen = .ok (none, seen')) ∧
      ((l.drop s).all let4 = false → ∃ k seen' c, k < l.length ∧ l[k]? = some c ∧ okc c = true ∧ let4 c = false ∧ Sre.M.admitted m fuel s seen = .ok (some k, seen'))
  | 0, s, seen, h => by
    have : l.length ≤ s := by omega
    rw [List.drop_eq_nil_of_le this]
    exact ⟨fun _ => ⟨_, rfl⟩, fun h => by cases h⟩
  | fuel + 1, s, seen, h => by
    by_cases hs : s ≥ l.length
    · rw [List.drop_eq_nil_of_le hs]
      refine ⟨fun _ => ⟨seen, ?_⟩, fun h => by cases h⟩
      unfold Sre.M.admitted
      rw [if_pos (by rw [hlim]; exact hs)]
    · have hlt : s < l.length := by omega
      have hget : m.text.getD s 0 = l[s] := by rw [ht]; simp [hlt]
      have hcs := hok l[s] (List.getElem_mem hlt)
      obtain ⟨seen', he⟩ := set_ok hcs 5 (.inl rfl) seen
      have hsz : m.code.size = 34 := by rw [hc]; rfl
      have IH := adm_ok m l hc ht hlim hok fuel (s + 1) seen' (by omega)
      rw [List.drop_eq_getElem_cons hlt, List.all_cons]
      unfold Sre.M.admitted
      rw [if_neg (by rw [hlim]; exact hs), hget, hsz, hc, he]
      cases hl : let4 l[s] with
      | true =>
        simp only [Bool.true_and, Bool.not_true]
        exact IH
      | false =>
        simp only [Bool.false_and, Bool.not_false]
        exact ⟨fun h => (by cases h), fun _ => ⟨s, seen', l[s], hlt, by simp [hlt], hcs, hl, rfl⟩⟩
noncomputable def reM (l : List Nat) : Sre.M :=
  { code := reCode, text := l.toArray, lim := l.length, start := 0, pc := 18, pos := 0, handed := 0, marks := #[], seen := ({} : Sre.Seen).add 14, lastStart := l.length }
theorem fs_eq {l : List Nat} (hl : 0 < l.length) : Sre.forSearch reCode l.toArray 0 0 l.length false = (reM l).attemptFrom 0 true := by
  have h : ¬ ((0 : Nat) > l.length ∨ l.length - 0 < 1) := by omega
  show (if ((decide ((0 : Nat) > l.length)) || (decide (l.length - 0 < 1))) = true then _ else _) = _
  rw [if_neg (by simpa using h)]
  rfl
theorem af_eq {l : List Nat} : (reM l).attemptFrom 0 true = (match Sre.M.admitted (reM l) (l.length + 1 - 0) 0 (reM l).seen with
    | .ok (some s, seen) => { reM l with mustAdvance := false, seen }.attemptAt s true
    | .ok (none, seen) => { reM l with seen }.say false
    | .error why => (reM l).stick why) := rfl
theorem search_none {l : List Nat} (hok : ∀ c ∈ l, okc c = true) (hl : 0 < l.length) (ha : l.all let4 = true) :
    ((Sre.forSearch reCode l.toArray 0 0 l.length false).runFor 4).outcome = some .failed := by
  rw [fs_eq hl, af_eq]
  obtain ⟨seen', he⟩ := (adm_ok (reM l) l rfl rfl rfl hok (l.length + 1 - 0) 0 (reM l).seen (by omega)).1 (by simpa using ha)
  rw [he]; rfl
theorem exec_in {m : Sre.M} (h0 : Sre.ops[m.word 0]? = some .IN) (hp : ¬ m.pos ≥ m.lim) {seen' : Sre.Seen} (ha : Sre.accepts m.code m.pc (m.text.getD m.pos 0) (m.seen.add (m.word 0)) = .ok (true, seen')) :
    m.exec = { m with seen := seen', pc := m.pc + Sre.itemWidth m.code m.pc, pos := m.pos + 1 } := by
  unfold Sre.M.exec
  simp only [h0]
  rw [if_neg hp, ha]
theorem search_some {l : List Nat} (hok : ∀ c ∈ l, okc c = true) (hl : 0 < l.length) (ha : l.all let4 = false) :
    ((Sre.forSearch reCode l.toArray 0 0 l.length false).runFor 4).outcome = some .matched := by
  rw [fs_eq hl, af_eq]
  obtain ⟨k, seen', c, hk, hkc, hc, hcl, he⟩ := (adm_ok (reM l) l rfl rfl rfl hok (l.length + 1 - 0) 0 (reM l).seen (by omega)).2 (by simpa using ha)
  rw [he]
  dsimp only
  obtain ⟨seen2, h2⟩ := set_ok hc 20 (.inr rfl) (seen'.add 13)
  rw [hcl] at h2
  have h1 : ({ reM l with mustAdvance := false, seen := seen' }.attemptAt k true).step = ({ reM l with mustAdvance := false, seen := seen' }.attemptAt k true).exec := rfl
  have hg : l.toArray.getD k 0 = c := by
    have := List.getElem?_eq_some_iff.mp hkc
    obtain ⟨hlt, hx⟩ := this
    simp [hlt, hx]
  have h3 := exec_in (m := { reM l with mustAdvance := false, seen := seen' }.attemptAt k true) rfl (by show ¬ k ≥ l.length; omega) (seen' := seen2) (by
    show Sre.inSet reCode (l.toArray.getD k 0) 34 20 true (seen'.add 13) = _
    rw [hg]; exact h2)
  show (Sre.M.runFor 3 (Sre.M.step _)).outcome = _
  rw [h1, h3]
  rfl
end Mine
end
section
open PySem PySem.W PyProof.Rows PySem.Calls PySem.Spec PyProof PySem.Builtin PySem.Builtin.Re
set_option maxRecDepth 100000
set_option maxHeartbeats 8000000
namespace Mine
noncomputable def srB : Obj := { cls := .type "builtin_function_or_method", data := .fields #[.builtin "re.Pattern.search", .ref 99] }
noncomputable def srP : Obj := { cls := .type "re.Pattern", data := .fields #[.str "[^\\w@%+=:,./-]" 405, .int 256 442, .int 0 0, .none, .none, .ref 98, .int 0 0] }
noncomputable def srC : Obj := { cls := .type "tuple", data := .seq #[.int 14 0, .int 17 0, .int 4 0, .int 1 0, .int 1 0, .int 21 0, .int 9 0, .int 0 0, .int 604043296 0, .int 1 0, .int 0 0, .int 0 0, .int 0 0, .int 0 0, .int 0 0, .int 8 0, .int 4 0, .int 0 0, .int 13 0, .int 14 0, .int 21 0, .int 9 0, .int 0 0, .int 604043296 0, .int 1 0, .int 0 0, .int 0 0, .int 0 0, .int 0 0, .int 0 0, .int 8 0, .int 4 0, .int 0 0, .int 1 0] 0 }
theorem rules_Z2_n : True := by
  w_top off
  k_with_none
  trivial
theorem srB_in {p : Params} : (Mine.K p).lookup 787 = some srB := by rfl
theorem srP_in {p : Params} : (Mine.K p).lookup 99 = some srP := by rfl
theorem srC_in {p : Params} : (Mine.K p).lookup 98 = some srC := by rfl
theorem entry_sr : entryFor table "re.Pattern.search" = some Builtin.«re.Pattern.search» := entryFor_of_tree (by kernel_rfl)
theorem quiet_sr {as : Args} : (Code.builtin "re.Pattern.search" as).quiet = true := Code.quiet_builtin _ (by decide +kernel)
theorem check_sr {M : Model} {h : Heap} (X : (Mine.K M.w.params).In h) {x : Str} {t : Tok} : Looks M h (checkBoundCall "re.Pattern.search" ⟨[.ref 99, .str x t], []⟩) () := Looks.of_peek X (by kernel_rfl)
section
variable {prog : Program} {w : World} {M : Model} {A : Around} {E : Value → Shared → Prop} {s : Shared} {h₀ : Heap} {L : Addr} {m : Str → Option Value} {news : List (Addr × Obj)}
theorem drive_done {n : Nat} {mm : Sre.M} {Q : Sre.M → Shared → Prop} (ho : (mm.runFor 4).outcome.isSome = true) (h : Q (mm.runFor 4) s) : wpAny M A (reDrive (n + 1) mm) Q E s := by
  unfold reDrive
  show wpAny _ _ (if (mm.runFor 4).outcome.isSome = true then pure (mm.runFor 4) else _) _ _ _
  rw [if_pos ho]
  exact wpAny_pure h
theorem rules_skip {f : Nat → PUnit → Sem (ForInStep PUnit)} (hf : ∀ i (Q : ForInStep PUnit → Shared → Prop), Q (.yield ⟨⟩) s → wpAny M A (f i ⟨⟩) Q E s) {Q : PUnit → Shared → Prop} (l : List Nat) (h : Q ⟨⟩ s) : wpAny M A (forIn l ⟨⟩ f) Q E s :=
  wpAny_forIn_list f (fun _ _ s' => s' = s) Q (fun i _ _ s' e => by subst e; exact hf i _ rfl) (fun _ s' e => by subst e; exact h) l ⟨⟩ rfl
theorem run_none {mm : Sre.M} {Q : Option Sre.M → Shared → Prop} (ho : (mm.runFor 4).outcome = some .failed) (h : Q none s) : wpAny M A (reRunToEnd mm) Q E s := by
  unfold reRunToEnd
  refine wpAny_bind (drive_done (n := 2 ^ 64 - 1) (by rw [ho]; rfl) ?_)
  refine wpAny_bind (rules_skip (fun i Q hq => ?_) _ ?_)
  · split
    · exact wpAny_bind (wpAny_rule (wpAny_pure hq))
    · exact wpAny_pure hq
  · rw [ho]; exact wpAny_pure h
theorem run_some {mm : Sre.M} {Q : Option Sre.M → Shared → Prop} (ho : (mm.runFor 4).outcome = some .matched) (h : Q (some (mm.runFor 4)) s) : wpAny M A (reRunToEnd mm) Q E s := by
  unfold reRunToEnd
  refine wpAny_bind (drive_done (n := 2 ^ 64 - 1) (by rw [ho]; rfl) ?_)
  refine wpAny_bind (rules_skip (fun i Q hq => ?_) _ ?_)
  · split
    · exact wpAny_bind (wpAny_rule (wpAny_pure hq))
    · exact wpAny_pure hq
  · rw [ho]; exact wpAny_pure h
noncomputable def reT (l : List Nat) (t : Tok) : ReTarget := { pattern := .ref 99, string := .str (tx l) t, code := reCode, text := l.toArray, kind := 0, groups := 0, pos := 0, lim := l.length }
theorem target_ok {l : List Nat} {t : Tok} {Q : ReTarget → Shared → Prop} (hP : s.heap.get? 99 = some srP) (hC : s.heap.get? 98 = some srC) (hl : l.length ≤ 6) (h : Q (reT l t) s) :
    wpAny M A (reTarget "re.Pattern.search" "search" ⟨[.ref 99, .str (tx l) t], []⟩) Q E s := by
  unfold reTarget
  dsimp only
  refine wpAny_bind (wpAny_of_eq (a := [some (.str (tx l) t), none, none]) (by kernel_rfl) ?_)
  dsimp only
  refine wpAny_bind (wpAny_pure (wpAny_bind (wpAny_pure (wpAny_bind (wpAny_fieldsOf hP rfl ?_)))))
  refine wpAny_bind (wpAny_of_eq (a := (l.toArray, 0)) rfl ?_)
  dsimp only
  refine wpAny_bind (wpAny_of_eq (a := ()) rfl ?_)
  refine wpAny_bind (wpAny_bind (wpAny_seqItems hC rfl (wpAny_pure ?_)))
  refine wpAny_pure ?_
  have e1 : min (0 : Int).toNat l.toArray.size = 0 := Nat.min_eq_left (Nat.zero_le _)
  have e2 : min ((2 : Int) ^ 63 - 1).toNat l.toArray.size = l.length := by
    have : ((2 : Int) ^ 63 - 1).toNat = 9223372036854775807 := by decide
    rw [this]
    simp; omega
  have e3 : (Array.map (fun x => x.toNat) (Array.map reRawOf (Option.getD (some #[Value.int 14 0, .int 17 0, .int 4 0, .int 1 0, .int 1 0, .int 21 0, .int 9 0, .int 0 0, .int 604043296 0, .int 1 0, .int 0 0, .int 0 0, .int 0 0, .int 0 0, .int 0 0, .int 8 0, .int 4 0, .int 0 0, .int 13 0, .int 14 0, .int 21 0, .int 9 0, .int 0 0, .int 604043296 0, .int 1 0, .int 0 0, .int 0 0, .int 0 0, .int 0 0, .int 0 0, .int 8 0, .int 4 0, .int 0 0, .int 1 0]) #[]))) = reCode := by decide +kernel
  rw [e1, e2, e3]
  exact h
theorem tree_none {l : List Nat} {t : Tok} {P : Fin → Shared → Prop} (hP : s.heap.get? 99 = some srP) (hC : s.heap.get? 98 = some srC) (hok : okw l) (hl : l ≠ []) (ha : l.all let4 = true) (h : P (.done (.ret .none)) s) :
    wpAny M A (Builtin.«re.Pattern.search» ⟨[.ref 99, .str (tx l) t], []⟩) P E s := by
  unfold Builtin.«re.Pattern.search»
  refine wpAny_bind (target_ok hP hC hok.2 ?_)
  unfold reAnswer
  refine wpAny_bind (run_none (search_none hok.1 (List.length_pos_iff.mpr hl) ha) ?_)
  exact wpAny_pure h
theorem tree_some {l : List Nat} {t : Tok} {P : Fin → Shared → Prop} (hP : s.heap.get? 99 = some srP) (hC : s.heap.get? 98 = some srC) (hok : okw l) (hl : l ≠ []) (ha : l.all let4 = false) (F : Fr h₀ L s.heap m) (N : News h₀ L s.heap news)
    (h : ∀ x h', Fr h₀ L h' m → News h₀ L h' news → P (.done (.ret (.ref x))) { s with heap := h' }) :
    wpAny M A (Builtin.«re.Pattern.search» ⟨[.ref 99, .str (tx l) t], []⟩) P E s := by
  unfold Builtin.«re.Pattern.search»
  refine wpAny_bind (target_ok hP hC hok.2 ?_)
  unfold reAnswer
  refine wpAny_bind (run_some (search_some hok.1 (List.length_pos_iff.mpr hl) ha) ?_)
  dsimp only
  refine wpAny_bind ?_
  unfold reNewMatch
  dsimp only
  refine wpAny_bind (newTuple_N F N (fun h1 F1 N1 => ?_) (by show 2 ≤ sizeLine; rw [sizeLine_eq]; decide))
  refine wpAny_newObj_type (wpAny_pure (h _ _ (F1.push _) (fun p hp => (News.push F1 N1 _) p (.tail _ (.tail _ hp))))) 
theorem sr_call {l : List Nat} {t : Tok} {Q : Value → Shared → Prop} (X : (Mine.K w.params).In s.heap)
    (tree : ∀ {E' : Value → Shared → Prop} {A' : Around}, wpAny (model prog w) A' (Builtin.«re.Pattern.search» ⟨[.ref 99, .str (tx l) t], []⟩) (fun f s' => ∃ v, f = .done (.ret v) ∧ Q v s') E' s) :
    wpAny (model prog w) A (call (.ref 787) [.str (tx l) t]) Q E s := by
  refine wpAny_call (codeAny_of_tree ?_)
  show wpAny _ A.in1 (callAny (.ref 787) ⟨[.str (tx l) t], []⟩) _ _ s
  simp only [callAny]
  refine wpAny_bind (wpAny_load (X _ _ srB_in) ?_)
  simp only [srB, show (Value.type "builtin_function_or_method" == Value.type "method" || Value.type "builtin_function_or_method" == Value.type "builtin_function_or_method" || Value.type "builtin_function_or_method" == Value.type "method-wrapper") = true by decide, if_true]
  refine KFB.if_so (by decide) ?_
  refine wpAny_bind ((check_sr (M := model prog w) X).here ?_)
  refine wpAny_bind (wpAny_pure (wpAny_pure ?_))
  refine ⟨quiet_sr, codeAny_builtin entry_sr ?_⟩
  refine wpAny_mono tree (fun f s' hf => ?_) (fun _ _ z => z)
  obtain ⟨v, rfl, hq⟩ := hf
  exact hq
theorem keeps_sr (h : Heap) (X : (Mine.K w.params).In h) : ∃ k, (k = Keeper.frame ∨ k = Keeper.machine ∨ k = Keeper.boundFrame) ∧ Looks (model prog w) h (keeperOf (.ref 787)) k :=
  ⟨.machine, .inr (.inl rfl), (Looks.ld (part := none) (X _ _ srB_in)).andThen .now⟩
theorem callWith_sr {pos : Pos} {env : Env} {e : Expr} {rest : List Expr} {Q : Value → Shared → Prop}
    (h : wpAny (model prog w) A (spliced (backTo pos (starEach (e :: rest) env))) (fun vs s₁ => (Mine.K w.params).In s₁.heap ∧ wpAny (model prog w) A (call (.ref 787) ([] ++ vs)) Q E s₁) E s)
    (he : starEach (e :: rest) env = (false, PySem.eval e env) :: starEach rest env := by rfl) (hplain : (backTo pos (starEach rest env)).any (·.1) = false := by rfl) :
    wpAny (model prog w) A (callWith pos (.ref 787) [] (backTo pos (starEach (e :: rest) env)) []) Q E s := by
  rw [he] at h ⊢
  exact callWith_of (by show ((false || (backTo pos (starEach rest env)).any (·.1)) || false) = false; rw [hplain]; rfl) keeps_sr (evalArgs_plain h)
theorem sr_none {l : List Nat} {t : Tok} {Q : Value → Shared → Prop} (X₀ : (Mine.K w.params).In h₀) (F : Fr h₀ L s.heap m) (hok : okw l) (hl : l ≠ []) (ha : l.all let4 = true) (h : Q .none s) :
    wpAny (model prog w) A (call (.ref 787) [.str (tx l) t]) Q E s :=
  have X := X₀.keeps F.keep
  sr_call X (tree_none (X _ _ srP_in) (X _ _ srC_in) hok hl ha ⟨_, rfl, h⟩)
theorem sr_some {l : List Nat} {t : Tok} {Q : Value → Shared → Prop} (X₀ : (Mine.K w.params).In h₀) (F : Fr h₀ L s.heap m) (N : News h₀ L s.heap news) (hok : okw l) (hl : l ≠ []) (ha : l.all let4 = false)
    (h : ∀ x h', Fr h₀ L h' m → News h₀ L h' news → Q (.ref x) { s with heap := h' }) :
    wpAny (model prog w) A (call (.ref 787) [.str (tx l) t]) Q E s :=
  have X := X₀.keeps F.keep
  sr_call X (tree_some (X _ _ srP_in) (X _ _ srC_in) hok hl ha F N fun x h' F' N' => ⟨_, rfl, h x h' F' N'⟩)
end
end Mine
end
section
open PySem PySem.W PyProof.Rows PySem.Calls PySem.Spec PyProof
set_option Elab.async false
set_option maxRecDepth 100000
set_option maxHeartbeats 8000000
namespace Mine
theorem rules_Z3_0 : True := by
  w_top off
  k_with_none
  (k_with "k tr" => (first | with_reducible assumption | (refine Nat.lt_trans (by with_reducible assumption) ?_; k_extra "k tr")))
  (k_with "k all" => assumption)
  (k_with "execs cons" => (k_here; first | (with_unfolding_all (refine gen_toks0 (Nat.succ_pos _) ?_); intro tk') | with_reducible refine execs_one ?_ | ((with_reducible refine wpAny_execs_cons ?_); (try dsimp only); try k_fold)))
  (k_with "call builtin:str.replace" => (k_here; k_dflt (refine' rep_rule (hx := ?hx) (hy := ?hy) (hz := ?hz) ?hu ?hv ?huv ?hyz ?hb ?hb2 ?_); (case hx => first | exact lit_ap | exact rfl); (case hy => first | exact lit_bs | exact lit_nl | exact lit_tb | exact lit_ap); (case hz => first | exact lit_bs2 | exact lit_bn | exact lit_bt | exact lit_n | exact lit_t | exact lit_q5); (case hu => (show @Ne Nat _ _); (try dsimp only); omega); (case hv => (show @Ne Nat _ _); (try dsimp only); omega); (case huv => (show @Ne Nat _ _); (try dsimp only); omega); (case hyz => decide +kernel); (case hb => first | assumption | omega); (case hb2 => decide); intro t' k' hk'; (try dsimp only at hk')))
  (k_with "call builtin:repr" => (k_here; k_dflt (refine repr_of_str ?_ ?hsz); (case hsz => assumption)))
  (k_with "truthy str" => (k_here; k_dflt (refine' tr_yes ?hx ?hf ?_; (case hx => with_reducible assumption); (case hf => first | omega | (show (1 : Nat) ≤ 1000000; decide)))))
  (k_with "ShEnd brk" => (k_dflt (refine sh_brk ?_)))
  (k_with "ite" => (k_closed; k_dflt (first | refine ite_pos (by decide +kernel) ?_ | refine ite_neg (by decide +kernel) ?_)))
  (k_with "callWith ref" => (k_here; (with_reducible show wpAny _ _ (callWith _ (Value.ref 787) _ _ _) _ _ _); k_dflt (refine callWith_sr ?_)))
  (k_with "call ref" => (k_here; (with_reducible show wpAny _ _ (call (Value.ref 787) _) _ _ _); k_dflt (first | (refine' sr_none (X₀ := ?X) (F := ?F) (hok := ?hok) (hl := ?hl) (ha := ?ha) ?_; (case ha => assumption); (case X => k_asm); (case F => k_asm); (case hok => assumption); (case hl => assumption); k_whole) | (refine' sr_some (X₀ := ?X) (F := ?F) (N := ?N) (hok := ?hok) (hl := ?hl) (ha := ?ha) ?_; (case ha => assumption); (case X => k_asm); (case F => k_asm); (case N => k_asm); (case hok => assumption); (case hl => assumption); k_whole; (intro _ _ _ _); (try k_sweep); (try k_fold)))))
  trivial
theorem c_quo {w : World} {pg : Program} {loose : List Str} {mean : ExcName → Option Value} {mg mb : Str → Option Value}
  {dp un : Nat} {gd : Option (List Code)} {env : Env} {outer : List Env} {A₀ : Around} {base h₀ : Heap} {L : Addr} {m : Str → Option Value} {s : Shared} {Q E : Value → Shared → Prop}
  {wd : List Nat} {t : Tok} (hw : okw wd) {rest : List (Addr × Obj)} (N : News h₀ L s.heap rest)
  (B : Below A₀ base outer h₀) (F : Fr h₀ L s.heap m) (X : (Mine.K w.params).In h₀) (T : Top pg loose mean mg mb h₀) (hf : env.frame = some L) (hk : env.scope.kind = .function)
  (hdp : dp + 6 < recursionLimit) (hun : un + 60 < cLine)
  (hret : ∀ (t : Tok) (h' : Heap) (tk' : Nat), Fr h₀ L h' m → News h₀ L h' rest → Q (.str (tx (quoL wd)) t) { s with heap := h', toks := tk' }) (foo : PySem.Challenge.rw_in0140_01.foot = 8) :
   wpAny (model PySem.Challenge.rw_in0140_01.row.prog w) (arnd dp un gd env outer) (call (.ref 794) [.str (tx wd) t]) Q E s := by
  revert foo X
  k_fill
  intro X foo
  clear foo
  refine wpAny_call ?_
  k_dflt ((refine' code_def ?k1 ?k2 ?k3 ?k4 ?k5 ?kA ?kF ?kK ?k6 ?k7 ?k8 ?k9 ?kB ?_ ?c2 ?c3 ?c4 ?c5); (case kA => exact rfl); (case kF => first | exact hf | exact rfl); (case kK => first | exact hk | exact rfl); (case k1 => k_asm); (case k2 => k_asm); (case k3 => k_asm); (case k4 => k_asm); (case k5 => k_asm); (case k6 => k_is); (case k7 => k_is); (case k8 => k_room); (case k9 => first | exact BindsTo.of_eq rfl | exact binds_K (by k_in) rfl (by k_is) rfl rfl rfl); (case c5 => decide); (case kB => exact locs rfl); (case c2 => exact rfl); (case c3 => exact rfl); (case c4 => exact rfl); k_whole; intro g' L' h' FG' F' N' B' X' T'; (try dsimp only); (try k_lift B'); (try k_fold))
  have hL : (tx wd).length ≤ 6 := by rw [tx_len]; exact hw.2
  have hb1 : wd.length ≤ 1000 := by have := hw.2; omega
  by_cases hne : wd = []
  · subst hne
    rw [show quoL [] = [39, 39] from rfl, ← lit_ee] at hret
    k_steps
    exact hret _ _ _ (by k_asm) (by k_asm)
  · have _ := tok_len hne
    have hne' : wd ≠ [] := hne
    cases ha : wd.all let4 with
    | true =>
      have e9 : quoL wd = wd := by unfold quoL; rw [if_neg hne, if_pos ha]
      rw [e9] at hret
      k_steps
      exact hret _ _ _ (by k_asm) (by k_asm)
    | false =>
      have e9 : tx [39] ++ tx (wd.flatMap (subC 39 [39, 34, 39, 34, 39])) ++ tx [39] = tx (quoL wd) := by
        rw [tx_app, tx_app]
        unfold quoL; rw [if_neg hne, if_neg (by rw [ha]; exact Bool.false_ne_true)]
        rfl
      have hb2 : (tx (wd.flatMap (subC 39 [39, 34, 39, 34, 39]))).length ≤ 30 := by
        have h1 := sub_len 39 [39, 34, 39, 34, 39] 5 (by decide) (by decide) wd
        have h2 := hw.2
        rw [tx_len]; omega
      k_steps
      all_goals (try simp only [lit_ap] at *)
      all_goals (try rw [e9])
      exact hret _ _ _ (by k_asm) (by k_asm)
end Mine
end
section
open PySem PySem.W PyProof.Rows PySem.Calls PySem.Spec PyProof
set_option maxRecDepth 100000
set_option maxHeartbeats 8000000
namespace Mine
theorem lit_its : Str.ofString "it's \\" = tx [105, 116, 39, 115, 32, 92] := by decide +kernel
theorem five : ∀ n : Fin 5, ((n.val : Nat) : Int) = 0 ∨ ((n.val : Nat) : Int) = 1 ∨ ((n.val : Nat) : Int) = 2 ∨ ((n.val : Nat) : Int) = 3 ∨ ((n.val : Nat) : Int) = 4 := by decide
theorem small5 (y : Int) : (y.fmod 10).fdiv 2 = 0 ∨ (y.fmod 10).fdiv 2 = 1 ∨ (y.fmod 10).fdiv 2 = 2 ∨ (y.fmod 10).fdiv 2 = 3 ∨ (y.fmod 10).fdiv 2 = 4 := by
  have h1 := Int.fdiv_eq_ediv_of_nonneg (y.fmod 10) (show (0 : Int) ≤ 2 by decide)
  have h2 := Int.fmod_eq_emod_of_nonneg y (show (0 : Int) ≤ 10 by decide)
  have h3 : 0 ≤ (y.fmod 10).fdiv 2 := by omega
  have h4 : (y.fmod 10).fdiv 2 < 5 := by omega
  obtain ⟨n, hn⟩ := Int.eq_ofNat_of_zero_le h3
  rw [hn] at h4 ⊢
  exact five ⟨n, Int.ofNat_lt.mp h4⟩
noncomputable abbrev offV (m₂ m₀ : Str → Option Value) : Prop := ∀ z, z ≠ Str.ofString "x" → z ≠ Str.ofString "places" → m₂ z = m₀ z
noncomputable abbrev mapV (m₀ : Str → Option Value) (v1 v2 : Option Value) : Str → Option Value := fun z => if z = Str.ofString "x" then v1 else if z = Str.ofString "places" then v2 else m₀ z
theorem mapV_of {m₁ m₀ : Str → Option Value} (h : offV m₁ m₀) : m₁ = mapV m₀ (m₁ (Str.ofString "x")) (m₁ (Str.ofString "places")) := by
  funext z
  unfold mapV
  by_cases h1 : z = Str.ofString "x"
  · rw [if_pos h1, h1]
  rw [if_neg h1]
  by_cases h2 : z = Str.ofString "places"
  · rw [if_pos h2, h2]
  rw [if_neg h2]
  exact h z h1 h2
inductive VCon (h₀ : Heap) (L : Addr) (s : Shared) (SL wl cl : Addr) (vs xs : List Value) (R : List (Addr × Obj)) (m₀ : Str → Option Value) (s₃ : Shared) : Prop
  | mk (h' : Heap) (tk : Nat) (m' : Str → Option Value) (D : Addr) (wd : List Nat) (t : Tok) (b : Bool) (oc' : Obj) (c' : Option Value) (k9 : Nat) (r0 : s₃ = { s with heap := h', toks := tk }) (r1 : Fr h₀ L h' m') (r2 : News h₀ L h' ((SL, W.listOf vs.toArray 0) :: (wl, W.listOf (xs ++ [Value.ref D]).toArray k9) :: (cl, oc') :: (D, tupO (D, wd, t, b)) :: R)) (r3 : oc'.data = .cell c') (r4 : okp (wd, b)) (r5 : (∀ q ∈ R, q.1 ≠ D)) (r6 : D ≠ SL) (r7 : D ≠ wl) (r8 : D ≠ cl) (r9 : offV m' m₀) : VCon h₀ L s SL wl cl vs xs R m₀ s₃
inductive WrdJ (SL wl cl : Addr) (vs : List Value) (rest : List (Addr × Obj)) (m : Str → Option Value) (i : Nat) (m₁ : Str → Option Value) (nx : List (Addr × Obj)) : Prop
  | mk (ws : List WQ) (k9 : Nat) (tl : List (Addr × Obj)) (oc : Obj) (c : Option Value) (r0 : ws.length = i + 2) (r1 : (∀ q ∈ ws, okp (q.2.1, q.2.2.2))) (r2 : (∀ q ∈ ws, (q.1, tupO q) ∈ tl)) (r3 : oc.data = .cell c) (r4 : (∀ p ∈ tl, p.1 ≠ SL ∧ p.1 ≠ wl ∧ p.1 ≠ cl)) (r5 : offV m₁ m) (r6 : nx = (SL, W.listOf vs.toArray 0) :: (wl, W.listOf (wrefs ws).toArray k9) :: (cl, oc) :: (tl ++ rest)) : WrdJ SL wl cl vs rest m i m₁ nx
noncomputable def VStep (h₀ : Heap) (L : Addr) (s : Shared) (SL wl cl : Addr) (vs xs : List Value) (R : List (Addr × Obj)) (m₀ : Str → Option Value) (Q : Flow → Shared → Prop) (f : Flow) (s₃ : Shared) : Prop :=
  match f with
  | .ret v => Q (.ret v) s₃
  | .brk => Q .next s₃
  | _ => VCon h₀ L s SL wl cl vs xs R m₀ s₃
section
variable {prog : Program} {w : World} {A : Around} {E : Value → Shared → Prop} {s : Shared} {h₀ : Heap} {m : Str → Option Value} {env : Env}
theorem vstep_go {L : Addr} {SL wl cl : Addr} {vs xs : List Value} {R : List (Addr × Obj)} {m₀ : Str → Option Value} {Q : Flow → Shared → Prop} {h' : Heap} {tk : Nat} {m' : Str → Option Value} {D : Addr} {wd : List Nat} {t : Tok} {b : Bool} {oc' : Obj} {c' : Option Value} {k9 : Nat}
  (F : Fr h₀ L h' m') (N : News h₀ L h' ((SL, W.listOf vs.toArray 0) :: (wl, W.listOf (xs ++ [Value.ref D]).toArray k9) :: (cl, oc') :: (D, tupO (D, wd, t, b)) :: R)) (hc : oc'.data = .cell c') (hok : okp (wd, b)) (hR : ∀ q ∈ R, q.1 ≠ D) (h1 : D ≠ SL) (h2 : D ≠ wl) (h3 : D ≠ cl) (hm : offV m' m₀) :
  VStep h₀ L s SL wl cl vs xs R m₀ Q .next { s with heap := h', toks := tk } := ⟨h', tk, m', D, wd, t, b, oc', c', k9, rfl, F, N, hc, hok, hR, h1, h2, h3, hm⟩
theorem for_wrd {body : List Stmt} {Q : Flow → Shared → Prop} {SL wl cl D1 D2 : Addr} {vs : List Value} {ns : List Int} {t1 t2 : Tok} {oc0 : Obj} {c0 : Option Value} {rest : List (Addr × Obj)}
    (hh : A.handled = none) (F : Fr h₀ env.locals s.heap m) (hi : IntsAre vs ns) (hn : ns.length ≤ 4)
    (N : News h₀ env.locals s.heap ((SL, W.listOf vs.toArray 0) :: (wl, W.listOf #[.ref D1, .ref D2] 0) :: (D2, { cls := .type "tuple", data := .seq #[.str (Str.ofString "ab") t2, .bool false] }) :: (D1, { cls := .type "tuple", data := .seq #[.str (Str.ofString "it's \\") t1, .bool true] }) :: (cl, oc0) :: rest))
    (hoc : oc0.data = .cell c0) (n1 : @Ne Nat SL wl) (n2 : @Ne Nat SL cl) (n3 : @Ne Nat wl cl) (n4 : @Ne Nat D1 SL) (n5 : @Ne Nat D1 wl) (n6 : @Ne Nat D1 cl) (n7 : @Ne Nat D2 SL) (n8 : @Ne Nat D2 wl) (n9 : @Ne Nat D2 cl) (r1 : ∀ p ∈ rest, p.1 ≠ SL) (r2 : ∀ p ∈ rest, p.1 ≠ wl) (r3 : ∀ p ∈ rest, p.1 ≠ cl)
    (turn : ∀ (nv : Int) (t : Tok) (k9 : Nat) (xs : List Value) (R : List (Addr × Obj)) (oc : Obj) (c v5 : Option Value) (h₁ : Heap) (tk : Nat), nv ∈ ns → xs.length ≤ 5 → oc.data = .cell c → (∀ q ∈ R, q.1 ≠ SL) → (∀ q ∈ R, q.1 ≠ wl) → (∀ q ∈ R, q.1 ≠ cl) →
      Fr h₀ env.locals h₁ (mapV m (some (.int nv t)) v5) → News h₀ env.locals h₁ ((SL, W.listOf vs.toArray 0) :: (wl, W.listOf xs.toArray k9) :: (cl, oc) :: R) →
      wpAny (model prog w) A (execs body env) (VStep h₀ env.locals { s with heap := h₁, toks := tk } SL wl cl vs xs R m Q) E { s with heap := h₁, toks := tk })
    (done : ∀ (ws : List WQ) (k9 : Nat) (tl : List (Addr × Obj)) (oc : Obj) (v1 v2 : Option Value) (h₁ : Heap) (tk : Nat), ws.length ≤ 6 → 0 < ws.length → (∀ q ∈ ws, okp (q.2.1, q.2.2.2)) → (∀ q ∈ ws, (q.1, tupO q) ∈ tl) → (∀ p ∈ tl, p.1 ≠ wl) → Fr h₀ env.locals h₁ (mapV m v1 v2) → News h₀ env.locals h₁ ((SL, W.listOf vs.toArray 0) :: (wl, W.listOf (wrefs ws).toArray k9) :: (cl, oc) :: (tl ++ rest)) → Q .next { s with heap := h₁, toks := tk }) :
    wpAny (model prog w) A (pyIter (.ref SL)) (fun it s₂ => LoopAtV prog w A h₀ env (Str.ofString "x") body Q E it s₂) E s := by
  let J : Nat → (Str → Option Value) → List (Addr × Obj) → Prop := WrdJ SL wl cl vs rest m
  have hvl : vs.length = ns.length := hi.length
  rw [lit_ab, lit_its] at N
  have N' : News h₀ env.locals s.heap ((SL, W.listOf vs.toArray 0) :: (wl, W.listOf #[.ref D1, .ref D2] 0) :: (cl, oc0) :: ([(D2, tupO (D2, [97, 98], t2, false)), (D1, tupO (D1, [105, 116, 39, 115, 32, 92], t1, true))] ++ rest)) := fun p hp => N p (by
    simp only [List.mem_cons, List.cons_append, List.nil_append] at hp ⊢
    rcases hp with h | h | h | h | h | h
    · exact .inl h
    · exact .inr (.inl h)
    · exact .inr (.inr (.inr (.inr (.inl h))))
    · exact .inr (.inr (.inl h))
    · exact .inr (.inr (.inr (.inl h)))
    · exact .inr (.inr (.inr (.inr (.inr h)))))
  have ok1 : okp ([105, 116, 39, 115, 32, 92], true) := ⟨⟨by intro c hc; simp at hc; rcases hc with rfl | rfl | rfl | rfl | rfl | rfl <;> decide, by decide⟩, fun h => by cases h⟩
  have ok2 : okp ([97, 98], false) := ⟨⟨by intro c hc; simp at hc; rcases hc with rfl | rfl <;> decide, by decide⟩, fun _ c hc => by simp at hc; rcases hc with rfl | rfl <;> decide⟩
  refine kdl_iter J hh (l := SL) (vs := vs) (nn := 0) (.head _) F N' ⟨[(D1, [105, 116, 39, 115, 32, 92], t1, true), (D2, [97, 98], t2, false)], 0, [(D2, tupO (D2, [97, 98], t2, false)), (D1, tupO (D1, [105, 116, 39, 115, 32, 92], t1, true))], oc0, c0, rfl, ?_, ?_, hoc, ?_, fun _ _ _ => rfl, rfl⟩ ?_ ?_
  · intro q hq
    rcases List.mem_cons.mp hq with rfl | hq
    · exact ok1
    · rw [List.mem_singleton.mp hq]; exact ok2
  · intro q hq
    rcases List.mem_cons.mp hq with rfl | hq
    · exact .tail _ (.head _)
    · rw [List.mem_singleton.mp hq]; exact .head _
  · intro p hp
    rcases List.mem_cons.mp hp with rfl | hp
    · exact ⟨n7, n8, n9⟩
    · rw [List.mem_singleton.mp hp]; exact ⟨n4, n5, n6⟩
  · rintro i v m₁ news₁ h₁ tk own hv ho hl ⟨ws, k9, tl, oc, c, hlen, hok, hmem, hc, hoff, hm, rfl⟩ F₁ N₁
    have hlt : i < ns.length := by rw [← hvl]; exact (List.getElem?_eq_some_iff.mp hv).1
    obtain ⟨t, hx⟩ := hi.get i ns[i] (by simp [hlt])
    have hv' : v = .int ns[i] t := by rw [hx] at hv; exact (Option.some.inj hv).symm
    subst hv'
    have e : (fun y => if y = Str.ofString "x" then some (Value.int ns[i] t) else m₁ y) = mapV m (some (.int ns[i] t)) (m₁ (Str.ofString "places")) := by
      funext z
      unfold mapV
      by_cases h1 : z = Str.ofString "x"
      · rw [if_pos h1, if_pos h1]
      rw [if_neg h1, if_neg h1]
      have := congrFun (mapV_of hm) z
      unfold mapV at this
      rw [if_neg h1] at this
      exact this
    rw [e] at F₁
    have offR : ∀ (a : Addr), (∀ p ∈ tl, p.1 ≠ a) → (∀ p ∈ rest, p.1 ≠ a) → (∀ p ∈ own, p.1 ≠ a) → ∀ q ∈ tl ++ rest ++ own, q.1 ≠ a := fun a h1 h2 h3 q hq => by
      rcases List.mem_append.mp hq with hq | hq
      · rcases List.mem_append.mp hq with hq | hq
        · exact h1 q hq
        · exact h2 q hq
      · exact h3 q hq
    have ho1 : ∀ p ∈ own, p.1 ≠ SL := fun p hp => ho p hp SL (.head _)
    have ho2 : ∀ p ∈ own, p.1 ≠ wl := fun p hp => ho p hp wl (.tail _ (.head _))
    have ho3 : ∀ p ∈ own, p.1 ≠ cl := fun p hp => ho p hp cl (.tail _ (.tail _ (.head _)))
    refine wpAny_mono (turn ns[i] t k9 (wrefs ws) (tl ++ rest ++ own) oc c _ h₁ tk (List.getElem_mem hlt) (by simp [wrefs]; omega) hc (offR SL (fun p hp => (hoff p hp).1) r1 ho1) (offR wl (fun p hp => (hoff p hp).2.1) r2 ho2) (offR cl (fun p hp => (hoff p hp).2.2) r3 ho3) F₁ (by simpa using N₁)) (fun f s₃ h => ?_) (fun _ _ z => z)
    have fin : VStep h₀ env.locals { s with heap := h₁, toks := tk } SL wl cl vs (wrefs ws) (tl ++ rest ++ own) m Q .next s₃ → InvEndG h₀ env.locals (fun m' nx => (SL, W.listOf vs.toArray 0) ∈ nx ∧ J (i + 1) m' nx) own { s with heap := h₁, toks := tk } s₃ := by
      rintro ⟨h', tk', m', D, wd, td, b, oc', c', k8, e, F', N', hc', hok', hR, d1, d2, d3, hm'⟩
      have eW : (wrefs ws ++ [Value.ref D]) = wrefs (ws ++ [(D, wd, td, b)]) := by simp [wrefs]
      rw [eW] at N'
      refine ⟨h', tk', m', _, (SL, W.listOf vs.toArray 0) :: (wl, W.listOf (wrefs (ws ++ [(D, wd, td, b)])).toArray k8) :: (cl, oc') :: (((D, tupO (D, wd, td, b)) :: tl) ++ rest), e, F', N', ?_, ?_, ?_, .head _, ws ++ [(D, wd, td, b)], k8, (D, tupO (D, wd, td, b)) :: tl, oc', c', by simp [hlen], ?_, ?_, hc', ?_, hm', rfl⟩
      · intro p hp
        simp only [List.mem_cons, List.cons_append, List.mem_append] at hp ⊢
        rcases hp with h | h | h | h | h | h <;> simp [h]
      · intro p hp
        iterate 4 refine .tail _ ?_
        exact List.mem_append_right _ hp
      · intro p hp q hq
        obtain ⟨z, hz, rfl⟩ := List.mem_map.mp hq
        simp only [List.mem_cons, List.cons_append, List.mem_append] at hz
        rcases hz with rfl | rfl | rfl | rfl | hz | hz
        · exact ho1 p hp
        · exact ho2 p hp
        · exact ho3 p hp
        · exact hR p (List.mem_append_right _ hp)
        · exact ho p hp z.1 (List.mem_map.mpr ⟨z, by simp [hz], rfl⟩)
        · exact ho p hp z.1 (List.mem_map.mpr ⟨z, by simp [hz], rfl⟩)
      · intro q hq
        rcases List.mem_append.mp hq with hq | hq
        · exact hok q hq
        · rw [List.mem_singleton.mp hq]; exact hok'
      · intro q hq
        rcases List.mem_append.mp hq with hq | hq
        · exact .tail _ (hmem q hq)
        · rw [List.mem_singleton.mp hq]; exact .head _
      · intro p hp
        rcases List.mem_cons.mp hp with rfl | hp
        · exact ⟨d1, d2, d3⟩
        · exact hoff p hp
    cases f with
    | next => exact fin h
    | cont => exact fin h
    | brk => exact h
    | ret _ => exact h
  · rintro m₁ news₁ h₁ tk ⟨ws, k9, tl, oc, c, hlen, hok, hmem, hc, hoff, hm, rfl⟩ F₁ N₁
    rw [mapV_of hm] at F₁
    exact done ws k9 tl oc _ _ h₁ tk (by omega) (by omega) hok hmem (fun p hp => (hoff p hp).2.1) F₁ N₁
end
end Mine
end
section
open PySem PySem.W PyProof.Rows PySem.Calls PySem.Spec PyProof PyProof.Rows.LCg PyProof.Rows.LCp
set_option maxRecDepth 100000
set_option maxHeartbeats 8000000
namespace Mine
noncomputable def alphC (c : Nat) : Bool := [97, 39, 34, 92, 32, 10, 98, 35, 9].contains c
noncomputable abbrev alphS : Str := Str.ofString "a'\"\\ \n'b#\t"
theorem alph10 : ∀ n : Fin 10, alphC ([97, 39, 34, 92, 32, 10, 39, 98, 35, 9].getD n.val 0) = true ∧ Txt.item alphS (n.val : Int) = tx [[97, 39, 34, 92, 32, 10, 39, 98, 35, 9].getD n.val 0] := by decide +kernel
theorem alph_item {p : Int} (h0 : 0 ≤ p) (h1 : p < 10) : ∃ c, alphC c = true ∧ Txt.item alphS p = tx [c] := by
  obtain ⟨n, rfl⟩ := Int.eq_ofNat_of_zero_le h0
  have hn : n < 10 := Int.ofNat_lt.mp h1
  exact ⟨_, (alph10 ⟨n, hn⟩).1, (alph10 ⟨n, hn⟩).2⟩
theorem alph_okp {cs : List Nat} {b : Bool} (h : ∀ c ∈ cs, alphC c = true) (hl : cs.length ≤ 4) : okp (cs, b) := by
  have hc : ∀ c ∈ cs, c = 97 ∨ c = 39 ∨ c = 34 ∨ c = 92 ∨ c = 32 ∨ c = 10 ∨ c = 98 ∨ c = 35 ∨ c = 9 := fun c hm => by
    have := h c hm
    unfold alphC at this
    simp only [List.contains_cons, List.contains_nil, Bool.or_false, Bool.or_eq_true, beq_iff_eq] at this
    exact this
  refine ⟨⟨fun c hm => ?_, by show cs.length ≤ 6; omega⟩, fun _ c hm => ?_⟩
  · rcases hc c hm with h | h | h | h | h | h | h | h | h <;> subst h <;> decide
  · rcases hc c hm with h | h | h | h | h | h | h | h | h <;> subst h <;> decide
section
variable {prog : Program} {w : World} {A : Around} {E : Value → Shared → Prop} {s s₁ : Shared} {h₀ : Heap} {L : Addr} {m : Str → Option Value} {env : Env}
  {elt : Expr} {x x₂ : Str} {scope : Scope} {cl : List (Str × Addr)} {news : List (Addr × Obj)}
theorem compS_ind {S : List (Addr × Obj) → Prop} {P : Nat → Value → Prop} {Fin : List Value → List (Addr × Obj) → Prop} (n : Nat) (Inv : Nat → List Value → Prop)
    (step : ∀ i ys, i < n → Inv i ys → ∀ v I oI C oC D m₂ h tk (E' : Value → Shared → Prop), P i v → NsObj oC m₂ → m₂ x = some v → Fr h₀ L h m → News h₀ L h ((I, oI) :: (C, oC) :: (D, lst ys) :: news) → Off3 I C D news → ((@Ne Nat I C) ∧ (@Ne Nat I D) ∧ (@Ne Nat C D)) →
      wpAny (model prog w) A (eval elt (compEnvC scope cl C env)) (CompEnd h₀ L m { s with heap := h, toks := tk } I oI C oC D (lst ys) S (fun y news' => news' = news ∧ Inv (i + 1) (ys ++ [y]))) E' { s with heap := h, toks := tk })
    (fin : ∀ ys, Inv n ys → Fin ys news) : ∀ k i ys, k + i = n → Inv i ys → CompRest prog w A h₀ L m env elt x scope cl s S P Fin k i ys news := by
  intro k
  induction k with
  | zero => exact fun i ys e hI => CompRest.zero (fin ys (by rw [← e, Nat.zero_add]; exact hI))
  | succ k ih => exact fun i ys e hI => CompRest.succ (fun v I oI C oC D m₂ h tk E' hP hC hx F N off ne => by
      refine wpAny_mono (step i ys (by omega) hI v I oI C oC D m₂ h tk E' hP hC hx F N off ne) (fun y s₂ hh => ?_) (fun _ _ z => z)
      obtain ⟨h', tk', news', e1, F', N', o1, hS, rfl, hI'⟩ := hh
      exact ⟨h', tk', news', e1, F', N', o1, hS, ih (i + 1) (ys ++ [y]) (by omega) hI'⟩)
theorem compP_ind {S : List (Addr × Obj) → Prop} {P : Nat → Value → Prop} {Fin : List Value → List (Addr × Obj) → Prop} (n : Nat) (Inv : Nat → List Value → Prop)
    (step : ∀ i ys, i < n → Inv i ys → ∀ v, P i v → ∃ (t : Addr) (ot : Obj) (v₁ v₂ : Value) (nt : Nat), v = .ref t ∧ (t, ot) ∈ news ∧ ot.cls = .type "tuple" ∧ ot.data = .seq #[v₁, v₂] nt ∧
      ∀ I oI C oC D m₂ h tk (E' : Value → Shared → Prop), NsObj oC m₂ → m₂ x = some v₁ → m₂ x₂ = some v₂ → Fr h₀ L h m → News h₀ L h ((I, oI) :: (C, oC) :: (D, lst ys) :: news) → Off3 I C D news → ((@Ne Nat I C) ∧ (@Ne Nat I D) ∧ (@Ne Nat C D)) →
      wpAny (model prog w) A (eval elt (compEnvC scope cl C env)) (CompEnd h₀ L m { s with heap := h, toks := tk } I oI C oC D (lst ys) S (fun y news' => news' = news ∧ Inv (i + 1) (ys ++ [y]))) E' { s with heap := h, toks := tk })
    (fin : ∀ ys, Inv n ys → Fin ys news) : ∀ k i ys, k + i = n → Inv i ys → CompRestP prog w A h₀ L m env elt x x₂ scope cl s S P Fin k i ys news := by
  intro k
  induction k with
  | zero => exact fun i ys e hI => CompRestP.zero (fin ys (by rw [← e, Nat.zero_add]; exact hI))
  | succ k ih => exact fun i ys e hI => CompRestP.succ (fun v hP => by
      obtain ⟨t, ot, v₁, v₂, nt, a1, a2, a3, a4, st⟩ := step i ys (by omega) hI v hP
      refine ⟨t, ot, v₁, v₂, nt, a1, a2, a3, a4, fun I oI C oC D m₂ h tk E' hC hx hx2 F N off ne => ?_⟩
      refine wpAny_mono (st I oI C oC D m₂ h tk E' hC hx hx2 F N off ne) (fun y s₂ hh => ?_) (fun _ _ z => z)
      obtain ⟨h', tk', news', e1, F', N', o1, hS, rfl, hI'⟩ := hh
      exact ⟨h', tk', news', e1, F', N', o1, hS, ih (i + 1) (ys ++ [y]) (by omega) hI'⟩)
noncomputable def PInts (ys : List Value) : Prop := ∀ v ∈ ys, ∃ (p : Int) (t : Tok), v = .int p t ∧ 0 ≤ p ∧ p < 10
theorem src_places {Fin : Shared → List Value → List (Addr × Obj) → Prop} {r : Addr} {e : Int} {t u v : Tok} (hh : A.handled = none) (F : Fr h₀ L s₁.heap m) (N : News h₀ L s₁.heap news) (hr : IsRange s₁.heap r 0 e 1 t u v) (h0 : 0 ≤ e) (h4 : e ≤ 4)
    (elt_ok : ∀ (i : Nat) (tt : Tok) I oI C oC D m₂ (ys : List Value) h tk (E' : Value → Shared → Prop), (i = 0 ∨ i = 1 ∨ i = 2 ∨ i = 3) → NsObj oC m₂ → m₂ x = some (.int (i : Int) tt) → Fr h₀ L h m → News h₀ L h ((I, oI) :: (C, oC) :: (D, lst ys) :: news) → Off3 I C D news → ((@Ne Nat I C) ∧ (@Ne Nat I D) ∧ (@Ne Nat C D)) →
      wpAny (model prog w) A (eval elt (compEnvC scope cl C env)) (CompEnd h₀ L m { s₁ with heap := h, toks := tk } I oI C oC D (lst ys) (fun _ => True) (fun y news' => news' = news ∧ ∃ (p : Int) (t' : Tok), y = .int p t' ∧ 0 ≤ p ∧ p < 10)) E' { s₁ with heap := h, toks := tk })
    (fin : ∀ ys, ys.length ≤ 4 → PInts ys → ∀ g, Fin { s₁ with heap := g } ys news) : CompSrc prog w A h₀ L m env elt x scope cl Fin (.ref r) s₁ := by
  obtain ⟨n, rfl⟩ : ∃ n : Nat, e = n := ⟨e.toNat, by omega⟩
  have hn : n ≤ 4 := by omega
  refine CompSrc.range (n := n) hh F N hr ?_ ?_ (by rw [sizeLine_eq]; omega) (fun g => compS_ind n (fun i ys => ys.length = i ∧ PInts ys) ?_ (fun ys hI => fin ys (by rw [hI.1]; exact hn) hI.2 g) n 0 [] rfl ⟨rfl, fun v hv => (by cases hv)⟩)
  · have : n = 0 ∨ n = 1 ∨ n = 2 ∨ n = 3 ∨ n = 4 := by omega
    rcases this with rfl | rfl | rfl | rfl | rfl <;> decide
  · have : n = 0 ∨ n = 1 ∨ n = 2 ∨ n = 3 ∨ n = 4 := by omega
    rcases this with rfl | rfl | rfl | rfl | rfl <;> decide
  · rintro i ys hi ⟨hl, hP⟩ v I oI C oC D m₂ h tk E' ⟨tt, rfl⟩ hC hx F' N' off ne
    refine wpAny_mono (elt_ok i tt I oI C oC D m₂ ys h tk E' (by omega) hC (by simpa using hx) F' N' off ne) (fun y s₂ hh => ?_) (fun _ _ z => z)
    obtain ⟨h', tk', news', e1, F'', N'', o1, hS, e2, p, t', rfl, hp⟩ := hh
    refine ⟨h', tk', news', e1, F'', N'', o1, hS, e2, by simp [hl], fun z hz => ?_⟩
    rcases List.mem_append.mp hz with hz | hz
    · exact hP z hz
    · rw [List.mem_singleton.mp hz]; exact ⟨p, t', rfl, hp⟩
theorem strs_snoc {vs : List Value} {ys : List Str} (h : StrsAre vs ys) (y : Str) (t : Tok) : StrsAre (vs ++ [.str y t]) (ys ++ [y]) := by
  induction h with
  | nil => exact .cons y t .nil
  | cons z u _ ih => exact .cons z u ih
theorem src_signs {Fin : Shared → List Value → List (Addr × Obj) → Prop} {ax : Addr} {ps : List Value} (hh : A.handled = none) (F : Fr h₀ L s₁.heap m) (N : News h₀ L s₁.heap news) (hm : (ax, lst ps) ∈ news) (hps : PInts ps) (hl4 : ps.length ≤ 4)
    (elt_ok : ∀ (p : Int) (tt : Tok) I oI C oC D m₂ (ys : List Value) h tk (E' : Value → Shared → Prop), 0 ≤ p → p < 10 → NsObj oC m₂ → m₂ x = some (.int p tt) → Fr h₀ L h m → News h₀ L h ((I, oI) :: (C, oC) :: (D, lst ys) :: news) → Off3 I C D news → ((@Ne Nat I C) ∧ (@Ne Nat I D) ∧ (@Ne Nat C D)) →
      wpAny (model prog w) A (eval elt (compEnvC scope cl C env)) (CompEnd h₀ L m { s₁ with heap := h, toks := tk } I oI C oC D (lst ys) (SrcAt h₀ ax ps.toArray) (fun y news' => news' = news ∧ ∃ (t' : Tok), y = .str (Txt.item alphS p) t')) E' { s₁ with heap := h, toks := tk })
    (fin : ∀ ys (cs : List Nat), cs.length ≤ 4 → (∀ c ∈ cs, alphC c = true) → StrsAre ys (cs.map fun c => tx [c]) → ∀ g, Fin { s₁ with heap := g } ys news) : CompSrc prog w A h₀ L m env elt x scope cl Fin (.ref ax) s₁ := by
  refine CompSrc.ledger (k := ps.length) (its := ps.toArray) hh F N hm (by rw [sizeLine_eq, List.size_toArray]; omega) (fun g => ?_)
  rw [List.size_toArray]
  refine compS_ind ps.length (fun i ys => ∃ cs : List Nat, cs.length = i ∧ (∀ c ∈ cs, alphC c = true) ∧ StrsAre ys (cs.map fun c => tx [c])) ?_ (fun ys hI => ?_) ps.length 0 [] rfl ⟨[], rfl, fun c hc => (by cases hc), StrsAre.nil⟩
  · rintro i ys hi ⟨cs, hl, hcs, hst⟩ v I oI C oC D m₂ h tk E' hP hC hx F' N' off ne
    have hv : ps[i]? = some v := by simpa using hP
    obtain ⟨p, tt, rfl, hp0, hp1⟩ := hps v (List.mem_of_getElem? hv)
    refine wpAny_mono (elt_ok p tt I oI C oC D m₂ ys h tk E' hp0 hp1 hC hx F' N' off ne) (fun y s₂ hh => ?_) (fun _ _ z => z)
    obtain ⟨h', tk', news', e1, F'', N'', o1, hS, e2, t', rfl⟩ := hh
    obtain ⟨c, hc, ec⟩ := alph_item hp0 hp1
    refine ⟨h', tk', news', e1, F'', N'', o1, hS, e2, cs ++ [c], by simp [hl], fun z hz => ?_, ?_⟩
    · rcases List.mem_append.mp hz with hz | hz
      · exact hcs z hz
      · rw [List.mem_singleton.mp hz]; exact hc
    · rw [ec, List.map_append]
      exact strs_snoc hst (tx [c]) t'
  · obtain ⟨cs, hl, hcs, hst⟩ := hI
    exact fin ys cs (by omega) hcs hst g
noncomputable abbrev ledW (ws : List WQ) : List (Addr × Obj) := ws.map fun q => (q.1, tupO q)
theorem led_mem {ws : List WQ} {q : WQ} (h : q ∈ ws) : (q.1, tupO q) ∈ ledW ws := List.mem_map.mpr ⟨q, h, rfl⟩
theorem law_perm {h : Heap} {ws : List WQ} {a : Addr × Obj} {b : Addr × Obj} (N : News h₀ L h (a :: (ledW ws ++ [b]))) : News h₀ L h (b :: a :: ledW ws) := fun p hp => N p (by
  rcases List.mem_cons.mp hp with rfl | hp
  · exact .tail _ (List.mem_append_right _ (.head _))
  · rcases List.mem_cons.mp hp with rfl | hp
    · exact .head _
    · exact .tail _ (List.mem_append_left _ hp))
theorem law_off {h : Heap} {ws : List WQ} {wl c : Addr} {xs : Array Value} {n : Nat} (N : News h₀ L h ((c, tabObj #[]) :: (wl, W.listOf xs n) :: ledW ws)) : ∀ p ∈ (wl, W.listOf xs n) :: ledW ws, p.1 ≠ c := by
  intro p hp e
  have h1 := (N _ (.head _)).1
  have h2 := (N p (.tail _ hp)).1
  rw [e] at h2
  dsimp only at h1
  rw [h1] at h2
  have h3 := Option.some.inj h2
  rcases List.mem_cons.mp hp with rfl | hp
  · cases h3
  · obtain ⟨q, hq, rfl⟩ := List.mem_map.mp hp
    cases h3
theorem ones_sum : ∀ cs : List Nat, ((cs.map fun c => tx [c]).map (·.length)).sum = cs.length
  | [] => rfl
  | c :: cs => by
    have ih := ones_sum cs
    rw [List.map_cons, List.map_cons, List.sum_cons, ih, List.length_cons]
    have : (tx [c]).length = 1 := rfl
    omega
theorem join_signs {cs : List Nat} : Txt.join (Str.ofString "") (cs.map fun c => tx [c]) = tx cs := by
  have h := eq_of_beq (join_closes (sep := Str.ofString "") (sep' := ⟨#[]⟩) (ys := cs.map fun c => tx [c]) (by decide +kernel))
  rw [h]
  exact join_ones cs
end
end Mine
end
section
open PySem PySem.W PyProof.Rows PySem.Calls PySem.Spec PyProof
set_option Elab.async false
set_option maxRecDepth 100000
set_option maxHeartbeats 8000000
namespace Mine
theorem rules_W2_0 : True := by
  w_top off
  k_with_none
  (k_with "k tr" => (first | with_reducible assumption | (refine Nat.lt_trans (by with_reducible assumption) ?_; k_extra "k tr")))
  (k_with "storeName" => (k_here; k_dflt (refine' storeX_LL ?F ?N ?_ ?a ?b; (case F => k_asm); (case N => k_asm); (case a => rfl); (case b => rfl); k_whole); intro h' m' F' N'; (try k_sweep)))
  (k_with "execs cons" => (k_here; first | (with_unfolding_all (refine gen_toks0 (Nat.succ_pos _) ?_); intro tk') | with_reducible refine execs_one ?_ | ((with_reducible refine wpAny_execs_cons ?_); (try dsimp only); try k_fold)))
  (k_with "call builtin:str.replace" => (k_here; k_dflt (refine' rep_rule (hx := ?hx) (hy := ?hy) (hz := ?hz) ?hu ?hv ?huv ?hyz ?hb ?hb2 ?_); (case hx => first | exact lit_ap | exact rfl); (case hy => first | exact lit_bs | exact lit_nl | exact lit_tb | exact lit_ap); (case hz => first | exact lit_bs2 | exact lit_bn | exact lit_bt | exact lit_n | exact lit_t | exact lit_q5); (case hu => (show @Ne Nat _ _); (try dsimp only); omega); (case hv => (show @Ne Nat _ _); (try dsimp only); omega); (case huv => (show @Ne Nat _ _); (try dsimp only); omega); (case hyz => decide +kernel); (case hb => first | assumption | omega); (case hb2 => decide); intro t' k' hk'; (try dsimp only at hk')))
  (k_with "call builtin:repr" => (k_here; k_dflt (refine repr_of_str ?_ ?hsz); (case hsz => assumption)))
  (k_with "k all" => (refine' ne_low ?zh ?zb; (case zh => assumption); (case zb => first | omega | ((try simp only); omega))))
  (k_with "k all" => assumption)
  (k_with "eval ListComp" => (k_here; k_dflt (refine LCg.ListComp_U (F₀ := by k_asm) (by with_unfolding_all rfl) (by decide) (by rfl) (by decide) (by rfl) ?_)))
  (k_with "call builtin:str.join" => (k_here; k_dflt (refine' join_list (hl := ?jl) (hi := ?ji) (hok := ?jo) ?_; (case ji => assumption); (case jl => is_list); (case jo => assumption); k_whole); intro t9 k9))
  trivial
theorem c_words {w : World} {pg : Program} {loose : List Str} {mean : ExcName → Option Value} {mg mb : Str → Option Value}
  {dp un : Nat} {gd : Option (List Code)} {env : Env} {outer : List Env} {A₀ : Around} {base h₀ : Heap} {L : Addr} {m : Str → Option Value} {s : Shared} {Q E : Value → Shared → Prop}
  {l : Addr} {vs : List Value} {ns : List Int} (hl : h₀.IsList l vs.toArray) (hi : IntsAre vs ns) (hlen : ¬ (63 : Int) < (ns.length : Int)) {rest : List (Addr × Obj)} (N : News h₀ L s.heap rest)
  (B : Below A₀ base outer h₀) (F : Fr h₀ L s.heap m) (X : (Mine.K w.params).In h₀) (T : Top pg loose mean mg mb h₀) (hf : env.frame = some L) (hk : env.scope.kind = .function)
  (hdp : dp + 30 < recursionLimit) (hun : un + 200 < cLine)
  (hret : ∀ (ws : List WQ) (wl : Addr) (k9 : Nat) (h' : Heap) (tk' : Nat), ws.length ≤ 6 → 0 < ws.length → (∀ q ∈ ws, okp (q.2.1, q.2.2.2)) → Fr h₀ L h' m → News h₀ L h' ((wl, W.listOf (wrefs ws).toArray k9) :: (ledW ws ++ rest)) → Q (.ref wl) { s with heap := h', toks := tk' }) (foo : PySem.Challenge.rw_in0140_01.foot = 8) :
   wpAny (model PySem.Challenge.rw_in0140_01.row.prog w) (arnd dp un gd env outer) (call (.ref 806) [.ref l]) Q E s := by
  revert foo X
  k_fill
  intro X foo
  clear foo
  refine wpAny_call ?_
  k_dflt ((refine' code_defC ?k1 ?k2 ?k3 ?k4 ?k5 ?kA ?kF ?kK ?k6 ?k7 ?k8 ?k9 ?kB ?kD ?_ ?c2 ?c3 ?c4; (case kA => exact rfl); (case kF => first | exact hf | exact rfl); (case kK => first | exact hk | exact rfl); (case k1 => k_asm); (case k2 => k_asm); (case k3 => k_asm); (case k4 => k_asm); (case k5 => k_asm); (case k6 => k_is); (case k7 => k_is); (case k8 => k_room); (case k9 => first | exact BindsTo.of_eq rfl | exact binds_K (by k_in) rfl (by k_is) rfl rfl rfl); (case kB => exact rfl); (case kD => decide +kernel); (case c2 => exact rfl); (case c3 => exact rfl); (case c4 => exact rfl); k_whole; intro g' L' h' tk' cells' FG' F' N' Y' B' X' T' l1; (try k_lt l1); k_cells Y'; (try simp only [List.cons_append, List.nil_append] at N'); (try dsimp only); (try k_lift B'); (try k_fold)))
  have hl' : g'.IsList l vs.toArray := hl.at fun o e => FG'.keep _ o e
  have hlen' : ns.length ≤ 63 := by omega
  (rename (∀ p, p ∈ rest → _ < _) => hA9)
  have hA := (show Low rest _ from hA9)
  (repeat' ((fail_if_success (with_reducible show wpAny _ _ (exec (Stmt.For _ _ _ _ _) _) _ _ _)); (first | (k_unfold; (try dsimp only)) | (k_end; wrow_close) | walk1 | (dsimp only; walk1) | (leave1; walk_say "STEP leave1"; try dsimp only) | fail "no step")))
  refine For_invV g' rfl rfl ?_
  (repeat' ((fail_if_success (with_reducible show wpAny _ _ (pyIter _) _ _ _)); (first | (k_unfold; (try dsimp only)) | (k_end; wrow_close) | walk1 | (dsimp only; walk1) | (leave1; walk_say "STEP leave1"; try dsimp only) | fail "no step")))
  (k_dflt (refine' for_wrd (F := ?F) (hi := ?hi) (N := ?N) (hh := ?hh) (hn := ?hn) (hoc := ?hoc) (n1 := ?n1) (n2 := ?n2) (n3 := ?n3) (n4 := ?n4) (n5 := ?n5) (n6 := ?n6) (n7 := ?n7) (n8 := ?n8) (n9 := ?n9) (r1 := ?r1) (r2 := ?r2) (r3 := ?r3) (turn := ?turn) (done := ?done))); (case F => k_asm); (case N => k_asm); (case hi => assumption); (case hh => exact rfl); (case hn => omega); (case hoc => assumption); (case n1 => (show @Ne Nat _ _); omega); (case n2 => (show @Ne Nat _ _); omega); (case n3 => (show @Ne Nat _ _); omega); (case n4 => (show @Ne Nat _ _); omega); (case n5 => (show @Ne Nat _ _); omega); (case n6 => (show @Ne Nat _ _); omega); (case n7 => (show @Ne Nat _ _); omega); (case n8 => (show @Ne Nat _ _); omega); (case n9 => (show @Ne Nat _ _); omega); (case r1 => k_all); (case r2 => k_all); (case r3 => k_all)
  case turn =>
    intro nv t k9 xs R oc c v5 h9 tk hnv hxs hoc hR1 hR2 hR3 F9 N9
    (repeat' ((fail_if_success (with_reducible show LCg.CompSrc _ _ _ _ _ _ _ _ _ _ _ _ _ _)); (first | (k_unfold; (try dsimp only)) | (k_end; wrow_close) | walk1 | (dsimp only; walk1) | (leave1; walk_say "STEP leave1"; try dsimp only) | fail "no step")))
    (k_dflt (refine' src_places (hh := ?hh) (F := ?F) (N := ?N) (hr := ?hr) (h0 := ?h0) (h4 := ?h4) (elt_ok := ?el) (fin := ?fin)); (case hh => exact rfl); (case F => k_asm); (case N => k_asm); (case hr => assumption); (case h0 => (have hE := small5 (nv.fmod 100000); omega)); (case h4 => (have hE := small5 (nv.fmod 100000); omega)))
    case el =>
      intro i tt I oI C oC D m₂ ys h tk E' hi hC hx F N off ne
      rcases hi with rfl | rfl | rfl | rfl
      all_goals (k_steps; (refine LCg.CompEnd.intro F N _ (fun p hp => hp) off trivial ⟨rfl, _, _, rfl, ?_, ?_⟩); (exact fmod_lo _ (by decide)); (exact fmod_hi _ (by decide)))
    case fin =>
      intro ys hl4 hps g
      unfold LCg.FinA
      intro D' h' tk' F' N' o1'
      (try simp only [LCg.Off1] at o1')
      (try dsimp only)
      (repeat' ((fail_if_success (with_reducible show LCg.CompSrc _ _ _ _ _ _ _ _ _ _ _ _ _ _)); (first | (k_unfold; (try dsimp only)) | (k_end; wrow_close) | walk1 | (dsimp only; walk1) | (leave1; walk_say "STEP leave1"; try dsimp only) | fail "no step")))
      (k_dflt (refine' src_signs (hh := ?hh) (F := ?F) (N := ?N) (hm := ?hm) (hps := hps) (hl4 := hl4) (elt_ok := ?el) (fin := ?fin)); (case hh => exact rfl); (case F => k_asm); (case N => k_asm); (case hm => exact List.Mem.head _))
      case el =>
        intro p tt I oI C oC D m₂ ys h tk E' hp0 hp1 hC hx F N off ne
        k_steps
        exact LCg.CompEnd.intro F N _ (fun p hp => hp) off (Or.inr ⟨_, List.Mem.head _, rfl, _, rfl⟩) ⟨rfl, _, rfl⟩
      case fin =>
        intro ys cs hc4 hcs hst g
        unfold LCg.FinE
        intro D' h' tk' F' N' o1'
        (try simp only [LCg.Off1] at o1')
        (try dsimp only)
        have hjn : ((cs.map fun c => tx [c]).map (·.length)).sum + (cs.map fun c => tx [c]).length * (Str.ofString "").length ≤ 16777216 := by
          rw [lit_e]
          rw [ones_sum, tx_len, List.length_map]
          simp only [List.length_nil, Nat.mul_zero]; omega
        k_steps
        (rename News _ _ _ _ => N9)
        first | rw [List.push_toArray, join_signs] at N9 | rw [join_signs] at N9
        (rename _ ∧ _ ∧ _ ∧ _ ∧ _ ∧ AllLt _ R => hA8)
        obtain ⟨q1, q2, q3, q4, q5, q6⟩ := hA8
        (k_dflt (refine' vstep_go (F := ?lF) (N := ?lN) (hc := ?lc) (hok := ?lo) (hR := ?lR) (h1 := ?l1) (h2 := ?l2) (h3 := ?l3) (hm := ?lm))); (case lF => k_asm); (case lN => (refine' cb_drop N9 ?_; repeat' (first | refine' List.forall_mem_cons.mpr ⟨?_, ?_⟩ | exact List.Mem.head _ | (intro z9 hz9; repeat (first | exact hz9 | refine' List.Mem.tail _ ?_)) | refine' List.Mem.tail _ ?_))); (case lc => assumption); (case lo => exact alph_okp hcs hc4); (case lR => exact fun q hq => Nat.ne_of_lt (allLt_all q6 q hq)); (case l1 => exact Nat.ne_of_gt q3); (case l2 => exact Nat.ne_of_gt q4); (case l3 => exact Nat.ne_of_gt q5); (case lm => (intro z9 h8 h9; simp only [if_neg h8, if_neg h9, mapV]))
  case done =>
    intro ws k9 tl oc v1 v2 h9 tk9 hl6 hl0 hok hmem hne F9 N9
    k_steps
    (rename News _ _ _ _ => N9)
    exact hret ws _ k9 _ _ hl6 hl0 hok (by k_asm) (fun p hp => N9 p (by
      rcases List.mem_cons.mp hp with h | h
      · exact .tail _ (h ▸ .head _)
      · rcases List.mem_append.mp h with h | h
        · obtain ⟨q, hq, rfl⟩ := List.mem_map.mp h
          exact .tail _ (.tail _ (.tail _ (List.mem_append_left _ (hmem q hq))))
        · exact .tail _ (.tail _ (.tail _ (List.mem_append_right _ h)))))
end Mine
end
section
open PySem PySem.W PyProof.Rows PySem.Calls PySem.Spec PyProof PyProof.Rows.LCg PyProof.Rows.LCp
set_option maxRecDepth 100000
set_option maxHeartbeats 8000000
namespace Mine
section
variable {prog : Program} {w : World} {A : Around} {E : Value → Shared → Prop} {s s₁ : Shared} {h₀ : Heap} {L : Addr} {m : Str → Option Value} {env : Env}
  {elt : Expr} {x x₂ : Str} {scope : Scope} {cl : List (Str × Addr)} {news : List (Addr × Obj)}
theorem src_line {Fin : Shared → List Value → List (Addr × Obj) → Prop} {ws : List WQ} {wl : Addr} {k9 : Nat} (hh : A.handled = none) (F : Fr h₀ L s₁.heap m) (N : News h₀ L s₁.heap news) (hwl : (wl, W.listOf (wrefs ws).toArray k9) ∈ news) (hmem : ∀ q ∈ ws, (q.1, tupO q) ∈ news) (hl6 : ws.length ≤ 6)
    (elt_ok : ∀ (q : WQ), q ∈ ws → ∀ I oI C oC D m₂ (ys : List Value) h tk (E' : Value → Shared → Prop), NsObj oC m₂ → m₂ x = some (.str (tx q.2.1) q.2.2.1) → m₂ x₂ = some (.bool q.2.2.2) → Fr h₀ L h m → News h₀ L h ((I, oI) :: (C, oC) :: (D, lst ys) :: news) → Off3 I C D news → ((@Ne Nat I C) ∧ (@Ne Nat I D) ∧ (@Ne Nat C D)) →
      wpAny (model prog w) A (eval elt (compEnvC scope cl C env)) (CompEnd h₀ L m { s₁ with heap := h, toks := tk } I oI C oC D (lst ys) (SrcAt h₀ wl (wrefs ws).toArray) (fun y news' => news' = news ∧ ∃ (t' : Tok), y = .str (tx (encL (q.2.1, q.2.2.2))) t')) E' { s₁ with heap := h, toks := tk })
    (fin : ∀ ys, StrsAre ys ((wprs ws).map fun p => tx (encL p)) → ∀ g, Fin { s₁ with heap := g } ys news) : SrcLP prog w A h₀ L m env elt x x₂ scope cl Fin (.ref wl) s₁ := by
  refine SrcLP.ledger (k := k9) (its := (wrefs ws).toArray) hh F N hwl (by rw [sizeLine_eq, List.size_toArray, List.length_map]; omega) (fun g => ?_)
  rw [List.size_toArray, List.length_map]
  refine compP_ind ws.length (fun i ys => StrsAre ys (((wprs ws).take i).map fun p => tx (encL p))) ?_ (fun ys hI => ?_) ws.length 0 [] rfl StrsAre.nil
  · intro i ys hi hst v hP
    have hq : ws[i]? = some ws[i] := by simp [hi]
    have hv : v = .ref ws[i].1 := by
      have hP' : ((wrefs ws).toArray)[i]? = some v := hP
      simp [hi] at hP'
      exact hP'.symm
    subst hv
    refine ⟨ws[i].1, tupO ws[i], _, _, _, rfl, hmem _ (List.getElem_mem hi), rfl, rfl, fun I oI C oC D m₂ h tk E' hC hx hx2 F' N' off ne => ?_⟩
    refine wpAny_mono (elt_ok ws[i] (List.getElem_mem hi) I oI C oC D m₂ ys h tk E' hC hx hx2 F' N' off ne) (fun y s₂ hh => ?_) (fun _ _ z => z)
    obtain ⟨h', tk', news', e1, F'', N'', o1, hS, e2, t', rfl⟩ := hh
    refine ⟨h', tk', news', e1, F'', N'', o1, hS, e2, ?_⟩
    have e3 : (wprs ws).take (i + 1) = (wprs ws).take i ++ [(ws[i].2.1, ws[i].2.2.2)] := by
      rw [List.take_add_one]
      simp [hi]
    rw [e3, List.map_append]
    exact strs_snoc hst _ t'
  · rw [List.take_of_length_le (by simp)] at hI
    exact fin ys hI g
end
theorem join_line : ∀ (ps : List (List Nat × Bool)), Txt.join (Str.ofString " ") (ps.map fun p => tx (encL p)) = tx (lineL ps) := by
  intro ps
  have h := eq_of_beq (join_closes (sep := Str.ofString " ") (sep' := tx [32]) (ys := ps.map fun p => tx (encL p)) lit_sp)
  rw [h]
  clear h
  induction ps with
  | nil => rfl
  | cons p r ih =>
    cases r with
    | nil =>
      rw [lineL_cons]
      show tx (encL p) = tx (encL p ++ [])
      rw [List.append_nil]
    | cons q r =>
      rw [lineL_cons]
      show tx (encL p) ++ tx [32] ++ Str.join (tx [32]) ((q :: r).map fun p => tx (encL p)) = tx (encL p ++ 32 :: lineL (q :: r))
      rw [ih, tx_app, tx_app]
      simp
theorem line_sum : ∀ (ps : List (List Nat × Bool)), (∀ p ∈ ps, okw p.1) → ((ps.map fun p => tx (encL p)).map (·.length)).sum ≤ 32 * ps.length
  | [], _ => by simp
  | p :: r, h => by
    have ih := line_sum r fun q hq => h q (.tail _ hq)
    have h1 := enc_len p
    have h2 := (h p (.head _)).2
    rw [List.map_cons, List.map_cons, List.sum_cons, List.length_cons, tx_len]
    omega
theorem line_fits {ps : List (List Nat × Bool)} (h : ∀ p ∈ ps, okw p.1) (hl : ps.length ≤ 6) : ((ps.map fun p => tx (encL p)).map (·.length)).sum + (ps.map fun p => tx (encL p)).length * (Str.ofString " ").length ≤ 16777216 := by
  have h1 := line_sum ps h
  rw [lit_sp, tx_len, List.length_map]
  simp only [List.length_cons, List.length_nil]
  omega
theorem wprs_ok {ws : List WQ} (h : ∀ q ∈ ws, okp (q.2.1, q.2.2.2)) : ∀ p ∈ wprs ws, okw p.1 := by
  intro p hp
  obtain ⟨q, hq, rfl⟩ := List.mem_map.mp hp
  exact (h q hq).1
end Mine
end
section
open PySem PySem.W PyProof.Rows PySem.Calls PySem.Spec PyProof
set_option maxRecDepth 100000
set_option maxHeartbeats 8000000
namespace Mine
theorem rules_G4_n : True := by
  w_top off
  k_with_none
  trivial
theorem c_gtk_mid {w : World} {pg : Program} {loose : List Str} {mean : ExcName → Option Value} {mg mb : Str → Option Value}
  {dp un : Nat} {gd : Option (List Code)} {env : Env} {outer : List Env} {A₀ : Around} {base h₀ : Heap} {L : Addr} {m : Str → Option Value} {s : Shared} {Q E : Value → Shared → Prop}
  {x1 dx1 x d pb fs : Addr} {ln : Int} {u1 u2 k0 k1 k2 k3 k4 k5 k6 k7 k8 k9 k10 k11 k12 k13 k14 k15 k16 k17 k18 v4 v5 v6 v8 v9 v10 v14 v18 i1 i2 i3 i4 i5 i6 : Tok} {u3 : Tok} {S : Str} {n : Nat} {p : Int} (hp : p = n) (hn : n ≤ S.length) (hS : S.length ≤ 3990) {rest : List (Addr × Obj)} (o1 : @LT.lt Nat _ d x) (o2 : @LT.lt Nat _ x dx1) (o3 : @LT.lt Nat _ dx1 x1) (o4 : @LT.lt Nat _ x1 pb) (o5 : @LT.lt Nat _ pb fs) (off1 : ∀ q ∈ rest, q.1 ≠ d) (off2 : ∀ q ∈ rest, q.1 ≠ dx1)
  (N : News h₀ L s.heap ((x1, instObj 647 dx1) :: (dx1, dictOf (sioE w S p i1 i2 i3 i4 i5 i6) 3) :: (x, instObj 782 d) :: (d, dictOf (shlE w x1 pb fs (.str " " u3) ln (Str.ofString "") u1 u2 k0 k1 k2 k3 k4 k5 k6 k7 k8 k9 k10 k11 k12 k13 k14 k15 k16 k17 k18 v4 v5 v6 v8 v9 v10 v14 v18) 19) :: (pb, dqObj) :: (fs, dqObj) :: rest)) {w9 r9 : List Nat} (hout : s0 (S.cps.toList.drop n) = (w9, r9, 0))
  (B : Below A₀ base outer h₀) (F : Fr h₀ L s.heap m) (X : (Mine.K w.params).In h₀) (T : Top pg loose mean mg mb h₀) (hf : env.frame = some L) (hk : env.scope.kind = .function)
  (hdp : dp + 16 < recursionLimit) (hun : un + 180 < cLine)
  (g0 : ∀ (n' : Nat) (p' ln' : Int) (u1' u2' u3' i6' : Tok) (t : Tok) (h' : Heap) (tk' : Nat), Fr h₀ L h' m → p' = (n' : Int) → n' ≤ S.length → S.cps.toList.drop n' = r9 → News h₀ L h' ((x1, instObj 647 dx1) :: (dx1, dictOf (sioE w S p' i1 i2 i3 i4 i5 i6') 3) :: (x, instObj 782 d) :: (d, dictOf (shlE w x1 pb fs (.str " " u3') ln' (Str.ofString "") u1' u2' k0 k1 k2 k3 k4 k5 k6 k7 k8 k9 k10 k11 k12 k13 k14 k15 k16 k17 k18 v4 v5 v6 v8 v9 v10 v14 v18) 19) :: (pb, dqObj) :: (fs, dqObj) :: rest) → Q (.str (tx w9) t) { s with heap := h', toks := tk' }) (foo : PySem.Challenge.rw_in0140_01.foot = 8) :
   wpAny (model PySem.Challenge.rw_in0140_01.row.prog w) (arnd dp un gd env outer) (call (.ref 743) [.ref x]) Q E s := by
  refine c_gtk (hout := hout) (h4 := by simp) (hp := hp) (hn := hn) (hS := hS) (o1 := o1) (o2 := o2) (o3 := o3) (o4 := o4) (o5 := o5) (off1 := off1) (off2 := off2) (htw := lit_e) (N := N) (B := B) (F := F) (X := X) (T := T) (hf := hf) (hk := hk) (hdp := hdp) (hun := hun) (foo := foo) ?_ ?_ ?_ ?_ ?_
  · intro t9 r e9 n' p' ln' a b c d t h' tk' F' a1 a2 a3 N'
    have e1 : w9 = t9 := congrArg (fun z => z.1) e9
    have e2 : r9 = r := congrArg (fun z => z.2.1) e9
    subst e1 e2
    exact g0 n' p' ln' a b c d t h' tk' F' a1 a2 a3 N'
  · intro t9 r e9; exact absurd (congrArg (fun z => z.2.2) e9) (by simp)
  · intro t9 r e9; exact absurd (congrArg (fun z => z.2.2) e9) (by simp)
  · intro t9 r e9; exact absurd (congrArg (fun z => z.2.2) e9) (by simp)
  · intro t9 r e9; exact absurd (congrArg (fun z => z.2.2) e9) (by simp)

theorem c_gtk_end {w : World} {pg : Program} {loose : List Str} {mean : ExcName → Option Value} {mg mb : Str → Option Value}
  {dp un : Nat} {gd : Option (List Code)} {env : Env} {outer : List Env} {A₀ : Around} {base h₀ : Heap} {L : Addr} {m : Str → Option Value} {s : Shared} {Q E : Value → Shared → Prop}
  {x1 dx1 x d pb fs : Addr} {ln : Int} {u1 u2 k0 k1 k2 k3 k4 k5 k6 k7 k8 k9 k10 k11 k12 k13 k14 k15 k16 k17 k18 v4 v5 v6 v8 v9 v10 v14 v18 i1 i2 i3 i4 i5 i6 : Tok} {u3 : Tok} {S : Str} {n : Nat} {p : Int} (hp : p = n) (hn : n ≤ S.length) (hS : S.length ≤ 3990) {rest : List (Addr × Obj)} (o1 : @LT.lt Nat _ d x) (o2 : @LT.lt Nat _ x dx1) (o3 : @LT.lt Nat _ dx1 x1) (o4 : @LT.lt Nat _ x1 pb) (o5 : @LT.lt Nat _ pb fs) (off1 : ∀ q ∈ rest, q.1 ≠ d) (off2 : ∀ q ∈ rest, q.1 ≠ dx1)
  (N : News h₀ L s.heap ((x1, instObj 647 dx1) :: (dx1, dictOf (sioE w S p i1 i2 i3 i4 i5 i6) 3) :: (x, instObj 782 d) :: (d, dictOf (shlE w x1 pb fs (.str " " u3) ln (Str.ofString "") u1 u2 k0 k1 k2 k3 k4 k5 k6 k7 k8 k9 k10 k11 k12 k13 k14 k15 k16 k17 k18 v4 v5 v6 v8 v9 v10 v14 v18) 19) :: (pb, dqObj) :: (fs, dqObj) :: rest)) {w9 r9 : List Nat} (hout : s0 (S.cps.toList.drop n) = (w9, r9, 1))
  (B : Below A₀ base outer h₀) (F : Fr h₀ L s.heap m) (X : (Mine.K w.params).In h₀) (T : Top pg loose mean mg mb h₀) (hf : env.frame = some L) (hk : env.scope.kind = .function)
  (hdp : dp + 16 < recursionLimit) (hun : un + 180 < cLine)
  (g1 : ∀ (p' ln' : Int) (u1' u2' i6' : Tok) (t : Tok) (h' : Heap) (tk' : Nat), Fr h₀ L h' m → p' = (S.length : Int) → News h₀ L h' ((x1, instObj 647 dx1) :: (dx1, dictOf (sioE w S p' i1 i2 i3 i4 i5 i6') 3) :: (x, instObj 782 d) :: (d, dictOf (shlE w x1 pb fs .none ln' (Str.ofString "") u1' u2' k0 k1 k2 k3 k4 k5 k6 k7 k8 k9 k10 k11 k12 k13 k14 k15 k16 k17 k18 v4 v5 v6 v8 v9 v10 v14 v18) 19) :: (pb, dqObj) :: (fs, dqObj) :: rest) → Q (.str (tx w9) t) { s with heap := h', toks := tk' }) (foo : PySem.Challenge.rw_in0140_01.foot = 8) :
   wpAny (model PySem.Challenge.rw_in0140_01.row.prog w) (arnd dp un gd env outer) (call (.ref 743) [.ref x]) Q E s := by
  refine c_gtk (hout := hout) (h4 := by simp) (hp := hp) (hn := hn) (hS := hS) (o1 := o1) (o2 := o2) (o3 := o3) (o4 := o4) (o5 := o5) (off1 := off1) (off2 := off2) (htw := lit_e) (N := N) (B := B) (F := F) (X := X) (T := T) (hf := hf) (hk := hk) (hdp := hdp) (hun := hun) (foo := foo) ?_ ?_ ?_ ?_ ?_
  · intro t9 r e9; exact absurd (congrArg (fun z => z.2.2) e9) (by simp)
  · intro t9 r e9 p' ln' a b c t h' tk' F' a1 N'
    have e1 : w9 = t9 := congrArg (fun z => z.1) e9
    subst e1
    exact g1 p' ln' a b c t h' tk' F' a1 N'
  · intro t9 r e9; exact absurd (congrArg (fun z => z.2.2) e9) (by simp)
  · intro t9 r e9; exact absurd (congrArg (fun z => z.2.2) e9) (by simp)
  · intro t9 r e9; exact absurd (congrArg (fun z => z.2.2) e9) (by simp)

theorem c_gtk_part {w : World} {pg : Program} {loose : List Str} {mean : ExcName → Option Value} {mg mb : Str → Option Value}
  {dp un : Nat} {gd : Option (List Code)} {env : Env} {outer : List Env} {A₀ : Around} {base h₀ : Heap} {L : Addr} {m : Str → Option Value} {s : Shared} {Q E : Value → Shared → Prop}
  {x1 dx1 x d pb fs : Addr} {ln : Int} {u1 u2 k0 k1 k2 k3 k4 k5 k6 k7 k8 k9 k10 k11 k12 k13 k14 k15 k16 k17 k18 v4 v5 v6 v8 v9 v10 v14 v18 i1 i2 i3 i4 i5 i6 : Tok} {u3 : Tok} {S : Str} {n : Nat} {p : Int} (hp : p = n) (hn : n ≤ S.length) (hS : S.length ≤ 3990) {rest : List (Addr × Obj)} (o1 : @LT.lt Nat _ d x) (o2 : @LT.lt Nat _ x dx1) (o3 : @LT.lt Nat _ dx1 x1) (o4 : @LT.lt Nat _ x1 pb) (o5 : @LT.lt Nat _ pb fs) (off1 : ∀ q ∈ rest, q.1 ≠ d) (off2 : ∀ q ∈ rest, q.1 ≠ dx1)
  (N : News h₀ L s.heap ((x1, instObj 647 dx1) :: (dx1, dictOf (sioE w S p i1 i2 i3 i4 i5 i6) 3) :: (x, instObj 782 d) :: (d, dictOf (shlE w x1 pb fs (.str " " u3) ln (Str.ofString "") u1 u2 k0 k1 k2 k3 k4 k5 k6 k7 k8 k9 k10 k11 k12 k13 k14 k15 k16 k17 k18 v4 v5 v6 v8 v9 v10 v14 v18) 19) :: (pb, dqObj) :: (fs, dqObj) :: rest)) {out : List Nat × List Nat × Nat} (hout : s0 (S.cps.toList.drop n) = out) (ho : out.2.2 = 0 ∨ out.2.2 = 1 ∨ out.2.2 = 2 ∨ out.2.2 = 3)
  (B : Below A₀ base outer h₀) (F : Fr h₀ L s.heap m) (X : (Mine.K w.params).In h₀) (T : Top pg loose mean mg mb h₀) (hf : env.frame = some L) (hk : env.scope.kind = .function)
  (hdp : dp + 16 < recursionLimit) (hun : un + 180 < cLine)
  (gv : ∀ (t : Tok) (h' : Heap) (tk' : Nat), Fr h₀ L h' m → News h₀ L h' rest → Q (.str (tx out.1) t) { s with heap := h', toks := tk' })
  (ge : ∀ (e : Addr) (g₂ h' : Heap) (tk' : Nat), Fr h₀ L g₂ m → RaisedSN base g₂ (env :: outer) e (.type "ValueError") rest h' → g₂.UpToSlots h' → E (.ref e) { s with heap := h', toks := tk' }) (foo : PySem.Challenge.rw_in0140_01.foot = 8) :
   wpAny (model PySem.Challenge.rw_in0140_01.row.prog w) (arnd dp un gd env outer) (call (.ref 743) [.ref x]) Q E s := by
  refine c_gtk (hout := hout) (h4 := by rcases ho with h | h | h | h <;> rw [h] <;> decide) (hp := hp) (hn := hn) (hS := hS) (o1 := o1) (o2 := o2) (o3 := o3) (o4 := o4) (o5 := o5) (off1 := off1) (off2 := off2) (htw := lit_e) (N := N) (B := B) (F := F) (X := X) (T := T) (hf := hf) (hk := hk) (hdp := hdp) (hun := hun) (foo := foo) ?_ ?_ ?_ ?_ ?_
  · intro t9 r e9 n' p' ln' a b c d t h' tk' F' a1 a2 a3 N'
    subst e9
    refine gv t h' tk' F' ?_
    exact fun q hq => N' q (by iterate 6 refine .tail _ ?_
                               exact hq)
  · intro t9 r e9 p' ln' a b c t h' tk' F' a1 N'
    subst e9
    refine gv t h' tk' F' ?_
    exact fun q hq => N' q (by iterate 6 refine .tail _ ?_
                               exact hq)
  · intro t9 r e9 e g₂ h' tk' F' a b
    exact ge e g₂ h' tk' F' a b
  · intro t9 r e9 p' ln' a b c d t h' tk' F' a1 a2 N'
    subst e9
    refine gv t h' tk' F' ?_
    exact fun q hq => N' q (by iterate 6 refine .tail _ ?_
                               exact hq)
  · intro t9 r e9
    subst e9
    exact absurd ho (by simp)


theorem she_len {w : List Nat} {b : Bool} (h : w.length ≤ 6) : (sheL w b).1.length ≤ 14 := by
  have h1 := escL_len true (w.takeWhile (· != 39))
  have h2 := escL_len (!w.contains 39) w
  have h3 := takeWhile_le (· != 39) w
  unfold sheL
  repeat' split
  · dsimp only; omega
  · dsimp only; rw [List.length_append]; show _ + 1 ≤ _; omega
  · dsimp only; omega
inductive ShJ (w : World) (S : Str) (x1 dx1 x d pb fs : Addr) (k0 k1 k2 k3 k4 k5 k6 k7 k8 k9 k10 k11 k12 k13 k14 k15 k16 k17 k18 v4 v5 v6 v8 v9 v10 v14 v18 i1 i2 i3 i4 i5 : Tok) (ws : List WQ) (rest : List (Addr × Obj)) (i : Nat) (news₁ : List (Addr × Obj)) : Prop
  | mk (p ln : Int) (sv : Value) (u1 u2 i6 : Tok) (r0 : ((i < ws.length ∧ ∃ (n : Nat) (u3 : Tok), (sv = .str " " u3 ∧ p = (n : Int) ∧ n ≤ S.length ∧ S.cps.toList.drop n = lineL ((wprs ws).drop i))) ∨ (i = ws.length ∧ sv = .none ∧ p = (S.length : Int)))) (r1 : news₁ = (x1, instObj 647 dx1) :: (dx1, dictOf (sioE w S p i1 i2 i3 i4 i5 i6) 3) :: (x, instObj 782 d) :: (d, dictOf (shlE w x1 pb fs sv ln (Str.ofString "") u1 u2 k0 k1 k2 k3 k4 k5 k6 k7 k8 k9 k10 k11 k12 k13 k14 k15 k16 k17 k18 v4 v5 v6 v8 v9 v10 v14 v18) 19) :: (pb, dqObj) :: (fs, dqObj) :: rest) : ShJ w S x1 dx1 x d pb fs k0 k1 k2 k3 k4 k5 k6 k7 k8 k9 k10 k11 k12 k13 k14 k15 k16 k17 k18 v4 v5 v6 v8 v9 v10 v14 v18 i1 i2 i3 i4 i5 ws rest i news₁
theorem for_second {prog : Program} {w : World} {A : Around} {E : Value → Shared → Prop} {s : Shared} {h₀ : Heap} {L : Addr} {m : Str → Option Value} {env : Env}
  {yn : Str} {pa pbb tpp py pos : Pos} {kk : Nat} {body : List Stmt} {Q : Flow → Shared → Prop} {S : Str} {ws : List WQ} {wl : Addr} {n9 : Nat} {x1 dx1 x d pb fs : Addr} {k0 k1 k2 k3 k4 k5 k6 k7 k8 k9 k10 k11 k12 k13 k14 k15 k16 k17 k18 v4 v5 v6 v8 v9 v10 v14 v18 i1 i2 i3 i4 i5 : Tok} {rest : List (Addr × Obj)} {n : Nat} {p ln : Int} {u1 u2 u3 i6 : Tok}
  (F : Fr h₀ L s.heap m) (N : News h₀ L s.heap ((x1, instObj 647 dx1) :: (dx1, dictOf (sioE w S p i1 i2 i3 i4 i5 i6) 3) :: (x, instObj 782 d) :: (d, dictOf (shlE w x1 pb fs (.str " " u3) ln (Str.ofString "") u1 u2 k0 k1 k2 k3 k4 k5 k6 k7 k8 k9 k10 k11 k12 k13 k14 k15 k16 k17 k18 v4 v5 v6 v8 v9 v10 v14 v18) 19) :: (pb, dqObj) :: (fs, dqObj) :: rest)) (hp0 : p = (n : Int)) (hn : n ≤ S.length) (hr : S.cps.toList.drop n = lineL (wprs ws)) (hne : 0 < ws.length)
  (hwl : (wl, W.listOf (wrefs ws).toArray n9) ∈ rest) (hws : ∀ q ∈ ws, (q.1, tupO q) ∈ rest)
    (hh : A.handled = none)
    (ev : ∀ Q' : Value → Shared → Prop, Q' (.ref wl) s → wpAny (model prog w) A (eval (.Name yn py) env) Q' E s)
    (ha : env.kindOf (Str.ofString "word") = some .local) (hb : env.kindOf (Str.ofString "by_repr") = some .local) (hLe : env.locals = L) (hp : (env.scope.kind == .class || (env.scope.kind == .module && env.locals != env.globals)) = false)
    (turn : ∀ (i : Nat) (q : WQ) (n : Nat) (p ln : Int) (u1 u2 u3 i6 : Tok) (h₁ : Heap) (tk₁ : Nat) (I : Addr) (oI : Obj) (y3 y4 y5 : Option Value), ws[i]? = some q → p = (n : Int) → n ≤ S.length → S.cps.toList.drop n = lineL ((wprs ws).drop i) →
      (@Ne Nat x1 I ∧ @Ne Nat dx1 I ∧ @Ne Nat x I ∧ @Ne Nat d I ∧ @Ne Nat pb I ∧ @Ne Nat fs I) → (∀ p ∈ rest, p.1 ≠ I) → Fr h₀ L h₁ (mapW m (some (.bool q.2.2.2)) (some (.str (tx q.2.1) q.2.2.1)) y3 y4 y5) → News h₀ L h₁ ((I, oI) :: (x1, instObj 647 dx1) :: (dx1, dictOf (sioE w S p i1 i2 i3 i4 i5 i6) 3) :: (x, instObj 782 d) :: (d, dictOf (shlE w x1 pb fs (.str " " u3) ln (Str.ofString "") u1 u2 k0 k1 k2 k3 k4 k5 k6 k7 k8 k9 k10 k11 k12 k13 k14 k15 k16 k17 k18 v4 v5 v6 v8 v9 v10 v14 v18) 19) :: (pb, dqObj) :: (fs, dqObj) :: rest) →
      wpAny (model prog w) A (execs body env) (WStep h₀ L s I oI m (ShJ w S x1 dx1 x d pb fs k0 k1 k2 k3 k4 k5 k6 k7 k8 k9 k10 k11 k12 k13 k14 k15 k16 k17 k18 v4 v5 v6 v8 v9 v10 v14 v18 i1 i2 i3 i4 i5 ws rest) Q (i + 1)) E { s with heap := h₁, toks := tk₁ })
    (done : ∀ (p ln : Int) (u1 u2 i6 : Tok) (h₁ : Heap) (tk₁ : Nat) (y1 y2 y3 y4 y5 : Option Value), p = (S.length : Int) → Fr h₀ L h₁ (mapW m y1 y2 y3 y4 y5) → News h₀ L h₁ ((x1, instObj 647 dx1) :: (dx1, dictOf (sioE w S p i1 i2 i3 i4 i5 i6) 3) :: (x, instObj 782 d) :: (d, dictOf (shlE w x1 pb fs .none ln (Str.ofString "") u1 u2 k0 k1 k2 k3 k4 k5 k6 k7 k8 k9 k10 k11 k12 k13 k14 k15 k16 k17 k18 v4 v5 v6 v8 v9 v10 v14 v18) 19) :: (pb, dqObj) :: (fs, dqObj) :: rest) → Q .next { s with heap := h₁, toks := tk₁ })
    (hs : ∀ x, foldedSetIterable (.Name yn py) env x = pure x := by intro _; rfl) (hE : PassesOwn (model prog w) A env E := by passes_own) :
    wpAny (model prog w) A (exec (.For (.Tuple [.Name (Str.ofString "word") pa, .Name (Str.ofString "by_repr") pbb] kk tpp) (.Name yn py) body [] pos) env) Q E s := by
  refine for_words (ws := ws) (n9 := n9) (ShJ w S x1 dx1 x d pb fs k0 k1 k2 k3 k4 k5 k6 k7 k8 k9 k10 k11 k12 k13 k14 k15 k16 k17 k18 v4 v5 v6 v8 v9 v10 v14 v18 i1 i2 i3 i4 i5 ws rest) hh F N ⟨p, ln, _, u1, u2, i6, .inl ⟨hne, n, u3, rfl, hp0, hn, hr⟩, rfl⟩ ev ?_ ha hb hLe hp ?_ ?_ hs hE
  · rintro i news₁ ⟨p, ln, sv, u1, u2, i6, _, rfl⟩
    refine ⟨?_, fun q hq => ?_⟩
    · iterate 6 refine .tail _ ?_
      exact hwl
    · iterate 6 refine .tail _ ?_
      exact hws q hq
  · rintro i q news₁ h₁ tk₁ I oI y3 y4 y5 hq ⟨p, ln, sv, u1, u2, i6, hc, rfl⟩ off F₁ N₁
    have hlt : i < ws.length := (List.getElem?_eq_some_iff.mp hq).1
    rcases hc with ⟨_, n, u3, rfl, hp, hn, hr⟩ | ⟨hi, _⟩
    · simp only [List.forall_mem_cons] at off
      obtain ⟨a1, a2, a3, a4, a5, a6, a7⟩ := off
      exact turn i q n p ln u1 u2 u3 i6 h₁ tk₁ I oI y3 y4 y5 hq hp hn hr ⟨a1, a2, a3, a4, a5, a6⟩ a7 F₁ N₁
    · omega
  · rintro news₁ h₁ tk₁ y1 y2 y3 y4 y5 ⟨p, ln, sv, u1, u2, i6, hc, rfl⟩ F₁ N₁
    rcases hc with ⟨hlt, _⟩ | ⟨_, rfl, hp⟩
    · omega
    · exact done p ln u1 u2 i6 h₁ tk₁ y1 y2 y3 y4 y5 hp F₁ N₁
theorem she_mid {w : World} {s : Shared} {h₀ : Heap} {L : Addr} {m : Str → Option Value} {Q : Flow → Shared → Prop} {S : Str} {ws : List WQ} {x1 dx1 x d pb fs : Addr} {k0 k1 k2 k3 k4 k5 k6 k7 k8 k9 k10 k11 k12 k13 k14 k15 k16 k17 k18 v4 v5 v6 v8 v9 v10 v14 v18 i1 i2 i3 i4 i5 : Tok} {rest : List (Addr × Obj)} {n : Nat} {p ln : Int} {u1 u2 u3 i6 : Tok} {I : Addr} {oI : Obj} {i : Nat} {h' : Heap} {tk : Nat} {m₂ : Str → Option Value}
  (F : Fr h₀ L h' m₂) (N : News h₀ L h' ((I, oI) :: (x1, instObj 647 dx1) :: (dx1, dictOf (sioE w S p i1 i2 i3 i4 i5 i6) 3) :: (x, instObj 782 d) :: (d, dictOf (shlE w x1 pb fs (.str " " u3) ln (Str.ofString "") u1 u2 k0 k1 k2 k3 k4 k5 k6 k7 k8 k9 k10 k11 k12 k13 k14 k15 k16 k17 k18 v4 v5 v6 v8 v9 v10 v14 v18) 19) :: (pb, dqObj) :: (fs, dqObj) :: rest)) (hI : @Ne Nat x1 I ∧ @Ne Nat dx1 I ∧ @Ne Nat x I ∧ @Ne Nat d I ∧ @Ne Nat pb I ∧ @Ne Nat fs I) (hI2 : ∀ p ∈ rest, p.1 ≠ I) (hm : offW m₂ m) (hi : i + 1 < ws.length) (hp : p = (n : Int)) (hn : n ≤ S.length) (hr : S.cps.toList.drop n = lineL ((wprs ws).drop (i + 1))) :
    WStep h₀ L s I oI m (ShJ w S x1 dx1 x d pb fs k0 k1 k2 k3 k4 k5 k6 k7 k8 k9 k10 k11 k12 k13 k14 k15 k16 k17 k18 v4 v5 v6 v8 v9 v10 v14 v18 i1 i2 i3 i4 i5 ws rest) Q (i + 1) .next { s with heap := h', toks := tk } := by
  refine ⟨h', tk, m₂, _, rfl, F, N, ?_, hm, p, ln, _, u1, u2, i6, .inl ⟨hi, n, u3, rfl, hp, hn, hr⟩, rfl⟩
  simp only [List.forall_mem_cons]
  obtain ⟨a1, a2, a3, a4, a5, a6⟩ := hI
  exact ⟨a1, a2, a3, a4, a5, a6, hI2⟩
theorem she_last {w : World} {s : Shared} {h₀ : Heap} {L : Addr} {m : Str → Option Value} {Q : Flow → Shared → Prop} {S : Str} {ws : List WQ} {x1 dx1 x d pb fs : Addr} {k0 k1 k2 k3 k4 k5 k6 k7 k8 k9 k10 k11 k12 k13 k14 k15 k16 k17 k18 v4 v5 v6 v8 v9 v10 v14 v18 i1 i2 i3 i4 i5 : Tok} {rest : List (Addr × Obj)} {p ln : Int} {u1 u2 i6 : Tok} {I : Addr} {oI : Obj} {i : Nat} {h' : Heap} {tk : Nat} {m₂ : Str → Option Value}
  (F : Fr h₀ L h' m₂) (N : News h₀ L h' ((I, oI) :: (x1, instObj 647 dx1) :: (dx1, dictOf (sioE w S p i1 i2 i3 i4 i5 i6) 3) :: (x, instObj 782 d) :: (d, dictOf (shlE w x1 pb fs .none ln (Str.ofString "") u1 u2 k0 k1 k2 k3 k4 k5 k6 k7 k8 k9 k10 k11 k12 k13 k14 k15 k16 k17 k18 v4 v5 v6 v8 v9 v10 v14 v18) 19) :: (pb, dqObj) :: (fs, dqObj) :: rest)) (hI : @Ne Nat x1 I ∧ @Ne Nat dx1 I ∧ @Ne Nat x I ∧ @Ne Nat d I ∧ @Ne Nat pb I ∧ @Ne Nat fs I) (hI2 : ∀ p ∈ rest, p.1 ≠ I) (hm : offW m₂ m) (hi : i + 1 = ws.length) (hp : p = (S.length : Int)) :
    WStep h₀ L s I oI m (ShJ w S x1 dx1 x d pb fs k0 k1 k2 k3 k4 k5 k6 k7 k8 k9 k10 k11 k12 k13 k14 k15 k16 k17 k18 v4 v5 v6 v8 v9 v10 v14 v18 i1 i2 i3 i4 i5 ws rest) Q (i + 1) .next { s with heap := h', toks := tk } := by
  refine ⟨h', tk, m₂, _, rfl, F, N, ?_, hm, p, ln, _, u1, u2, i6, .inr ⟨hi, rfl, hp⟩, rfl⟩
  simp only [List.forall_mem_cons]
  obtain ⟨a1, a2, a3, a4, a5, a6⟩ := hI
  exact ⟨a1, a2, a3, a4, a5, a6, hI2⟩
end Mine
end
section
open PySem PySem.W PyProof.Rows PySem.Calls PySem.Spec PyProof
set_option Elab.async false
set_option maxRecDepth 100000
set_option maxHeartbeats 8000000
namespace Mine
local macro_rules | `(tactic| walk_at "call ref") => `(tactic| (k_here; (with_reducible show wpAny _ _ (call (Value.ref 827) _) _ _ _); k_dflt (refine' c_she (B := ?B) (F := ?F) (X := ?X) (T := ?T) (hf := ?hf) (hk := ?hk) (hdp := ?hdp) (hun := ?hun) (foo := ?foo) (hw := ?hw) (N := ?N) (hret := ?_); (case B => k_asm); (case F => k_asm); (case X => k_asm); (case T => k_asm); (case hf => exact rfl); (case hk => exact rfl); (case hdp => k_room); (case hun => k_units); (case foo => exact rfl); (case hw => assumption); (case N => k_asm); k_whole); (intro _ _ _ _ _ _ l9; (try k_lt l9); (try dsimp only); (try k_sweep); (try k_fold))))
local macro_rules | `(tactic| walk_at "call ref") => `(tactic| (k_here; (with_reducible show wpAny _ _ (call (Value.ref 647) [Value.str _ _]) _ _ _); k_dflt (refine' c_sio (B := ?B) (F := ?F) (X := ?X) (T := ?T) (hf := ?hf) (hk := ?hk) (hdp := ?hdp) (hun := ?hun) (foo := ?foo) (hS := ?hS) (N := ?N) (hret := ?_); (case B => k_asm); (case F => k_asm); (case X => k_asm); (case T => k_asm); (case hf => exact rfl); (case hk => exact rfl); (case hdp => k_room); (case hun => k_units); (case foo => exact rfl); (case hS => assumption); (case N => k_asm); k_whole); (intro _ _ _ _ _ _ _ _ _ _ _ _ l9 _; (try k_lt l9); (try dsimp only); (try k_sweep); (try k_fold))))
local macro_rules | `(tactic| walk_at "call ref") => `(tactic| (k_here; (with_reducible show wpAny _ _ (call (Value.ref 743) _) _ _ _); k_dflt (refine' c_gtk0 (N := ?N)  (hp := ?hp) (hS := ?hS) (o1 := ?o1) (o2 := ?o2) (o3 := ?o3) (o4 := ?o4) (o5 := ?o5) (off1 := ?off1) (off2 := ?off2) (B := ?B) (F := ?F) (X := ?X) (T := ?T) (hf := ?hf) (hk := ?hk) (hdp := ?hdp) (hun := ?hun) (foo := ?foo) (g5 := ?_);  (case B => k_asm); (case F => k_asm); (case X => k_asm); (case T => k_asm); (case hf => exact rfl); (case hk => exact rfl); (case hdp => k_room); (case hun => k_units); (case foo => exact rfl); (case N => (refine' Picks.news (ps := [_, _, _, _, _, _]) ?_ (by k_asm); repeat' (first | exact Picks.nil | refine' Picks.cons ?_ ?_ | exact Pick.head | refine' Pick.tail ?_))); (case hp => assumption); (case hS => assumption); (case o1 => k_extra "k om"); (case o2 => k_extra "k om"); (case o3 => k_extra "k om"); (case o4 => k_extra "k om"); (case o5 => k_extra "k om"); (case off1 => ((try dsimp only [List.append]); k_all)); (case off2 => ((try dsimp only [List.append]); k_all)); k_whole); (all_goals (intros; (try dsimp only); (try k_sweep); (try k_fold)))))
local macro_rules | `(tactic| walk_at "call ref") => `(tactic| (k_here; (with_reducible show wpAny _ _ (call (Value.ref 743) _) _ _ _); k_dflt (refine' c_gtk_part (N := ?N) (hout := ?hout) (ho := ?ho) (hp := ?hp) (hn := ?hn) (hS := ?hS) (o1 := ?o1) (o2 := ?o2) (o3 := ?o3) (o4 := ?o4) (o5 := ?o5) (off1 := ?off1) (off2 := ?off2) (B := ?B) (F := ?F) (X := ?X) (T := ?T) (hf := ?hf) (hk := ?hk) (hdp := ?hdp) (hun := ?hun) (foo := ?foo) (gv := ?_) (ge := ?_); (case hout => assumption); (case ho => assumption); (case B => k_asm); (case F => k_asm); (case X => k_asm); (case T => k_asm); (case hf => exact rfl); (case hk => exact rfl); (case hdp => k_room); (case hun => k_units); (case foo => exact rfl); (case N => (refine' Picks.news (ps := [_, _, _, _, _, _]) ?_ (by k_asm); repeat' (first | exact Picks.nil | refine' Picks.cons ?_ ?_ | exact Pick.head | refine' Pick.tail ?_))); (case hp => assumption); (case hn => assumption); (case hS => assumption); (case o1 => k_extra "k om"); (case o2 => k_extra "k om"); (case o3 => k_extra "k om"); (case o4 => k_extra "k om"); (case o5 => k_extra "k om"); (case off1 => ((try dsimp only [List.append]); k_all)); (case off2 => ((try dsimp only [List.append]); k_all)); k_whole); (all_goals (intros; (try dsimp only); (try k_sweep); (try k_fold)))))
local macro_rules | `(tactic| walk_at "call ref") => `(tactic| (k_here; (with_reducible show wpAny _ _ (call (Value.ref 743) _) _ _ _); k_dflt (refine' c_gtk_mid (N := ?N) (hout := ?hout) (hp := ?hp) (hn := ?hn) (hS := ?hS) (o1 := ?o1) (o2 := ?o2) (o3 := ?o3) (o4 := ?o4) (o5 := ?o5) (off1 := ?off1) (off2 := ?off2) (B := ?B) (F := ?F) (X := ?X) (T := ?T) (hf := ?hf) (hk := ?hk) (hdp := ?hdp) (hun := ?hun) (foo := ?foo) (g0 := ?_); (case hout => assumption); (case B => k_asm); (case F => k_asm); (case X => k_asm); (case T => k_asm); (case hf => exact rfl); (case hk => exact rfl); (case hdp => k_room); (case hun => k_units); (case foo => exact rfl); (case N => (refine' Picks.news (ps := [_, _, _, _, _, _]) ?_ (by k_asm); repeat' (first | exact Picks.nil | refine' Picks.cons ?_ ?_ | exact Pick.head | refine' Pick.tail ?_))); (case hp => assumption); (case hn => assumption); (case hS => assumption); (case o1 => k_extra "k om"); (case o2 => k_extra "k om"); (case o3 => k_extra "k om"); (case o4 => k_extra "k om"); (case o5 => k_extra "k om"); (case off1 => ((try dsimp only [List.append]); k_all)); (case off2 => ((try dsimp only [List.append]); k_all)); k_whole); (all_goals (intros; (try dsimp only); (try k_sweep); (try k_fold)))))
local macro_rules | `(tactic| walk_at "call ref") => `(tactic| (k_here; (with_reducible show wpAny _ _ (call (Value.ref 743) _) _ _ _); k_dflt (refine' c_gtk_end (N := ?N) (hout := ?hout) (hp := ?hp) (hn := ?hn) (hS := ?hS) (o1 := ?o1) (o2 := ?o2) (o3 := ?o3) (o4 := ?o4) (o5 := ?o5) (off1 := ?off1) (off2 := ?off2) (B := ?B) (F := ?F) (X := ?X) (T := ?T) (hf := ?hf) (hk := ?hk) (hdp := ?hdp) (hun := ?hun) (foo := ?foo) (g1 := ?_); (case hout => assumption); (case B => k_asm); (case F => k_asm); (case X => k_asm); (case T => k_asm); (case hf => exact rfl); (case hk => exact rfl); (case hdp => k_room); (case hun => k_units); (case foo => exact rfl); (case N => (refine' Picks.news (ps := [_, _, _, _, _, _]) ?_ (by k_asm); repeat' (first | exact Picks.nil | refine' Picks.cons ?_ ?_ | exact Pick.head | refine' Pick.tail ?_))); (case hp => assumption); (case hn => assumption); (case hS => assumption); (case o1 => k_extra "k om"); (case o2 => k_extra "k om"); (case o3 => k_extra "k om"); (case o4 => k_extra "k om"); (case o5 => k_extra "k om"); (case off1 => ((try dsimp only [List.append]); k_all)); (case off2 => ((try dsimp only [List.append]); k_all)); k_whole); (all_goals (intros; (try dsimp only); (try k_sweep); (try k_fold)))))
theorem rules_F4_0 : True := by
  w_top off
  k_with_none
  (k_with "k tr" => (first | with_reducible assumption | (refine Nat.lt_trans (by with_reducible assumption) ?_; k_extra "k tr")))
  (k_with "k om" => (first | with_reducible assumption | exact Nat.le_refl _ | exact Nat.le_succ _ | k_extra "k tr" | walk_at "k lt" | exact Nat.ne_of_lt (by k_extra "k tr") | exact Nat.ne_of_gt (by k_extra "k tr") | exact Nat.ne_of_lt (by walk_at "k lt") | exact Nat.ne_of_gt (by walk_at "k lt") | omega))
  (k_with "storeName" => (k_here; k_dflt (refine' storeX_LL ?F ?N ?_ ?a ?b; (case F => k_asm); (case N => k_asm); (case a => rfl); (case b => rfl); k_whole); intro h' m' F' N'; (try k_sweep)))
  (k_with "setAttr ref" => (k_here; k_dflt (refine' set_dict_LL ?k1 ?k2 ?k3 ?k4 ?k5 ?k6 ?k7 ?k8 ?k9 ?k10 ?k11 ?k13 ?_; (case k1 => k_asm); (case k2 => k_asm); (case k3 => k_asm); (case k4 => k_inst); (case k5 => exact rfl); (case k6 => k_is); (case k7 => k_is); (case k8 => k_is); (case k9 => k_is); (case k10 => k_get); (case k11 => k_put); (case k13 => exact Nat.le_of_ble_eq_true rfl); k_whole); intro es9; (k_dflt (refine' SetStep.intro ?k12 ?_; (case k12 => k_upd); k_whole)); intro h' F' N'; (try k_sweep)))
  (k_with "execs cons" => (k_here; first | (with_unfolding_all (refine gen_toks0 (Nat.succ_pos _) ?_); intro tk') | with_reducible refine execs_one ?_ | ((with_reducible refine wpAny_execs_cons ?_); (try dsimp only); try k_fold)))
  (k_with "call builtin:str.replace" => (k_here; k_dflt (refine' rep_rule (hx := ?hx) (hy := ?hy) (hz := ?hz) ?hu ?hv ?huv ?hyz ?hb ?hb2 ?_); (case hx => first | exact lit_ap | exact rfl); (case hy => first | exact lit_bs | exact lit_nl | exact lit_tb | exact lit_ap); (case hz => first | exact lit_bs2 | exact lit_bn | exact lit_bt | exact lit_n | exact lit_t | exact lit_q5); (case hu => (show @Ne Nat _ _); (try dsimp only); omega); (case hv => (show @Ne Nat _ _); (try dsimp only); omega); (case huv => (show @Ne Nat _ _); (try dsimp only); omega); (case hyz => decide +kernel); (case hb => first | assumption | omega); (case hb2 => decide); intro t' k' hk'; (try dsimp only at hk')))
  (k_with "call builtin:repr" => (k_here; k_dflt (refine repr_of_str ?_ ?hsz); (case hsz => assumption)))
  (k_with "k all" => (refine' ne_low ?zh ?zb; (case zh => assumption); (case zb => first | omega | ((try simp only); omega))))
  (k_with "k all" => assumption)
  (k_with "call type:collections.deque" => (k_here; k_dflt (refine' dq_made ?F ?N ?_; (case F => k_asm); (case N => k_asm); k_whole); intro I9 h9 F9 N9 l9; (try k_lt l9); (try k_sweep); (try k_fold)))
  (k_with "truthy ref" => (k_here; k_dflt (refine' dq_true ?N ?q ?_; (case N => k_asm); (case q => k_mem); k_whole)))
  (k_with "WStep ret" => (k_dflt (refine wstep_ret ?_)))
  trivial
theorem c_second {w : World} {pg : Program} {loose : List Str} {mean : ExcName → Option Value} {mg mb : Str → Option Value}
  {dp un : Nat} {gd : Option (List Code)} {cn : Str} {cs : Scope} {a9 : Addr} {ccd : Value} {A₀ : Around} {base h₀ : Heap} {L : Addr} {m : Str → Option Value} {s : Shared} {Q E : Value → Shared → Prop}
  {t : Tok} {ws : List WQ} {wl : Addr} {n9 : Nat} (hS : (tx (lineL (wprs ws))).length ≤ 3990) (hne : 0 < ws.length) (hok : ∀ q ∈ ws, okp (q.2.1, q.2.2.2)) {rest : List (Addr × Obj)}
  (hwl : (wl, W.listOf (wrefs ws).toArray n9) ∈ rest) (hws : ∀ q ∈ ws, (q.1, tupO q) ∈ rest) (N : News h₀ L s.heap rest)
  (B : Below A₀ base [] h₀) (F : Fr h₀ L s.heap m) (X : (Mine.K w.params).In h₀) (T : Top pg loose mean mg mb h₀) (XB : (Mine.K w.params).In base) (TB : Top pg loose mean mg mb base) (hk : cs.kind = .function)
  (hdp : dp + 60 < recursionLimit) (hun : un + 400 < cLine)
  (hret : ∀ (h' : Heap) (tk' : Nat), Fr h₀ L h' m → News h₀ L h' rest → Q (.bool true) { s with heap := h', toks := tk' }) (foo : PySem.Challenge.rw_in0140_01.foot = 8) :
   wpAny (model PySem.Challenge.rw_in0140_01.row.prog w) (arnd dp un gd (envOf cn cs L a9 ccd) []) (call (.ref 841) [.str (tx (lineL (wprs ws))) t, .ref wl]) Q E s := by
  revert foo X
  k_fill
  intro X foo
  clear foo
  refine wpAny_call ?_
  k_dflt ((refine' code_defS0 ?k1 ?k2 ?k3 ?k4 ?k5 ?kA ?k6 ?k7 ?k8 ?k9 ?kB ?_ ?cK ?c2 ?c3 ?c4 ?c5; (case kA => exact rfl); (case k2 => k_asm); (case k1 => k_asm); (case k3 => k_asm); (case k4 => k_asm); (case k5 => k_asm); (case k6 => k_is); (case k7 => k_is); (case k8 => k_room); (case k9 => first | exact binds_K (by k_in) rfl (by k_is) rfl rfl rfl | exact BindsTo.of_eq rfl); (case kB => exact locs rfl); (case cK => exact hk); (case c2 => exact rfl); (case c3 => exact rfl); (case c4 => exact rfl); (case c5 => decide); k_whole; intro g' L' h' FG' F' N' B' X' T' D'; (try dsimp only); (try k_lift B'); (try k_fold)))
  have hS4 : (tx (lineL (wprs ws))).length ≤ 4000 := by omega
  (repeat' ((fail_if_success (with_reducible show wpAny _ _ (exec (Stmt.For _ _ _ _ _) _) _ _ _)); (first | (k_unfold; (try dsimp only)) | (k_end; wrow_close) | walk1 | (dsimp only; walk1) | (leave1; walk_say "STEP leave1"; try dsimp only) | fail "no step")))
  (rename (∀ p, p ∈ rest → _ < _) => hA9)
  have hA := (show Low rest _ from hA9)
  (k_dflt (refine' for_second (S := tx (lineL (wprs ws))) (ws := ws) (wl := wl) (n9 := n9) (n := 0) (F := ?F) (N := ?N) (hp0 := ?hp0) (hn := ?hn) (hr := ?hr) (hne := hne) (hwl := ?hwl) (hws := ?hws) (hh := ?hh) (ev := ?ev) (ha := ?ha) (hb := ?hb) (hLe := ?hLe) (hp := ?hp) (turn := ?turn) (done := ?done) (hs := ?hs) (hE := ?hE)); (case F => k_asm); (case N => (refine' Picks.news (ps := [_, _, _, _, _, _]) ?_ (by k_asm); repeat' (first | exact Picks.nil | refine' Picks.cons ?_ ?_ | exact Pick.head | refine' Pick.tail ?_))); (case hp0 => exact rfl); (case hn => exact Nat.zero_le _); (case hr => exact rfl); (case hh => exact rfl); (case ha => exact rfl); (case hb => exact rfl); (case hLe => exact rfl); (case hp => exact rfl); (case hs => (intro _; rfl)); (case hE => first | passes_own | with_unfolding_all passes_own); (case ev => (intro Q9 h9; refine' nameX_L ?F ?v h9 ?a ?b; (case F => k_asm); (case a => rfl); (case b => rfl); (case v => rfl))); (case hwl => (first | exact hwl | exact .tail _ (hwl) | exact .tail _ (.tail _ (hwl)) | exact .tail _ (.tail _ (.tail _ (hwl))) | exact .tail _ (.tail _ (.tail _ (.tail _ (hwl)))) | exact .tail _ (.tail _ (.tail _ (.tail _ (.tail _ (hwl))))))); (case hws => (intro q8 hq8; (first | exact hws q8 hq8 | exact .tail _ (hws q8 hq8) | exact .tail _ (.tail _ (hws q8 hq8)) | exact .tail _ (.tail _ (.tail _ (hws q8 hq8))) | exact .tail _ (.tail _ (.tail _ (.tail _ (hws q8 hq8)))) | exact .tail _ (.tail _ (.tail _ (.tail _ (.tail _ (hws q8 hq8)))))))))
  case turn =>
    intro i q n p ln u1 u2 u3 i6 h9 tk9 I oI v3 v4 v5 hq hp hn hr hI hI2 F9 N9
    have hI9 := hI
    obtain ⟨_, _, _, _, _, _⟩ := hI
    have hwd : q.2.1.length ≤ 6 := (hok q (List.mem_of_getElem? hq)).1.2
    have hlt : i < ws.length := (List.getElem?_eq_some_iff.mp hq).1
    have hqi : (wprs ws).drop i = (q.2.1, q.2.2.2) :: (wprs ws).drop (i + 1) := by
      have h8 : (wprs ws)[i]? = some (q.2.1, q.2.2.2) := by simp [hq]
      obtain ⟨hlt, hx⟩ := List.getElem?_eq_some_iff.mp h8
      rw [List.drop_eq_getElem_cons hlt, hx]
    rw [hqi] at hr
    have hk9 : ∀ z ∈ (q.2.1, q.2.2.2) :: (wprs ws).drop (i + 1), okw z.1 := by
      intro z hz
      rw [← hqi] at hz
      obtain ⟨y, hy, rfl⟩ := List.mem_map.mp (List.mem_of_mem_drop hz)
      exact (hok y hy).1
    have hT2 : (tx (s0 (lineL ((q.2.1, q.2.2.2) :: (wprs ws).drop (i + 1)))).1).length ≤ 4000 := by
      have h8 := s0_len (lineL ((q.2.1, q.2.2.2) :: (wprs ws).drop (i + 1)))
      rw [← hr] at h8
      have h7 : ((tx (lineL (wprs ws))).cps.toList.drop n).length ≤ (tx (lineL (wprs ws))).length := by rw [List.length_drop, tx_len]; exact Nat.sub_le _ _
      rw [tx_len, ← hr]; omega
    have hT : (tx (sheL q.2.1 q.2.2.2).1).length ≤ 14 := by rw [tx_len]; exact she_len hwd
    rcases Bool.eq_false_or_eq_true (sheL q.2.1 q.2.2.2).2 with hw | hw
    · have e1 := she_whole (q.2.1, q.2.2.2) ((wprs ws).drop (i + 1)) hw
      have hA9 : (tx (sheL q.2.1 q.2.2.2).1 != tx (sheL q.2.1 q.2.2.2).1) = false := by simp
      by_cases hl9 : i + 1 = ws.length
      · rw [if_pos (List.drop_eq_nil_of_le (by simp; omega))] at e1
        have hout : s0 ((tx (lineL (wprs ws))).cps.toList.drop n) = ((sheL q.2.1 q.2.2.2).1, lineL ((wprs ws).drop (i + 1)), 1) := by rw [hr]; exact e1
        k_steps
        (k_dflt (refine' she_last (F := ?lF) (N := ?lN) (hI := hI9) (hI2 := hI2) (hm := ?lm) (hi := hl9) (hp := ?lp))); (case lF => k_asm); (case lN => (refine' cb_drop (by k_asm) ?_; first | ((repeat' (first | exact sb_refl | refine sb_keep ?_ | refine sb_skip ?_)); done) | repeat' (first | refine' List.forall_mem_cons.mpr ⟨?_, ?_⟩ | exact List.Mem.head _ | (intro z9 hz9; repeat (first | exact hz9 | refine' List.Mem.tail _ ?_)) | refine' List.Mem.tail _ ?_))); (case lm => (intro z5 z1 z2 z3 z4 z6; (repeat (first | refine ifn z1 ?_ | refine ifn z2 ?_ | refine ifn z3 ?_ | refine ifn z4 ?_ | refine ifn z6 ?_ | refine ifr z1 ?_ | refine ifr z2 ?_ | refine ifr z3 ?_ | refine ifr z4 ?_ | refine ifr z6 ?_)); rfl)); (case lp => assumption)
      · rw [if_neg (by intro h8; have h7 := congrArg List.length h8; simp at h7; omega)] at e1
        have hout : s0 ((tx (lineL (wprs ws))).cps.toList.drop n) = ((sheL q.2.1 q.2.2.2).1, lineL ((wprs ws).drop (i + 1)), 0) := by rw [hr]; exact e1
        k_steps
        (k_dflt (refine' she_mid (F := ?lF) (N := ?lN) (hI := hI9) (hI2 := hI2) (hm := ?lm) (hi := by omega) (hp := ?lp) (hn := ?ln) (hr := ?lr))); (case lF => k_asm); (case lN => (refine' cb_drop (by k_asm) ?_; first | ((repeat' (first | exact sb_refl | refine sb_keep ?_ | refine sb_skip ?_)); done) | repeat' (first | refine' List.forall_mem_cons.mpr ⟨?_, ?_⟩ | exact List.Mem.head _ | (intro z9 hz9; repeat (first | exact hz9 | refine' List.Mem.tail _ ?_)) | refine' List.Mem.tail _ ?_))); (case lm => (intro z5 z1 z2 z3 z4 z6; (repeat (first | refine ifn z1 ?_ | refine ifn z2 ?_ | refine ifn z3 ?_ | refine ifn z4 ?_ | refine ifn z6 ?_ | refine ifr z1 ?_ | refine ifr z2 ?_ | refine ifr z3 ?_ | refine ifr z4 ?_ | refine ifr z6 ?_)); rfl)); (case lp => assumption); (case ln => assumption); (case lr => assumption)
    · obtain ⟨e1, e2⟩ := she_part (q.2.1, q.2.2.2) ((wprs ws).drop (i + 1)) hk9 hw
      have hout : s0 ((tx (lineL (wprs ws))).cps.toList.drop n) = s0 (lineL ((q.2.1, q.2.2.2) :: (wprs ws).drop (i + 1))) := by rw [hr]
      obtain ⟨x9, e3⟩ := e1
      k_steps
      · rw [show (s0 (lineL ((q.2.1, q.2.2.2) :: List.drop (i + 1) (wprs ws)))).1 = (sheL q.2.1 q.2.2.2).1 ++ x9 from e3, slice_pre (by rw [tx_len]), show (tx (sheL q.2.1 q.2.2.2).1 == tx (sheL q.2.1 q.2.2.2).1) = true by simp]
        exact hret _ _ (by k_asm) (by (refine' cb_drop (by k_asm) ?_; first | ((repeat' (first | exact sb_refl | refine sb_keep ?_ | refine sb_skip ?_)); done) | repeat' (first | refine' List.forall_mem_cons.mpr ⟨?_, ?_⟩ | exact List.Mem.head _ | (intro z9 hz9; repeat (first | exact hz9 | refine' List.Mem.tail _ ?_)) | refine' List.Mem.tail _ ?_)))
      · rw [hw]
        exact hret _ _ (by k_asm) (by (refine' cb_drop (by k_asm) ?_; first | ((repeat' (first | exact sb_refl | refine sb_keep ?_ | refine sb_skip ?_)); done) | repeat' (first | refine' List.forall_mem_cons.mpr ⟨?_, ?_⟩ | exact List.Mem.head _ | (intro z9 hz9; repeat (first | exact hz9 | refine' List.Mem.tail _ ?_)) | refine' List.Mem.tail _ ?_)))
  case done =>
    intro p ln u1 u2 i6 h9 tk9 v1 v2 v3 v4 v5 hp F9 N9
    k_steps
    exact hret _ _ (by k_asm) (by (refine' cb_drop (by k_asm) ?_; first | ((repeat' (first | exact sb_refl | refine sb_keep ?_ | refine sb_skip ?_)); done) | repeat' (first | refine' List.forall_mem_cons.mpr ⟨?_, ?_⟩ | exact List.Mem.head _ | (intro z9 hz9; repeat (first | exact hz9 | refine' List.Mem.tail _ ?_)) | refine' List.Mem.tail _ ?_)))
end Mine
end
section
open PySem PySem.W PyProof.Rows PySem.Calls PySem.Spec PyProof
set_option Elab.async false
set_option maxRecDepth 100000
set_option maxHeartbeats 8000000
namespace Mine
local macro_rules | `(tactic| walk_at "call ref") => `(tactic| (k_here; (with_reducible show wpAny _ _ (call (Value.ref 52) _) _ _ _); k_dflt (refine' c_repr (B := ?B) (F := ?F) (X := ?X) (T := ?T) (hf := ?hf) (hk := ?hk) (hdp := ?hdp) (hun := ?hun) (foo := ?foo) (hw := ?hw) (N := ?N) (hret := ?_); (case B => k_asm); (case F => k_asm); (case X => k_asm); (case T => k_asm); (case hf => exact rfl); (case hk => exact rfl); (case hdp => k_room); (case hun => k_units); (case foo => exact rfl); (case hw => assumption); (case N => k_asm); k_whole); (all_goals (intros; (try dsimp only); (try k_sweep); (try k_fold)))))
local macro_rules | `(tactic| walk_at "call ref") => `(tactic| (k_here; (with_reducible show wpAny _ _ (call (Value.ref 794) _) _ _ _); k_dflt (refine' c_quo (B := ?B) (F := ?F) (X := ?X) (T := ?T) (hf := ?hf) (hk := ?hk) (hdp := ?hdp) (hun := ?hun) (foo := ?foo) (hw := ?hw) (N := ?N) (hret := ?_); (case B => k_asm); (case F => k_asm); (case X => k_asm); (case T => k_asm); (case hf => exact rfl); (case hk => exact rfl); (case hdp => k_room); (case hun => k_units); (case foo => exact rfl); (case hw => assumption); (case N => k_asm); k_whole); (all_goals (intros; (try dsimp only); (try k_sweep); (try k_fold)))))
theorem rules_LF_0 : True := by
  w_top off
  k_with_none
  (k_with "k tr" => (first | with_reducible assumption | (refine Nat.lt_trans (by with_reducible assumption) ?_; k_extra "k tr")))
  (k_with "exec If" => ((with_reducible show wpAny _ _ (exec (Stmt.If _ _ (_ :: _) _) _) _ _ _); refine wpAny_If ?_))
  (k_with "execs cons" => (k_here; first | (with_unfolding_all (refine gen_toks0 (Nat.succ_pos _) ?_); intro tk') | with_reducible refine execs_one ?_ | ((with_reducible refine wpAny_execs_cons ?_); (try dsimp only); try k_fold)))
  (k_with "call builtin:str.replace" => (k_here; k_dflt (refine' rep_rule (hx := ?hx) (hy := ?hy) (hz := ?hz) ?hu ?hv ?huv ?hyz ?hb ?hb2 ?_); (case hx => first | exact lit_ap | exact rfl); (case hy => first | exact lit_bs | exact lit_nl | exact lit_tb | exact lit_ap); (case hz => first | exact lit_bs2 | exact lit_bn | exact lit_bt | exact lit_n | exact lit_t | exact lit_q5); (case hu => (show @Ne Nat _ _); (try dsimp only); omega); (case hv => (show @Ne Nat _ _); (try dsimp only); omega); (case huv => (show @Ne Nat _ _); (try dsimp only); omega); (case hyz => decide +kernel); (case hb => first | assumption | omega); (case hb2 => decide); intro t' k' hk'; (try dsimp only at hk')))
  (k_with "call builtin:repr" => (k_here; k_dflt (refine repr_of_str ?_ ?hsz); (case hsz => assumption)))
  (k_with "k all" => (refine' ne_low ?zh ?zb; (case zh => assumption); (case zb => first | omega | ((try simp only); omega))))
  (k_with "k all" => assumption)
  (k_with "call builtin:str.join" => (k_here; k_dflt (refine' join_list (hl := ?jl) (hi := ?ji) (hok := ?jo) ?_; (case ji => assumption); (case jl => is_list); (case jo => assumption); k_whole); intro _ _))
  trivial
theorem law_holds : PySem.Challenge.rw_in0140_01.Holds := Mine.hd (by rfl) (by rfl) (by rfl) (by
  w_strict (
    k_go0
    (all_goals try k_fold)
    (repeat' ((fail_if_success (with_reducible show wpAny _ _ (call (Value.ref 806) _) _ _ _)); first | (k_unfold; (try dsimp only)) | (k_end; wrow_close) | walk1 | (dsimp only; walk1) | (leave1; walk_say "STEP leave1"; try dsimp only)))
    (k_dflt (refine' c_words (hl := ?hl) (hi := ?hi) (hlen := ?hlen) (hf := ?hf) (hk := ?hk) (hret := ?_) (B := ?B) (F := ?F) (X := ?X) (T := ?T) (hdp := ?hdp) (hun := ?hun) (foo := ?foo) (N := ?N)); (case B => k_asm); (case F => k_asm); (case X => k_asm); (case T => k_asm); (case hdp => k_room); (case hun => k_units); (case foo => exact rfl); (case N => k_asm); (case hf => exact rfl); (case hk => exact rfl); (case hl => assumption); (case hi => assumption); (case hlen => omega))
    intro ws wl k9 h9 tk9 hl6 hl0 hok F9 N9
    (try dsimp only)
    replace N9 := law_perm N9
    have hoff := law_off N9
    have hokw := wprs_ok hok
    have hfit := line_fits hokw (by simp; omega)
    (repeat' ((fail_if_success (with_reducible show wpAny _ _ (eval (Expr.ListComp _ _ _ _) _) _ _ _)); first | (k_unfold; (try dsimp only)) | (k_end; wrow_close) | walk1 | (dsimp only; walk1) | (leave1; walk_say "STEP leave1"; try dsimp only)))
    refine LCp.ListComp_P (F₀ := by k_asm) (by with_unfolding_all rfl) (by decide) (by rfl) (by decide) (by rfl) (by rfl) (by decide) ?_
    (repeat' ((fail_if_success (with_reducible show LCp.SrcLP _ _ _ _ _ _ _ _ _ _ _ _ _ _ _)); first | (k_unfold; (try dsimp only)) | (k_end; wrow_close) | walk1 | (dsimp only; walk1) | (leave1; walk_say "STEP leave1"; try dsimp only)))
    (k_dflt (refine' src_line (ws := ws) (k9 := k9) (hh := ?hh) (F := ?F) (N := ?N) (hwl := ?hwl) (hmem := ?hmem) (hl6 := hl6) (elt_ok := ?el) (fin := ?fin)); (case hh => exact rfl); (case F => k_asm); (case N => k_asm); (case hwl => exact List.Mem.tail _ (List.Mem.head _)); (case hmem => exact fun q hq => List.Mem.tail _ (List.Mem.tail _ (led_mem hq))))
    case el =>
      rintro ⟨qa, wd, qt, b⟩ hq I oI C oC D m₂ ys h tk E' hC hx hx2 F N off ne
      have hw9 : okw wd := (hok _ hq).1
      cases b
      all_goals (k_steps; (rename Fr _ _ _ _ => F7); (rename News _ _ _ _ => N7))
      all_goals exact LCg.CompEnd.intro F7 N7 _ (fun p hp => hp) off (Or.inr ⟨_, List.Mem.tail _ (List.Mem.head _), rfl, _, rfl⟩) ⟨rfl, _, rfl⟩
    case fin =>
      intro ys hst g
      unfold LCg.FinE
      intro D' h' tk' F' N' o1'
      (try simp only [LCg.Off1] at o1')
      (try dsimp only)
      (repeat' ((fail_if_success (with_reducible show wpAny _ _ (call (Value.ref 834) _) _ _ _)); first | (k_unfold; (try dsimp only)) | (k_end; wrow_close) | walk1 | (dsimp only; walk1) | (leave1; walk_say "STEP leave1"; try dsimp only)))
      (rename Fr _ _ _ _ => F8)
      rw [join_line] at F8 ⊢
      have hS9 : (tx (lineL (wprs ws))).length ≤ 3990 := by
        have h8 := line_len (wprs ws) hokw
        rw [List.length_map] at h8
        rw [tx_len]; omega
      (k_dflt (refine' c_first (ws := ws) (wl := wl) (n9 := k9) (hS := hS9) (hok := hok) (codeHd := ?cd) (off796 := hoff) (hwl := ?hwl) (hws := ?hws) (hf := ?hf) (hk := ?hk) (hret := ?_) (B := ?B) (F := ?F) (X := ?X) (T := ?T) (hdp := ?hdp) (hun := ?hun) (foo := ?foo) (N := ?N)); (case B => k_asm); (case F => k_asm); (case X => k_asm); (case T => k_asm); (case hdp => k_room); (case hun => k_units); (case foo => exact rfl); (case N => (refine' cb_drop (by k_asm) ?_; first | ((repeat' (first | exact sb_refl | refine sb_keep ?_ | refine sb_skip ?_)); done) | repeat' (first | refine' List.forall_mem_cons.mpr ⟨?_, ?_⟩ | exact List.Mem.head _ | (intro z9 hz9; repeat (first | exact hz9 | refine' List.Mem.tail _ ?_)) | refine' List.Mem.tail _ ?_))); (case hf => exact rfl); (case hk => exact rfl); (case cd => assumption); (case hwl => exact List.Mem.head _); (case hws => exact fun q hq => List.Mem.tail _ (led_mem hq)))
      intro D9 h8 tk8 F8 N8
      (try dsimp only)
      (repeat' ((fail_if_success (with_reducible show wpAny _ _ (call (Value.ref 841) _) _ _ _)); first | (k_unfold; (try dsimp only)) | (k_end; wrow_close) | walk1 | (dsimp only; walk1) | (leave1; walk_say "STEP leave1"; try dsimp only)))
      (k_dflt (refine' c_second (ws := ws) (wl := wl) (n9 := k9) (hS := hS9) (hok := hok) (hne := hl0) (hwl := ?hwl) (hws := ?hws) (XB := ?XB) (TB := ?TB) (hk := ?hk) (hret := ?_) (B := ?B) (F := ?F) (X := ?X) (T := ?T) (hdp := ?hdp) (hun := ?hun) (foo := ?foo) (N := ?N)); (case B => k_asm); (case F => k_asm); (case X => k_asm); (case T => k_asm); (case hdp => k_room); (case hun => k_units); (case foo => exact rfl); (case N => k_asm); (case hk => exact rfl); (case XB => k_asm); (case TB => k_asm); (case hwl => exact List.Mem.tail _ (List.Mem.head _)); (case hws => exact fun q hq => List.Mem.tail _ (List.Mem.tail _ (led_mem hq))))
      intro h7 tk7 F7 N7
      (try dsimp only)
      k_steps))
end Mine
end
theorem PySem.Challenge.cw_in0140_01_holds : PySem.Challenge.rw_in0140_01.Holds := by
  exact Mine.law_holds
