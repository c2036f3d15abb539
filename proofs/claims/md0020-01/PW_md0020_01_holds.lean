import PyProof.Rows.All
import Wide.All
import OpenK.AllK
import Wide.FinOn
import PySem.Challenge.RW_md0020_01
open PySem PySem.W PyProof.Rows PySem.Calls
set_option Elab.async false
set_option maxRecDepth 1000000
set_option maxHeartbeats 4000000
set_option linter.unusedVariables false
set_option compiler.extract_closed false
namespace Mine
section
set_option maxHeartbeats 0
open PySem.W.Fast
noncomputable def topT (p : Program) (w : World) (n₀ : Nat) (ann : Option Value) : Nat → SharedT → Thread → Option SharedT
  | 0, _, _ => none
  | n + 1, s, t => match through t with
    | true => some s
    | false => match tw6613529449190102663 n₀ ann t with
      | false => none
      | true => match tw10156331382660048174 (tw11892475500146522536 tw14364793385576792824) p w s t with
        | some (s', t') => topT p w n₀ ann n s' t'
        | none => none
theorem topT_of {p : Program} {w : World} {n₀ : Nat} {ann : Option Value} : ∀ {n : Nat} {s r : SharedT} {t : Thread}, topT p w n₀ ann n s t = some r → topRun treeTable p w n₀ ann n s.abs t = some r.abs
  | 0, _, _, _, h => by cases h
  | n + 1, s, r, t, h => by
    unfold topT at h
    rw [← te6613529449190102663, ← te10156331382660048174, ← te11892475500146522536, ← te14364793385576792824] at h
    unfold topRun
    cases ht : through t with
    | true => rw [ht] at h; cases h; rfl
    | false =>
      rw [ht] at h
      cases hk : stepOk n₀ ann t with
      | false => rw [hk] at h; cases h
      | true =>
        rw [hk] at h
        cases hs : stepT (denote treeTable) p w s t with
        | none => rw [hs] at h; cases h
        | some x => obtain ⟨s₂, t₂⟩ := x; rw [hs] at h; dsimp only; rw [stepT_spec hs]; exact topT_of h
noncomputable def lay : List Obj → Nat → BT → Option (BT × Nat)
  | [], n, T => some (T, n)
  | o :: l, n, T => match ((T.ins n o).get n).isSome with
    | true => lay l (n + 1) (T.ins n o)
    | false => none
theorem lay_abs (life : Life) : ∀ (l : List Obj) (n : Nat) (T : BT) (T' : BT) (n' : Nat), lay l n T = some (T', n') → absHeap T' n' life = ⟨(absHeap T n life).objs ++ l.toArray, life⟩
  | [], n, T, T', n', h => by cases h; simp [absHeap]
  | o :: l, n, T, T', n', h => by
    unfold lay at h
    cases e : ((T.ins n o).get n).isSome with
    | false => rw [e] at h; cases h
    | true =>
      rw [e] at h
      rw [lay_abs life l _ _ _ _ h, absHeap_ins e]
      show Heap.mk ((absHeap T n life).objs.push o ++ l.toArray) life = _
      congr 1
      apply Array.toList_inj.mp
      simp
noncomputable def toT (s : Shared) : Option SharedT := (lay s.heap.objs.toList 0 .nil).map fun x => ⟨x.1, x.2, s.heap.life, s.gens, s.drawn, s.toks, s.os⟩
theorem toT_abs {s : Shared} {S : SharedT} (h : toT s = some S) : S.abs = s := by
  obtain ⟨⟨T, n⟩, e, rfl⟩ := Option.map_eq_some_iff.mp h
  obtain ⟨⟨objs, life⟩, gens, drawn, toks, os⟩ := s
  have q := lay_abs life _ _ _ _ _ e
  show Shared.mk (absHeap T n life) gens drawn toks os = _
  rw [q]
  have : (absHeap .nil 0 life).objs = #[] := rfl
  rw [this]
  simp
end
section
set_option maxHeartbeats 0
abbrev prog : Program := PySem.Challenge.pw_md0020_01
abbrev body0 : List Stmt := prog.main.body
def nth : List Stmt → Nat → Stmt
  | [], _ => default
  | s :: _, 0 => s
  | _ :: r, n + 1 => nth r n
def clsBody : List Stmt := match nth body0 9 with | .ClassDef _ _ _ b _ _ _ _ _ _ _ => b | _ => []
def fnD (st : Stmt) (qual : Str) (cl : List (Str × Addr)) (df doc pm : Value) (an : Option Addr) (code ct : Value) : FuncData := match st with
  | .FunctionDef n a b _ _ _ sc _ _ _ => { name := n, qualname := qual, params := a, body := .stmts b, scope := sc, globals := 3, closure := cl, defaults := df, kwdefaults := .none, doc := doc, pyModule := pm, annotations := an, code := code, closureTuple := ct, builtins := 0 }
  | _ => default
noncomputable def K : Params → Frag := fun P => [
  (nat_lit 2, ⟨.none, none, (.dict #[⟨PyData.keyHash P "\x69mport.loaded._operator", .str "\x69mport.loaded._operator" 189, .bool true⟩, ⟨PyData.keyHash P "class._frozen_importlib.BuiltinImporter", .str "class._frozen_importlib.BuiltinImporter" 191, .ref 15⟩, ⟨PyData.keyHash P "watched.\x69mport", .str "watched.\x69mport" 212, .ref 19⟩, ⟨PyData.keyHash P "class._frozen_importlib.ModuleSpec", .str "class._frozen_importlib.ModuleSpec" 222, .ref 23⟩, ⟨PyData.keyHash P "sys.modules.booked-epoch", .str "sys.modules.booked-epoch" 251, .int (3) 0⟩, ⟨PyData.keyHash P "sys.modules.landed._operator", .str "sys.modules.landed._operator" 252, .bool true⟩, ⟨PyData.keyHash P "\x69mport.later-laid._operator", .str "\x69mport.later-laid._operator" 316, .bool true⟩, ⟨PyData.keyHash P "watched.library", .str "watched.library" 318, .ref 28⟩, ⟨PyData.keyHash P "watched.library-objects", .str "watched.library-objects" 0, .str "\x0d" 0⟩, ⟨PyData.keyHash P "watched.library-deep._operator", .str "watched.library-deep._operator" 319, .str "\x04\x00\x00\x0c\x04\x00\x00\x0c\x04\x00\x00\x03\x04\x00\x00\x0c\x08\x04dict\x02" 0⟩] 10), #[]⟩),
  (nat_lit 3, ⟨.type "dict", none, (.dict #[⟨PyData.keyHash P "__name__", .str "__name__" 165, .str "law_md0020_01" 759⟩, ⟨PyData.keyHash P "__doc__", .str "__doc__" 166, .none⟩, ⟨PyData.keyHash P "__package__", .str "__package__" 167, .none⟩, ⟨PyData.keyHash P "__loader__", .str "__loader__" 168, .builtin "__main__.__loader__#opaque"⟩, ⟨PyData.keyHash P "__spec__", .str "__spec__" 169, .none⟩, ⟨PyData.keyHash P "__annotations__", .str "__annotations__" 170, .ref 6⟩, ⟨PyData.keyHash P "__builtins__", .str "__builtins__" 171, .ref 4⟩, ⟨PyData.keyHash P "__file__", .str "__file__" 173, .str "/claim/cut.py" 172⟩, ⟨PyData.keyHash P "__cached__", .str "__cached__" 174, .none⟩, ⟨PyData.keyHash P "eq", .str "eq" 325, .builtin "_operator.eq"⟩, ⟨PyData.keyHash P "ge", .str "ge" 328, .builtin "_operator.ge"⟩, ⟨PyData.keyHash P "gt", .str "gt" 331, .builtin "_operator.gt"⟩, ⟨PyData.keyHash P "le", .str "le" 334, .builtin "_operator.le"⟩, ⟨PyData.keyHash P "lt", .str "lt" 337, .builtin "_operator.lt"⟩, ⟨PyData.keyHash P "_wall", .str "_wall" 350, .ref 39⟩, ⟨PyData.keyHash P "_bitcount", .str "_bitcount" 359, .ref 46⟩, ⟨PyData.keyHash P "BRANCH_FACTOR", .str "BRANCH_FACTOR" 361, .int (32) 360⟩, ⟨PyData.keyHash P "BIT_MASK", .str "BIT_MASK" 364, .int (31) 363⟩, ⟨PyData.keyHash P "SHIFT", .str "SHIFT" 369, .int (5) 368⟩, ⟨PyData.keyHash P "compare_pvector", .str "compare_pvector" 378, .ref 54⟩, ⟨PyData.keyHash P "_index_or_slice", .str "_index_or_slice" 386, .ref 61⟩, ⟨PyData.keyHash P "PythonPVector", .str "PythonPVector" 730, .ref 303⟩, ⟨PyData.keyHash P "_EMPTY_PVECTOR", .str "_EMPTY_PVECTOR" 750, .ref 318⟩, ⟨PyData.keyHash P "python_pvector", .str "python_pvector" 757, .ref 327⟩, ⟨PyData.keyHash P "pvector", .str "pvector" 758, .ref 327⟩, ⟨PyData.keyHash P "law", .str "law" 766, .ref 332⟩] 26), #[]⟩),
  (nat_lit 49, ⟨.none, none, (.fields #[]), #[]⟩),
  (nat_lit 53, ⟨.type "code", none, (.fields #[.str "compare_pvector" 370, .str "compare_pvector" 371, .str "/claim/cut.py" 372, .int (11) 0, .int (3) 0, .int (0) 0, .int (0) 0, .int (3) 0, .ref 48, .bool true, .int (338) 0, .ref 49, .none, .ref 50, .ref 51, .ref 52, .int (376) 0, .int (11) 0, .str "/claim/cut.py" 377]), #[]⟩),
  (nat_lit 54, ⟨.type "function", none, (.func (fnD (nth (body0) 7) "compare_pvector" [] .none .none (.str "pyrsistent._pvector" 351) none (.ref 53) .none)), #[]⟩),
  (nat_lit 56, ⟨.none, none, (.fields #[]), #[]⟩),
  (nat_lit 60, ⟨.type "code", none, (.fields #[.str "_index_or_slice" 379, .str "_index_or_slice" 380, .str "/claim/cut.py" 381, .int (13) 0, .int (2) 0, .int (0) 0, .int (0) 0, .int (3) 0, .ref 55, .bool true, .int (338) 0, .ref 56, .none, .ref 57, .ref 58, .ref 59, .int (384) 0, .int (13) 0, .str "/claim/cut.py" 385]), #[]⟩),
  (nat_lit 61, ⟨.type "function", none, (.func (fnD (nth (body0) 8) "_index_or_slice" [] .none .none (.str "pyrsistent._pvector" 351) none (.ref 60) .none)), #[]⟩),
  (nat_lit 65, ⟨.type "cell", none, (.cell (some (.ref 303))), #[]⟩),
  (nat_lit 73, ⟨.none, none, (.fields #[]), #[]⟩),
  (nat_lit 77, ⟨.type "code", none, (.fields #[.str "__new__" 406, .str "PythonPVector.__new__" 407, .str "/claim/cut.py" 408, .int (20) 0, .int (5) 0, .int (0) 0, .int (0) 0, .int (3) 0, .ref 72, .bool true, .int (338) 0, .ref 73, .none, .ref 74, .ref 75, .ref 76, .int (416) 0, .int (20) 0, .str "/claim/cut.py" 417]), #[]⟩),
  (nat_lit 78, ⟨.type "function", none, (.func (fnD (nth clsBody 1) "PythonPVector.__new__" [("__class__", 65)] .none .none (.str "pyrsistent._pvector" 351) none (.ref 77) (.ref 71))), #[]⟩),
  (nat_lit 80, ⟨.none, none, (.fields #[]), #[]⟩),
  (nat_lit 84, ⟨.type "code", none, (.fields #[.str "__len__" 419, .str "PythonPVector.__len__" 420, .str "/claim/cut.py" 421, .int (29) 0, .int (1) 0, .int (0) 0, .int (0) 0, .int (3) 0, .ref 79, .bool true, .int (338) 0, .ref 80, .none, .ref 81, .ref 82, .ref 83, .int (423) 0, .int (29) 0, .str "/claim/cut.py" 424]), #[]⟩),
  (nat_lit 85, ⟨.type "function", none, (.func (fnD (nth clsBody 2) "PythonPVector.__len__" [] .none .none (.str "pyrsistent._pvector" 351) none (.ref 84) .none)), #[]⟩),
  (nat_lit 87, ⟨.none, none, (.fields #[]), #[]⟩),
  (nat_lit 91, ⟨.type "code", none, (.fields #[.str "__getitem__" 426, .str "PythonPVector.__getitem__" 427, .str "/claim/cut.py" 428, .int (32) 0, .int (2) 0, .int (0) 0, .int (0) 0, .int (3) 0, .ref 86, .bool true, .int (338) 0, .ref 87, .none, .ref 88, .ref 89, .ref 90, .int (431) 0, .int (32) 0, .str "/claim/cut.py" 432]), #[]⟩),
  (nat_lit 92, ⟨.type "function", none, (.func (fnD (nth clsBody 3) "PythonPVector.__getitem__" [] .none .none (.str "pyrsistent._pvector" 351) none (.ref 91) .none)), #[]⟩),
  (nat_lit 94, ⟨.none, none, (.fields #[]), #[]⟩),
  (nat_lit 98, ⟨.type "code", none, (.fields #[.str "__add__" 434, .str "PythonPVector.__add__" 435, .str "/claim/cut.py" 436, .int (41) 0, .int (2) 0, .int (0) 0, .int (0) 0, .int (3) 0, .ref 93, .bool true, .int (338) 0, .ref 94, .none, .ref 95, .ref 96, .ref 97, .int (439) 0, .int (41) 0, .str "/claim/cut.py" 440]), #[]⟩),
  (nat_lit 99, ⟨.type "function", none, (.func (fnD (nth clsBody 4) "PythonPVector.__add__" [] .none .none (.str "pyrsistent._pvector" 351) none (.ref 98) .none)), #[]⟩),
  (nat_lit 101, ⟨.none, none, (.fields #[]), #[]⟩),
  (nat_lit 105, ⟨.type "code", none, (.fields #[.str "__repr__" 442, .str "PythonPVector.__repr__" 443, .str "/claim/cut.py" 444, .int (44) 0, .int (1) 0, .int (0) 0, .int (0) 0, .int (3) 0, .ref 100, .bool true, .int (338) 0, .ref 101, .none, .ref 102, .ref 103, .ref 104, .int (446) 0, .int (44) 0, .str "/claim/cut.py" 447]), #[]⟩),
  (nat_lit 106, ⟨.type "function", none, (.func (fnD (nth clsBody 5) "PythonPVector.__repr__" [] .none .none (.str "pyrsistent._pvector" 351) none (.ref 105) .none)), #[]⟩),
  (nat_lit 108, ⟨.none, none, (.fields #[]), #[]⟩),
  (nat_lit 112, ⟨.type "code", none, (.fields #[.str "__str__" 449, .str "PythonPVector.__str__" 450, .str "/claim/cut.py" 451, .int (47) 0, .int (1) 0, .int (0) 0, .int (0) 0, .int (3) 0, .ref 107, .bool true, .int (338) 0, .ref 108, .none, .ref 109, .ref 110, .ref 111, .int (453) 0, .int (47) 0, .str "/claim/cut.py" 454]), #[]⟩),
  (nat_lit 113, ⟨.type "function", none, (.func (fnD (nth clsBody 6) "PythonPVector.__str__" [] .none .none (.str "pyrsistent._pvector" 351) none (.ref 112) .none)), #[]⟩),
  (nat_lit 115, ⟨.none, none, (.fields #[]), #[]⟩),
  (nat_lit 119, ⟨.type "code", none, (.fields #[.str "__iter__" 456, .str "PythonPVector.__iter__" 457, .str "/claim/cut.py" 458, .int (50) 0, .int (1) 0, .int (0) 0, .int (0) 0, .int (3) 0, .ref 114, .bool true, .int (338) 0, .ref 115, .none, .ref 116, .ref 117, .ref 118, .int (460) 0, .int (50) 0, .str "/claim/cut.py" 461]), #[]⟩),
  (nat_lit 120, ⟨.type "function", none, (.func (fnD (nth clsBody 7) "PythonPVector.__iter__" [] .none .none (.str "pyrsistent._pvector" 351) none (.ref 119) .none)), #[]⟩),
  (nat_lit 122, ⟨.none, none, (.fields #[]), #[]⟩),
  (nat_lit 126, ⟨.type "code", none, (.fields #[.str "__ne__" 463, .str "PythonPVector.__ne__" 464, .str "/claim/cut.py" 465, .int (53) 0, .int (2) 0, .int (0) 0, .int (0) 0, .int (3) 0, .ref 121, .bool true, .int (338) 0, .ref 122, .none, .ref 123, .ref 124, .ref 125, .int (468) 0, .int (53) 0, .str "/claim/cut.py" 469]), #[]⟩),
  (nat_lit 127, ⟨.type "function", none, (.func (fnD (nth clsBody 8) "PythonPVector.__ne__" [] .none .none (.str "pyrsistent._pvector" 351) none (.ref 126) .none)), #[]⟩),
  (nat_lit 129, ⟨.none, none, (.fields #[]), #[]⟩),
  (nat_lit 133, ⟨.type "code", none, (.fields #[.str "__eq__" 471, .str "PythonPVector.__eq__" 472, .str "/claim/cut.py" 473, .int (56) 0, .int (2) 0, .int (0) 0, .int (0) 0, .int (3) 0, .ref 128, .bool true, .int (338) 0, .ref 129, .none, .ref 130, .ref 131, .ref 132, .int (476) 0, .int (56) 0, .str "/claim/cut.py" 477]), #[]⟩),
  (nat_lit 134, ⟨.type "function", none, (.func (fnD (nth clsBody 9) "PythonPVector.__eq__" [] .none .none (.str "pyrsistent._pvector" 351) none (.ref 133) .none)), #[]⟩),
  (nat_lit 136, ⟨.none, none, (.fields #[]), #[]⟩),
  (nat_lit 140, ⟨.type "code", none, (.fields #[.str "__gt__" 479, .str "PythonPVector.__gt__" 480, .str "/claim/cut.py" 481, .int (59) 0, .int (2) 0, .int (0) 0, .int (0) 0, .int (3) 0, .ref 135, .bool true, .int (338) 0, .ref 136, .none, .ref 137, .ref 138, .ref 139, .int (484) 0, .int (59) 0, .str "/claim/cut.py" 485]), #[]⟩),
  (nat_lit 141, ⟨.type "function", none, (.func (fnD (nth clsBody 10) "PythonPVector.__gt__" [] .none .none (.str "pyrsistent._pvector" 351) none (.ref 140) .none)), #[]⟩),
  (nat_lit 143, ⟨.none, none, (.fields #[]), #[]⟩),
  (nat_lit 147, ⟨.type "code", none, (.fields #[.str "__lt__" 487, .str "PythonPVector.__lt__" 488, .str "/claim/cut.py" 489, .int (62) 0, .int (2) 0, .int (0) 0, .int (0) 0, .int (3) 0, .ref 142, .bool true, .int (338) 0, .ref 143, .none, .ref 144, .ref 145, .ref 146, .int (492) 0, .int (62) 0, .str "/claim/cut.py" 493]), #[]⟩),
  (nat_lit 148, ⟨.type "function", none, (.func (fnD (nth clsBody 11) "PythonPVector.__lt__" [] .none .none (.str "pyrsistent._pvector" 351) none (.ref 147) .none)), #[]⟩),
  (nat_lit 150, ⟨.none, none, (.fields #[]), #[]⟩),
  (nat_lit 154, ⟨.type "code", none, (.fields #[.str "__ge__" 495, .str "PythonPVector.__ge__" 496, .str "/claim/cut.py" 497, .int (65) 0, .int (2) 0, .int (0) 0, .int (0) 0, .int (3) 0, .ref 149, .bool true, .int (338) 0, .ref 150, .none, .ref 151, .ref 152, .ref 153, .int (500) 0, .int (65) 0, .str "/claim/cut.py" 501]), #[]⟩),
  (nat_lit 155, ⟨.type "function", none, (.func (fnD (nth clsBody 12) "PythonPVector.__ge__" [] .none .none (.str "pyrsistent._pvector" 351) none (.ref 154) .none)), #[]⟩),
  (nat_lit 157, ⟨.none, none, (.fields #[]), #[]⟩),
  (nat_lit 161, ⟨.type "code", none, (.fields #[.str "__le__" 503, .str "PythonPVector.__le__" 504, .str "/claim/cut.py" 505, .int (68) 0, .int (2) 0, .int (0) 0, .int (0) 0, .int (3) 0, .ref 156, .bool true, .int (338) 0, .ref 157, .none, .ref 158, .ref 159, .ref 160, .int (508) 0, .int (68) 0, .str "/claim/cut.py" 509]), #[]⟩),
  (nat_lit 162, ⟨.type "function", none, (.func (fnD (nth clsBody 13) "PythonPVector.__le__" [] .none .none (.str "pyrsistent._pvector" 351) none (.ref 161) .none)), #[]⟩),
  (nat_lit 164, ⟨.none, none, (.fields #[]), #[]⟩),
  (nat_lit 168, ⟨.type "code", none, (.fields #[.str "__mul__" 511, .str "PythonPVector.__mul__" 512, .str "/claim/cut.py" 513, .int (71) 0, .int (2) 0, .int (0) 0, .int (0) 0, .int (3) 0, .ref 163, .bool true, .int (338) 0, .ref 164, .none, .ref 165, .ref 166, .ref 167, .int (516) 0, .int (71) 0, .str "/claim/cut.py" 517]), #[]⟩),
  (nat_lit 169, ⟨.type "function", none, (.func (fnD (nth clsBody 14) "PythonPVector.__mul__" [] .none .none (.str "pyrsistent._pvector" 351) none (.ref 168) .none)), #[]⟩),
  (nat_lit 171, ⟨.none, none, (.fields #[]), #[]⟩),
  (nat_lit 175, ⟨.type "code", none, (.fields #[.str "_fill_list" 520, .str "PythonPVector._fill_list" 521, .str "/claim/cut.py" 522, .int (79) 0, .int (4) 0, .int (0) 0, .int (0) 0, .int (3) 0, .ref 170, .bool true, .int (338) 0, .ref 171, .none, .ref 172, .ref 173, .ref 174, .int (528) 0, .int (79) 0, .str "/claim/cut.py" 529]), #[]⟩),
  (nat_lit 176, ⟨.type "function", none, (.func (fnD (nth clsBody 16) "PythonPVector._fill_list" [] .none .none (.str "pyrsistent._pvector" 351) none (.ref 175) .none)), #[]⟩),
  (nat_lit 178, ⟨.none, none, (.fields #[]), #[]⟩),
  (nat_lit 182, ⟨.type "code", none, (.fields #[.str "tolist" 531, .str "PythonPVector.tolist" 532, .str "/claim/cut.py" 533, .int (87) 0, .int (1) 0, .int (0) 0, .int (0) 0, .int (3) 0, .ref 177, .bool true, .int (338) 0, .ref 178, .none, .ref 179, .ref 180, .ref 181, .int (536) 0, .int (87) 0, .str "/claim/cut.py" 537]), #[]⟩),
  (nat_lit 183, ⟨.type "function", none, (.func (fnD (nth clsBody 17) "PythonPVector.tolist" [] .none .none (.str "pyrsistent._pvector" 351) none (.ref 182) .none)), #[]⟩),
  (nat_lit 185, ⟨.none, none, (.fields #[]), #[]⟩),
  (nat_lit 189, ⟨.type "code", none, (.fields #[.str "_totuple" 539, .str "PythonPVector._totuple" 540, .str "/claim/cut.py" 541, .int (93) 0, .int (1) 0, .int (0) 0, .int (0) 0, .int (3) 0, .ref 184, .bool true, .int (338) 0, .ref 185, .none, .ref 186, .ref 187, .ref 188, .int (543) 0, .int (93) 0, .str "/claim/cut.py" 544]), #[]⟩),
  (nat_lit 190, ⟨.type "function", none, (.func (fnD (nth clsBody 18) "PythonPVector._totuple" [] .none .none (.str "pyrsistent._pvector" 351) none (.ref 189) .none)), #[]⟩),
  (nat_lit 192, ⟨.none, none, (.fields #[]), #[]⟩),
  (nat_lit 196, ⟨.type "code", none, (.fields #[.str "set" 546, .str "PythonPVector.set" 547, .str "/claim/cut.py" 548, .int (96) 0, .int (3) 0, .int (0) 0, .int (0) 0, .int (3) 0, .ref 191, .bool true, .int (338) 0, .ref 192, .none, .ref 193, .ref 194, .ref 195, .int (553) 0, .int (96) 0, .str "/claim/cut.py" 554]), #[]⟩),
  (nat_lit 197, ⟨.type "function", none, (.func (fnD (nth clsBody 19) "PythonPVector.set" [] .none .none (.str "pyrsistent._pvector" 351) none (.ref 196) .none)), #[]⟩),
  (nat_lit 199, ⟨.none, none, (.fields #[]), #[]⟩),
  (nat_lit 203, ⟨.type "code", none, (.fields #[.str "_do_set" 556, .str "PythonPVector._do_set" 557, .str "/claim/cut.py" 558, .int (111) 0, .int (5) 0, .int (0) 0, .int (0) 0, .int (3) 0, .ref 198, .bool true, .int (338) 0, .ref 199, .none, .ref 200, .ref 201, .ref 202, .int (566) 0, .int (111) 0, .str "/claim/cut.py" 567]), #[]⟩),
  (nat_lit 204, ⟨.type "function", none, (.func (fnD (nth clsBody 20) "PythonPVector._do_set" [] .none .none (.str "pyrsistent._pvector" 351) none (.ref 203) .none)), #[]⟩),
  (nat_lit 206, ⟨.none, none, (.fields #[]), #[]⟩),
  (nat_lit 210, ⟨.type "code", none, (.fields #[.str "_node_for" 569, .str "PythonPVector._node_for" 570, .str "/claim/cut.py" 571, .int (120) 0, .int (2) 0, .int (0) 0, .int (0) 0, .int (3) 0, .ref 205, .bool true, .int (338) 0, .ref 206, .none, .ref 207, .ref 208, .ref 209, .int (576) 0, .int (120) 0, .str "/claim/cut.py" 577]), #[]⟩),
  (nat_lit 211, ⟨.type "function", none, (.func (fnD (nth clsBody 21) "PythonPVector._node_for" [] .none .none (.str "pyrsistent._pvector" 351) (some 214) (.ref 210) .none)), #[]⟩),
  (nat_lit 213, ⟨.type "staticmethod", (some 212), (.fields #[.ref 211, .bool false]), #[]⟩),
  (nat_lit 216, ⟨.none, none, (.fields #[]), #[]⟩),
  (nat_lit 220, ⟨.type "code", none, (.fields #[.str "_create_new_root" 591, .str "PythonPVector._create_new_root" 592, .str "/claim/cut.py" 593, .int (131) 0, .int (1) 0, .int (0) 0, .int (0) 0, .int (3) 0, .ref 215, .bool true, .int (338) 0, .ref 216, .none, .ref 217, .ref 218, .ref 219, .int (597) 0, .int (131) 0, .str "/claim/cut.py" 598]), #[]⟩),
  (nat_lit 221, ⟨.type "function", none, (.func (fnD (nth clsBody 22) "PythonPVector._create_new_root" [] .none .none (.str "pyrsistent._pvector" 351) none (.ref 220) .none)), #[]⟩),
  (nat_lit 223, ⟨.none, none, (.fields #[]), #[]⟩),
  (nat_lit 227, ⟨.type "code", none, (.fields #[.str "append" 600, .str "PythonPVector.append" 601, .str "/claim/cut.py" 602, .int (140) 0, .int (2) 0, .int (0) 0, .int (0) 0, .int (3) 0, .ref 222, .bool true, .int (338) 0, .ref 223, .none, .ref 224, .ref 225, .ref 226, .int (608) 0, .int (140) 0, .str "/claim/cut.py" 609]), #[]⟩),
  (nat_lit 228, ⟨.type "function", none, (.func (fnD (nth clsBody 23) "PythonPVector.append" [] .none .none (.str "pyrsistent._pvector" 351) none (.ref 227) .none)), #[]⟩),
  (nat_lit 230, ⟨.none, none, (.fields #[]), #[]⟩),
  (nat_lit 234, ⟨.type "code", none, (.fields #[.str "_new_path" 611, .str "PythonPVector._new_path" 612, .str "/claim/cut.py" 613, .int (148) 0, .int (3) 0, .int (0) 0, .int (0) 0, .int (3) 0, .ref 229, .bool true, .int (338) 0, .ref 230, .none, .ref 231, .ref 232, .ref 233, .int (617) 0, .int (148) 0, .str "/claim/cut.py" 618]), #[]⟩),
  (nat_lit 235, ⟨.type "function", none, (.func (fnD (nth clsBody 24) "PythonPVector._new_path" [] .none .none (.str "pyrsistent._pvector" 351) none (.ref 234) .none)), #[]⟩),
  (nat_lit 237, ⟨.none, none, (.fields #[]), #[]⟩),
  (nat_lit 241, ⟨.type "code", none, (.fields #[.str "_mutating_insert_tail" 620, .str "PythonPVector._mutating_insert_tail" 621, .str "/claim/cut.py" 622, .int (153) 0, .int (1) 0, .int (0) 0, .int (0) 0, .int (3) 0, .ref 236, .bool true, .int (338) 0, .ref 237, .none, .ref 238, .ref 239, .ref 240, .int (624) 0, .int (153) 0, .str "/claim/cut.py" 625]), #[]⟩),
  (nat_lit 242, ⟨.type "function", none, (.func (fnD (nth clsBody 25) "PythonPVector._mutating_insert_tail" [] .none .none (.str "pyrsistent._pvector" 351) none (.ref 241) .none)), #[]⟩),
  (nat_lit 244, ⟨.none, none, (.fields #[]), #[]⟩),
  (nat_lit 248, ⟨.type "code", none, (.fields #[.str "_mutating_fill_tail" 627, .str "PythonPVector._mutating_fill_tail" 628, .str "/claim/cut.py" 629, .int (157) 0, .int (3) 0, .int (0) 0, .int (0) 0, .int (3) 0, .ref 243, .bool true, .int (338) 0, .ref 244, .none, .ref 245, .ref 246, .ref 247, .int (636) 0, .int (157) 0, .str "/claim/cut.py" 637]), #[]⟩),
  (nat_lit 249, ⟨.type "function", none, (.func (fnD (nth clsBody 26) "PythonPVector._mutating_fill_tail" [] .none .none (.str "pyrsistent._pvector" 351) none (.ref 248) .none)), #[]⟩),
  (nat_lit 251, ⟨.none, none, (.fields #[]), #[]⟩),
  (nat_lit 255, ⟨.type "code", none, (.fields #[.str "_mutating_extend" 639, .str "PythonPVector._mutating_extend" 640, .str "/claim/cut.py" 641, .int (165) 0, .int (2) 0, .int (0) 0, .int (0) 0, .int (3) 0, .ref 250, .bool true, .int (338) 0, .ref 251, .none, .ref 252, .ref 253, .ref 254, .int (646) 0, .int (165) 0, .str "/claim/cut.py" 647]), #[]⟩),
  (nat_lit 256, ⟨.type "function", none, (.func (fnD (nth clsBody 27) "PythonPVector._mutating_extend" [] .none .none (.str "pyrsistent._pvector" 351) none (.ref 255) .none)), #[]⟩),
  (nat_lit 258, ⟨.none, none, (.fields #[]), #[]⟩),
  (nat_lit 262, ⟨.type "code", none, (.fields #[.str "extend" 649, .str "PythonPVector.extend" 650, .str "/claim/cut.py" 651, .int (174) 0, .int (2) 0, .int (0) 0, .int (0) 0, .int (3) 0, .ref 257, .bool true, .int (338) 0, .ref 258, .none, .ref 259, .ref 260, .ref 261, .int (656) 0, .int (174) 0, .str "/claim/cut.py" 657]), #[]⟩),
  (nat_lit 263, ⟨.type "function", none, (.func (fnD (nth clsBody 28) "PythonPVector.extend" [] .none .none (.str "pyrsistent._pvector" 351) none (.ref 262) .none)), #[]⟩),
  (nat_lit 265, ⟨.none, none, (.fields #[]), #[]⟩),
  (nat_lit 269, ⟨.type "code", none, (.fields #[.str "_push_tail" 659, .str "PythonPVector._push_tail" 660, .str "/claim/cut.py" 661, .int (182) 0, .int (4) 0, .int (0) 0, .int (0) 0, .int (3) 0, .ref 264, .bool true, .int (338) 0, .ref 265, .none, .ref 266, .ref 267, .ref 268, .int (668) 0, .int (182) 0, .str "/claim/cut.py" 669]), #[]⟩),
  (nat_lit 270, ⟨.type "function", none, (.func (fnD (nth clsBody 29) "PythonPVector._push_tail" [] .none .none (.str "pyrsistent._pvector" 351) none (.ref 269) .none)), #[]⟩),
  (nat_lit 272, ⟨.none, none, (.fields #[]), #[]⟩),
  (nat_lit 276, ⟨.type "code", none, (.fields #[.str "index" 671, .str "PythonPVector.index" 672, .str "/claim/cut.py" 673, .int (194) 0, .int (2) 0, .int (0) 0, .int (0) 0, .int (15) 0, .ref 271, .bool true, .int (338) 0, .ref 272, .none, .ref 273, .ref 274, .ref 275, .int (678) 0, .int (194) 0, .str "/claim/cut.py" 679]), #[]⟩),
  (nat_lit 277, ⟨.type "function", none, (.func (fnD (nth clsBody 30) "PythonPVector.index" [] .none .none (.str "pyrsistent._pvector" 351) none (.ref 276) .none)), #[]⟩),
  (nat_lit 279, ⟨.none, none, (.fields #[]), #[]⟩),
  (nat_lit 283, ⟨.type "code", none, (.fields #[.str "count" 681, .str "PythonPVector.count" 682, .str "/claim/cut.py" 683, .int (197) 0, .int (2) 0, .int (0) 0, .int (0) 0, .int (3) 0, .ref 278, .bool true, .int (338) 0, .ref 279, .none, .ref 280, .ref 281, .ref 282, .int (686) 0, .int (197) 0, .str "/claim/cut.py" 687]), #[]⟩),
  (nat_lit 284, ⟨.type "function", none, (.func (fnD (nth clsBody 31) "PythonPVector.count" [] .none .none (.str "pyrsistent._pvector" 351) none (.ref 283) .none)), #[]⟩),
  (nat_lit 285, ⟨.type "tuple", none, (.seq #[.none] 0), #[]⟩),
  (nat_lit 287, ⟨.none, none, (.fields #[]), #[]⟩),
  (nat_lit 291, ⟨.type "code", none, (.fields #[.str "delete" 689, .str "PythonPVector.delete" 690, .str "/claim/cut.py" 691, .int (200) 0, .int (3) 0, .int (0) 0, .int (0) 0, .int (3) 0, .ref 286, .bool true, .int (338) 0, .ref 287, .none, .ref 288, .ref 289, .ref 290, .int (696) 0, .int (200) 0, .str "/claim/cut.py" 697]), #[]⟩),
  (nat_lit 292, ⟨.type "function", none, (.func (fnD (nth clsBody 32) "PythonPVector.delete" [] (.ref 285) .none (.str "pyrsistent._pvector" 351) none (.ref 291) .none)), #[]⟩),
  (nat_lit 294, ⟨.none, none, (.fields #[]), #[]⟩),
  (nat_lit 298, ⟨.type "code", none, (.fields #[.str "remove" 699, .str "PythonPVector.remove" 700, .str "/claim/cut.py" 701, .int (205) 0, .int (2) 0, .int (0) 0, .int (0) 0, .int (3) 0, .ref 293, .bool true, .int (338) 0, .ref 294, .none, .ref 295, .ref 296, .ref 297, .int (704) 0, .int (205) 0, .str "/claim/cut.py" 705]), #[]⟩),
  (nat_lit 299, ⟨.type "function", none, (.func (fnD (nth clsBody 33) "PythonPVector.remove" [] .none .none (.str "pyrsistent._pvector" 351) none (.ref 298) .none)), #[]⟩),
  (nat_lit 302, ⟨.type "dict", none, (.dict #[⟨PyData.keyHash P "__module__", .str "__module__" 394, .str "pyrsistent._pvector" 351⟩, ⟨PyData.keyHash P "__firstlineno__", .str "__firstlineno__" 398, .int (17) 397⟩, ⟨PyData.keyHash P "__slots__", .str "__slots__" 405, .ref 70⟩, ⟨PyData.keyHash P "__new__", .str "__new__" 418, .ref 304⟩, ⟨PyData.keyHash P "__len__", .str "__len__" 425, .ref 85⟩, ⟨PyData.keyHash P "__getitem__", .str "__getitem__" 433, .ref 92⟩, ⟨PyData.keyHash P "__add__", .str "__add__" 441, .ref 99⟩, ⟨PyData.keyHash P "__repr__", .str "__repr__" 448, .ref 106⟩, ⟨PyData.keyHash P "__str__", .str "__str__" 455, .ref 113⟩, ⟨PyData.keyHash P "__iter__", .str "__iter__" 462, .ref 120⟩, ⟨PyData.keyHash P "__ne__", .str "__ne__" 470, .ref 127⟩, ⟨PyData.keyHash P "__eq__", .str "__eq__" 478, .ref 134⟩, ⟨PyData.keyHash P "__gt__", .str "__gt__" 486, .ref 141⟩, ⟨PyData.keyHash P "__lt__", .str "__lt__" 494, .ref 148⟩, ⟨PyData.keyHash P "__ge__", .str "__ge__" 502, .ref 155⟩, ⟨PyData.keyHash P "__le__", .str "__le__" 510, .ref 162⟩, ⟨PyData.keyHash P "__mul__", .str "__mul__" 518, .ref 169⟩, ⟨PyData.keyHash P "__rmul__", .str "__rmul__" 519, .ref 169⟩, ⟨PyData.keyHash P "_fill_list", .str "_fill_list" 530, .ref 176⟩, ⟨PyData.keyHash P "tolist", .str "tolist" 538, .ref 183⟩, ⟨PyData.keyHash P "_totuple", .str "_totuple" 545, .ref 190⟩, ⟨PyData.keyHash P "set", .str "set" 555, .ref 197⟩, ⟨PyData.keyHash P "_do_set", .str "_do_set" 568, .ref 204⟩, ⟨PyData.keyHash P "_node_for", .str "_node_for" 590, .ref 213⟩, ⟨PyData.keyHash P "_create_new_root", .str "_create_new_root" 599, .ref 221⟩, ⟨PyData.keyHash P "append", .str "append" 610, .ref 228⟩, ⟨PyData.keyHash P "_new_path", .str "_new_path" 619, .ref 235⟩, ⟨PyData.keyHash P "_mutating_insert_tail", .str "_mutating_insert_tail" 626, .ref 242⟩, ⟨PyData.keyHash P "_mutating_fill_tail", .str "_mutating_fill_tail" 638, .ref 249⟩, ⟨PyData.keyHash P "_mutating_extend", .str "_mutating_extend" 648, .ref 256⟩, ⟨PyData.keyHash P "extend", .str "extend" 658, .ref 263⟩, ⟨PyData.keyHash P "_push_tail", .str "_push_tail" 670, .ref 270⟩, ⟨PyData.keyHash P "index", .str "index" 680, .ref 277⟩, ⟨PyData.keyHash P "count", .str "count" 688, .ref 284⟩, ⟨PyData.keyHash P "delete", .str "delete" 698, .ref 292⟩, ⟨PyData.keyHash P "remove", .str "remove" 706, .ref 299⟩, ⟨PyData.keyHash P "__static_attributes__", .str "__static_attributes__" 712, .ref 300⟩, ⟨PyData.keyHash P "_count", .str "_count" 716, .ref 305⟩, ⟨PyData.keyHash P "_root", .str "_root" 718, .ref 306⟩, ⟨PyData.keyHash P "_shift", .str "_shift" 720, .ref 307⟩, ⟨PyData.keyHash P "_tail", .str "_tail" 722, .ref 308⟩, ⟨PyData.keyHash P "_tail_offset", .str "_tail_offset" 724, .ref 309⟩, ⟨PyData.keyHash P "__weakref__", .str "__weakref__" 726, .ref 310⟩, ⟨PyData.keyHash P "__doc__", .str "__doc__" 727, .none⟩, ⟨PyData.keyHash P "__hash__", .str "__hash__" 728, .none⟩] 10), #[]⟩),
  (nat_lit 303, ⟨.type "type", none, (.cls { name := "PythonPVector", bases := [.type "object"], mro := [.ref 303, .type "object"], ns := 302, qualname := "PythonPVector", hasDict := false, slotNames := ["_count", "_root", "_shift", "_tail", "_tail_offset"], subclasses := [], abstract := false, collection := none, hasDel := false }), #[(some (.ref 62)), none, (some (.str "PythonPVector" 387)), (some (.str "PythonPVector" 395)), (some .none), (some (.bool true))]⟩),
  (nat_lit 304, ⟨.type "staticmethod", none, (.fields #[.ref 78]), #[]⟩),
  (nat_lit 305, ⟨.type "member_descriptor", none, (.fields #[.str "_count" 715, .ref 303, .builtin "proto.slot", .builtin "proto.slot#set", .int (4) 0]), #[]⟩),
  (nat_lit 306, ⟨.type "member_descriptor", none, (.fields #[.str "_root" 717, .ref 303, .builtin "proto.slot", .builtin "proto.slot#set", .int (3) 0]), #[]⟩),
  (nat_lit 307, ⟨.type "member_descriptor", none, (.fields #[.str "_shift" 719, .ref 303, .builtin "proto.slot", .builtin "proto.slot#set", .int (2) 0]), #[]⟩),
  (nat_lit 308, ⟨.type "member_descriptor", none, (.fields #[.str "_tail" 721, .ref 303, .builtin "proto.slot", .builtin "proto.slot#set", .int (1) 0]), #[]⟩),
  (nat_lit 309, ⟨.type "member_descriptor", none, (.fields #[.str "_tail_offset" 723, .ref 303, .builtin "proto.slot", .builtin "proto.slot#set", .int (0) 0]), #[]⟩),
  (nat_lit 313, ⟨.type "list", none, (.seq #[] 0), #[]⟩),
  (nat_lit 314, ⟨.type "list", none, (.seq #[] 0), #[]⟩),
  (nat_lit 317, ⟨.type "dict", none, (.dict #[] 0), #[]⟩),
  (nat_lit 318, ⟨.ref 303, (some 317), .plain, #[(some (.int (0) 731)), (some (.ref 313)), (some (.int (5) 368)), (some (.ref 314)), (some (.int (0) 748))]⟩),
  (nat_lit 319, ⟨.type "tuple", none, (.seq #[] 0), #[]⟩),
  (nat_lit 320, ⟨.type "tuple", none, (.seq #[.ref 319] 0), #[]⟩),
  (nat_lit 322, ⟨.none, none, (.fields #[]), #[]⟩),
  (nat_lit 326, ⟨.type "code", none, (.fields #[.str "python_pvector" 751, .str "python_pvector" 752, .str "/claim/cut.py" 753, .int (208) 0, .int (1) 0, .int (0) 0, .int (0) 0, .int (3) 0, .ref 321, .bool true, .int (338) 0, .ref 322, .none, .ref 323, .ref 324, .ref 325, .int (755) 0, .int (208) 0, .str "/claim/cut.py" 756]), #[]⟩),
  (nat_lit 327, ⟨.type "function", none, (.func (fnD (nth (body0) 11) "python_pvector" [] (.ref 320) .none (.str "pyrsistent._pvector" 351) none (.ref 326) .none)), #[]⟩)]
abbrev kAs : List Addr := [2, 3, 49, 53, 54, 56, 60, 61, 65, 73, 77, 78, 80, 84, 85, 87, 91, 92, 94, 98, 99, 101, 105, 106, 108, 112, 113, 115, 119, 120, 122, 126, 127, 129, 133, 134, 136, 140, 141, 143, 147, 148, 150, 154, 155, 157, 161, 162, 164, 168, 169, 171, 175, 176, 178, 182, 183, 185, 189, 190, 192, 196, 197, 199, 203, 204, 206, 210, 211, 213, 216, 220, 221, 223, 227, 228, 230, 234, 235, 237, 241, 242, 244, 248, 249, 251, 255, 256, 258, 262, 263, 265, 269, 270, 272, 276, 277, 279, 283, 284, 285, 287, 291, 292, 294, 298, 299, 302, 303, 304, 305, 306, 307, 308, 309, 313, 314, 317, 318, 319, 320, 322, 326, 327]

def keep : List Nat := [0, 1, 3, 4, 5, 6, 7, 8, 9, 10, 12, 14]
def qv : Program := view prog keep
abbrev loose : List Str := ["BIT_MASK", "SHIFT", "PythonPVector", "_EMPTY_PVECTOR", "python_pvector", "pvector"]
abbrev lv : List (Str × WData) := [("BIT_MASK", .int 31), ("SHIFT", .int 5)]
abbrev row : RowW := PySem.Challenge.rw_md0020_01.row.toRowW
theorem kAs_eq : ∀ P, kAs = (K P).map (·.1) := fun _ => by kernel_rfl!
noncomputable abbrev hook : Hook := kHook K kAs kAs_eq
abbrev Xt : Shared → Bool := fun s => xlAt qv lv s && recOk row.records s
end
section
set_option maxHeartbeats 0
abbrev ucs (l : List Nat) : Str := ⟨⟨l⟩⟩
noncomputable def H0 : Params → Heap := fun P => ⟨#[
  ⟨.type "dict", none, (.dict #[⟨PyData.keyHash P (ucs [95,95,110,97,109,101,95,95]), .str (ucs [95,95,110,97,109,101,95,95]) 1, .str (ucs [98,117,105,108,116,105,110,115]) 160⟩, ⟨PyData.keyHash P (ucs [95,95,100,111,99,95,95]), .str (ucs [95,95,100,111,99,95,95]) 2, .builtin "builtins.__doc__:str#opaque"⟩, ⟨PyData.keyHash P (ucs [95,95,112,97,99,107,97,103,101,95,95]), .str (ucs [95,95,112,97,99,107,97,103,101,95,95]) 3, .builtin "builtins.__package__:str#opaque"⟩, ⟨PyData.keyHash P (ucs [95,95,108,111,97,100,101,114,95,95]), .str (ucs [95,95,108,111,97,100,101,114,95,95]) 4, .builtin "builtins.__loader__:shared#opaque"⟩, ⟨PyData.keyHash P (ucs [95,95,115,112,101,99,95,95]), .str (ucs [95,95,115,112,101,99,95,95]) 5, .builtin "builtins.__spec__#opaque"⟩, ⟨PyData.keyHash P (ucs [95,95,98,117,105,108,100,95,99,108,97,115,115,95,95]), .str (ucs [95,95,98,117,105,108,100,95,99,108,97,115,115,95,95]) 6, .builtin "__build_class__"⟩, ⟨PyData.keyHash P (ucs [95,95,105,109,112,111,114,116,95,95]), .str (ucs [95,95,105,109,112,111,114,116,95,95]) 7, .builtin "__import__"⟩, ⟨PyData.keyHash P (ucs [97,98,115]), .str (ucs [97,98,115]) 8, .builtin "abs"⟩, ⟨PyData.keyHash P (ucs [97,108,108]), .str (ucs [97,108,108]) 9, .builtin "all"⟩, ⟨PyData.keyHash P (ucs [97,110,121]), .str (ucs [97,110,121]) 10, .builtin "any"⟩, ⟨PyData.keyHash P (ucs [97,115,99,105,105]), .str (ucs [97,115,99,105,105]) 11, .builtin "ascii"⟩, ⟨PyData.keyHash P (ucs [98,105,110]), .str (ucs [98,105,110]) 12, .builtin "bin"⟩, ⟨PyData.keyHash P (ucs [98,114,101,97,107,112,111,105,110,116]), .str (ucs [98,114,101,97,107,112,111,105,110,116]) 13, .builtin "breakpoint"⟩, ⟨PyData.keyHash P (ucs [99,97,108,108,97,98,108,101]), .str (ucs [99,97,108,108,97,98,108,101]) 14, .builtin "callable"⟩, ⟨PyData.keyHash P (ucs [99,104,114]), .str (ucs [99,104,114]) 15, .builtin "chr"⟩, ⟨PyData.keyHash P (ucs [99,111,109,112,105,108,101]), .str (ucs [99,111,109,112,105,108,101]) 16, .builtin "compile"⟩, ⟨PyData.keyHash P (ucs [100,101,108,97,116,116,114]), .str (ucs [100,101,108,97,116,116,114]) 17, .builtin "delattr"⟩, ⟨PyData.keyHash P (ucs [100,105,114]), .str (ucs [100,105,114]) 18, .builtin "dir"⟩, ⟨PyData.keyHash P (ucs [100,105,118,109,111,100]), .str (ucs [100,105,118,109,111,100]) 19, .builtin "divmod"⟩, ⟨PyData.keyHash P (ucs [101,118,97,108]), .str (ucs [101,118,97,108]) 20, .builtin "eval"⟩, ⟨PyData.keyHash P (ucs [101,120,101,99]), .str (ucs [101,120,101,99]) 21, .builtin "exec"⟩, ⟨PyData.keyHash P (ucs [102,111,114,109,97,116]), .str (ucs [102,111,114,109,97,116]) 22, .builtin "format"⟩, ⟨PyData.keyHash P (ucs [103,101,116,97,116,116,114]), .str (ucs [103,101,116,97,116,116,114]) 23, .builtin "getattr"⟩, ⟨PyData.keyHash P (ucs [103,108,111,98,97,108,115]), .str (ucs [103,108,111,98,97,108,115]) 24, .builtin "globals"⟩, ⟨PyData.keyHash P (ucs [104,97,115,97,116,116,114]), .str (ucs [104,97,115,97,116,116,114]) 25, .builtin "hasattr"⟩, ⟨PyData.keyHash P (ucs [104,97,115,104]), .str (ucs [104,97,115,104]) 26, .builtin "hash"⟩, ⟨PyData.keyHash P (ucs [104,101,120]), .str (ucs [104,101,120]) 27, .builtin "hex"⟩, ⟨PyData.keyHash P (ucs [105,100]), .str (ucs [105,100]) 28, .builtin "id"⟩, ⟨PyData.keyHash P (ucs [105,110,112,117,116]), .str (ucs [105,110,112,117,116]) 29, .builtin "input"⟩, ⟨PyData.keyHash P (ucs [105,115,105,110,115,116,97,110,99,101]), .str (ucs [105,115,105,110,115,116,97,110,99,101]) 30, .builtin "isinstance"⟩, ⟨PyData.keyHash P (ucs [105,115,115,117,98,99,108,97,115,115]), .str (ucs [105,115,115,117,98,99,108,97,115,115]) 31, .builtin "issubclass"⟩, ⟨PyData.keyHash P (ucs [105,116,101,114]), .str (ucs [105,116,101,114]) 32, .builtin "iter"⟩, ⟨PyData.keyHash P (ucs [97,105,116,101,114]), .str (ucs [97,105,116,101,114]) 33, .builtin "aiter"⟩, ⟨PyData.keyHash P (ucs [108,101,110]), .str (ucs [108,101,110]) 34, .builtin "len"⟩, ⟨PyData.keyHash P (ucs [108,111,99,97,108,115]), .str (ucs [108,111,99,97,108,115]) 35, .builtin "locals"⟩, ⟨PyData.keyHash P (ucs [109,97,120]), .str (ucs [109,97,120]) 36, .builtin "max"⟩, ⟨PyData.keyHash P (ucs [109,105,110]), .str (ucs [109,105,110]) 37, .builtin "min"⟩, ⟨PyData.keyHash P (ucs [110,101,120,116]), .str (ucs [110,101,120,116]) 38, .builtin "next"⟩, ⟨PyData.keyHash P (ucs [97,110,101,120,116]), .str (ucs [97,110,101,120,116]) 39, .builtin "anext"⟩, ⟨PyData.keyHash P (ucs [111,99,116]), .str (ucs [111,99,116]) 40, .builtin "oct"⟩, ⟨PyData.keyHash P (ucs [111,114,100]), .str (ucs [111,114,100]) 41, .builtin "ord"⟩, ⟨PyData.keyHash P (ucs [112,111,119]), .str (ucs [112,111,119]) 42, .builtin "pow"⟩, ⟨PyData.keyHash P (ucs [112,114,105,110,116]), .str (ucs [112,114,105,110,116]) 43, .builtin "print"⟩, ⟨PyData.keyHash P (ucs [114,101,112,114]), .str (ucs [114,101,112,114]) 44, .builtin "repr"⟩, ⟨PyData.keyHash P (ucs [114,111,117,110,100]), .str (ucs [114,111,117,110,100]) 45, .builtin "round"⟩, ⟨PyData.keyHash P (ucs [115,101,116,97,116,116,114]), .str (ucs [115,101,116,97,116,116,114]) 46, .builtin "setattr"⟩, ⟨PyData.keyHash P (ucs [115,111,114,116,101,100]), .str (ucs [115,111,114,116,101,100]) 47, .builtin "sorted"⟩, ⟨PyData.keyHash P (ucs [115,117,109]), .str (ucs [115,117,109]) 48, .builtin "sum"⟩, ⟨PyData.keyHash P (ucs [118,97,114,115]), .str (ucs [118,97,114,115]) 49, .builtin "vars"⟩, ⟨PyData.keyHash P (ucs [78,111,110,101]), .str (ucs [78,111,110,101]) 50, .none⟩, ⟨PyData.keyHash P (ucs [69,108,108,105,112,115,105,115]), .str (ucs [69,108,108,105,112,115,105,115]) 51, .ellipsis⟩, ⟨PyData.keyHash P (ucs [78,111,116,73,109,112,108,101,109,101,110,116,101,100]), .str (ucs [78,111,116,73,109,112,108,101,109,101,110,116,101,100]) 52, .notImplemented⟩, ⟨PyData.keyHash P (ucs [70,97,108,115,101]), .str (ucs [70,97,108,115,101]) 53, .bool false⟩, ⟨PyData.keyHash P (ucs [84,114,117,101]), .str (ucs [84,114,117,101]) 54, .bool true⟩, ⟨PyData.keyHash P (ucs [98,111,111,108]), .str (ucs [98,111,111,108]) 55, .type "bool"⟩, ⟨PyData.keyHash P (ucs [109,101,109,111,114,121,118,105,101,119]), .str (ucs [109,101,109,111,114,121,118,105,101,119]) 56, .type "memoryview"⟩, ⟨PyData.keyHash P (ucs [98,121,116,101,97,114,114,97,121]), .str (ucs [98,121,116,101,97,114,114,97,121]) 57, .type "bytearray"⟩, ⟨PyData.keyHash P (ucs [98,121,116,101,115]), .str (ucs [98,121,116,101,115]) 58, .type "bytes"⟩, ⟨PyData.keyHash P (ucs [99,108,97,115,115,109,101,116,104,111,100]), .str (ucs [99,108,97,115,115,109,101,116,104,111,100]) 59, .type "classmethod"⟩, ⟨PyData.keyHash P (ucs [99,111,109,112,108,101,120]), .str (ucs [99,111,109,112,108,101,120]) 60, .type "complex"⟩, ⟨PyData.keyHash P (ucs [100,105,99,116]), .str (ucs [100,105,99,116]) 61, .type "dict"⟩, ⟨PyData.keyHash P (ucs [101,110,117,109,101,114,97,116,101]), .str (ucs [101,110,117,109,101,114,97,116,101]) 62, .type "enumerate"⟩, ⟨PyData.keyHash P (ucs [102,105,108,116,101,114]), .str (ucs [102,105,108,116,101,114]) 63, .type "filter"⟩, ⟨PyData.keyHash P (ucs [102,108,111,97,116]), .str (ucs [102,108,111,97,116]) 64, .type "float"⟩, ⟨PyData.keyHash P (ucs [102,114,111,122,101,110,115,101,116]), .str (ucs [102,114,111,122,101,110,115,101,116]) 65, .type "frozenset"⟩, ⟨PyData.keyHash P (ucs [112,114,111,112,101,114,116,121]), .str (ucs [112,114,111,112,101,114,116,121]) 66, .type "property"⟩, ⟨PyData.keyHash P (ucs [105,110,116]), .str (ucs [105,110,116]) 67, .type "int"⟩, ⟨PyData.keyHash P (ucs [108,105,115,116]), .str (ucs [108,105,115,116]) 68, .type "list"⟩, ⟨PyData.keyHash P (ucs [109,97,112]), .str (ucs [109,97,112]) 69, .type "map"⟩, ⟨PyData.keyHash P (ucs [111,98,106,101,99,116]), .str (ucs [111,98,106,101,99,116]) 70, .type "object"⟩, ⟨PyData.keyHash P (ucs [114,97,110,103,101]), .str (ucs [114,97,110,103,101]) 71, .type "range"⟩, ⟨PyData.keyHash P (ucs [114,101,118,101,114,115,101,100]), .str (ucs [114,101,118,101,114,115,101,100]) 72, .type "reversed"⟩, ⟨PyData.keyHash P (ucs [115,101,116]), .str (ucs [115,101,116]) 73, .type "set"⟩, ⟨PyData.keyHash P (ucs [115,108,105,99,101]), .str (ucs [115,108,105,99,101]) 74, .type "slice"⟩, ⟨PyData.keyHash P (ucs [115,116,97,116,105,99,109,101,116,104,111,100]), .str (ucs [115,116,97,116,105,99,109,101,116,104,111,100]) 75, .type "staticmethod"⟩, ⟨PyData.keyHash P (ucs [115,116,114]), .str (ucs [115,116,114]) 76, .type "str"⟩, ⟨PyData.keyHash P (ucs [115,117,112,101,114]), .str (ucs [115,117,112,101,114]) 77, .type "super"⟩, ⟨PyData.keyHash P (ucs [116,117,112,108,101]), .str (ucs [116,117,112,108,101]) 78, .type "tuple"⟩, ⟨PyData.keyHash P (ucs [116,121,112,101]), .str (ucs [116,121,112,101]) 79, .type "type"⟩, ⟨PyData.keyHash P (ucs [122,105,112]), .str (ucs [122,105,112]) 80, .type "zip"⟩, ⟨PyData.keyHash P (ucs [95,95,100,101,98,117,103,95,95]), .str (ucs [95,95,100,101,98,117,103,95,95]) 81, .bool true⟩, ⟨PyData.keyHash P (ucs [66,97,115,101,69,120,99,101,112,116,105,111,110]), .str (ucs [66,97,115,101,69,120,99,101,112,116,105,111,110]) 82, .type "BaseException"⟩, ⟨PyData.keyHash P (ucs [66,97,115,101,69,120,99,101,112,116,105,111,110,71,114,111,117,112]), .str (ucs [66,97,115,101,69,120,99,101,112,116,105,111,110,71,114,111,117,112]) 83, .type "BaseExceptionGroup"⟩, ⟨PyData.keyHash P (ucs [69,120,99,101,112,116,105,111,110]), .str (ucs [69,120,99,101,112,116,105,111,110]) 84, .type "Exception"⟩, ⟨PyData.keyHash P (ucs [71,101,110,101,114,97,116,111,114,69,120,105,116]), .str (ucs [71,101,110,101,114,97,116,111,114,69,120,105,116]) 85, .type "GeneratorExit"⟩, ⟨PyData.keyHash P (ucs [75,101,121,98,111,97,114,100,73,110,116,101,114,114,117,112,116]), .str (ucs [75,101,121,98,111,97,114,100,73,110,116,101,114,114,117,112,116]) 86, .type "KeyboardInterrupt"⟩, ⟨PyData.keyHash P (ucs [83,121,115,116,101,109,69,120,105,116]), .str (ucs [83,121,115,116,101,109,69,120,105,116]) 87, .type "SystemExit"⟩, ⟨PyData.keyHash P (ucs [65,114,105,116,104,109,101,116,105,99,69,114,114,111,114]), .str (ucs [65,114,105,116,104,109,101,116,105,99,69,114,114,111,114]) 88, .type "ArithmeticError"⟩, ⟨PyData.keyHash P (ucs [65,115,115,101,114,116,105,111,110,69,114,114,111,114]), .str (ucs [65,115,115,101,114,116,105,111,110,69,114,114,111,114]) 89, .type "AssertionError"⟩, ⟨PyData.keyHash P (ucs [65,116,116,114,105,98,117,116,101,69,114,114,111,114]), .str (ucs [65,116,116,114,105,98,117,116,101,69,114,114,111,114]) 90, .type "AttributeError"⟩, ⟨PyData.keyHash P (ucs [66,117,102,102,101,114,69,114,114,111,114]), .str (ucs [66,117,102,102,101,114,69,114,114,111,114]) 91, .type "BufferError"⟩, ⟨PyData.keyHash P (ucs [69,79,70,69,114,114,111,114]), .str (ucs [69,79,70,69,114,114,111,114]) 92, .type "EOFError"⟩, ⟨PyData.keyHash P (ucs [73,109,112,111,114,116,69,114,114,111,114]), .str (ucs [73,109,112,111,114,116,69,114,114,111,114]) 93, .type "ImportError"⟩, ⟨PyData.keyHash P (ucs [76,111,111,107,117,112,69,114,114,111,114]), .str (ucs [76,111,111,107,117,112,69,114,114,111,114]) 94, .type "LookupError"⟩, ⟨PyData.keyHash P (ucs [77,101,109,111,114,121,69,114,114,111,114]), .str (ucs [77,101,109,111,114,121,69,114,114,111,114]) 95, .type "MemoryError"⟩, ⟨PyData.keyHash P (ucs [78,97,109,101,69,114,114,111,114]), .str (ucs [78,97,109,101,69,114,114,111,114]) 96, .type "NameError"⟩, ⟨PyData.keyHash P (ucs [79,83,69,114,114,111,114]), .str (ucs [79,83,69,114,114,111,114]) 97, .type "OSError"⟩, ⟨PyData.keyHash P (ucs [82,101,102,101,114,101,110,99,101,69,114,114,111,114]), .str (ucs [82,101,102,101,114,101,110,99,101,69,114,114,111,114]) 98, .type "ReferenceError"⟩, ⟨PyData.keyHash P (ucs [82,117,110,116,105,109,101,69,114,114,111,114]), .str (ucs [82,117,110,116,105,109,101,69,114,114,111,114]) 99, .type "RuntimeError"⟩, ⟨PyData.keyHash P (ucs [83,116,111,112,65,115,121,110,99,73,116,101,114,97,116,105,111,110]), .str (ucs [83,116,111,112,65,115,121,110,99,73,116,101,114,97,116,105,111,110]) 100, .type "StopAsyncIteration"⟩, ⟨PyData.keyHash P (ucs [83,116,111,112,73,116,101,114,97,116,105,111,110]), .str (ucs [83,116,111,112,73,116,101,114,97,116,105,111,110]) 101, .type "StopIteration"⟩, ⟨PyData.keyHash P (ucs [83,121,110,116,97,120,69,114,114,111,114]), .str (ucs [83,121,110,116,97,120,69,114,114,111,114]) 102, .type "SyntaxError"⟩, ⟨PyData.keyHash P (ucs [83,121,115,116,101,109,69,114,114,111,114]), .str (ucs [83,121,115,116,101,109,69,114,114,111,114]) 103, .type "SystemError"⟩, ⟨PyData.keyHash P (ucs [84,121,112,101,69,114,114,111,114]), .str (ucs [84,121,112,101,69,114,114,111,114]) 104, .type "TypeError"⟩, ⟨PyData.keyHash P (ucs [86,97,108,117,101,69,114,114,111,114]), .str (ucs [86,97,108,117,101,69,114,114,111,114]) 105, .type "ValueError"⟩, ⟨PyData.keyHash P (ucs [87,97,114,110,105,110,103]), .str (ucs [87,97,114,110,105,110,103]) 106, .type "Warning"⟩, ⟨PyData.keyHash P (ucs [70,108,111,97,116,105,110,103,80,111,105,110,116,69,114,114,111,114]), .str (ucs [70,108,111,97,116,105,110,103,80,111,105,110,116,69,114,114,111,114]) 107, .type "FloatingPointError"⟩, ⟨PyData.keyHash P (ucs [79,118,101,114,102,108,111,119,69,114,114,111,114]), .str (ucs [79,118,101,114,102,108,111,119,69,114,114,111,114]) 108, .type "OverflowError"⟩, ⟨PyData.keyHash P (ucs [90,101,114,111,68,105,118,105,115,105,111,110,69,114,114,111,114]), .str (ucs [90,101,114,111,68,105,118,105,115,105,111,110,69,114,114,111,114]) 109, .type "ZeroDivisionError"⟩, ⟨PyData.keyHash P (ucs [66,121,116,101,115,87,97,114,110,105,110,103]), .str (ucs [66,121,116,101,115,87,97,114,110,105,110,103]) 110, .type "BytesWarning"⟩, ⟨PyData.keyHash P (ucs [68,101,112,114,101,99,97,116,105,111,110,87,97,114,110,105,110,103]), .str (ucs [68,101,112,114,101,99,97,116,105,111,110,87,97,114,110,105,110,103]) 111, .type "DeprecationWarning"⟩, ⟨PyData.keyHash P (ucs [69,110,99,111,100,105,110,103,87,97,114,110,105,110,103]), .str (ucs [69,110,99,111,100,105,110,103,87,97,114,110,105,110,103]) 112, .type "EncodingWarning"⟩, ⟨PyData.keyHash P (ucs [70,117,116,117,114,101,87,97,114,110,105,110,103]), .str (ucs [70,117,116,117,114,101,87,97,114,110,105,110,103]) 113, .type "FutureWarning"⟩, ⟨PyData.keyHash P (ucs [73,109,112,111,114,116,87,97,114,110,105,110,103]), .str (ucs [73,109,112,111,114,116,87,97,114,110,105,110,103]) 114, .type "ImportWarning"⟩, ⟨PyData.keyHash P (ucs [80,101,110,100,105,110,103,68,101,112,114,101,99,97,116,105,111,110,87,97,114,110,105,110,103]), .str (ucs [80,101,110,100,105,110,103,68,101,112,114,101,99,97,116,105,111,110,87,97,114,110,105,110,103]) 115, .type "PendingDeprecationWarning"⟩, ⟨PyData.keyHash P (ucs [82,101,115,111,117,114,99,101,87,97,114,110,105,110,103]), .str (ucs [82,101,115,111,117,114,99,101,87,97,114,110,105,110,103]) 116, .type "ResourceWarning"⟩, ⟨PyData.keyHash P (ucs [82,117,110,116,105,109,101,87,97,114,110,105,110,103]), .str (ucs [82,117,110,116,105,109,101,87,97,114,110,105,110,103]) 117, .type "RuntimeWarning"⟩, ⟨PyData.keyHash P (ucs [83,121,110,116,97,120,87,97,114,110,105,110,103]), .str (ucs [83,121,110,116,97,120,87,97,114,110,105,110,103]) 118, .type "SyntaxWarning"⟩, ⟨PyData.keyHash P (ucs [85,110,105,99,111,100,101,87,97,114,110,105,110,103]), .str (ucs [85,110,105,99,111,100,101,87,97,114,110,105,110,103]) 119, .type "UnicodeWarning"⟩, ⟨PyData.keyHash P (ucs [85,115,101,114,87,97,114,110,105,110,103]), .str (ucs [85,115,101,114,87,97,114,110,105,110,103]) 120, .type "UserWarning"⟩, ⟨PyData.keyHash P (ucs [66,108,111,99,107,105,110,103,73,79,69,114,114,111,114]), .str (ucs [66,108,111,99,107,105,110,103,73,79,69,114,114,111,114]) 121, .type "BlockingIOError"⟩, ⟨PyData.keyHash P (ucs [67,104,105,108,100,80,114,111,99,101,115,115,69,114,114,111,114]), .str (ucs [67,104,105,108,100,80,114,111,99,101,115,115,69,114,114,111,114]) 122, .type "ChildProcessError"⟩, ⟨PyData.keyHash P (ucs [67,111,110,110,101,99,116,105,111,110,69,114,114,111,114]), .str (ucs [67,111,110,110,101,99,116,105,111,110,69,114,114,111,114]) 123, .type "ConnectionError"⟩, ⟨PyData.keyHash P (ucs [70,105,108,101,69,120,105,115,116,115,69,114,114,111,114]), .str (ucs [70,105,108,101,69,120,105,115,116,115,69,114,114,111,114]) 124, .type "FileExistsError"⟩, ⟨PyData.keyHash P (ucs [70,105,108,101,78,111,116,70,111,117,110,100,69,114,114,111,114]), .str (ucs [70,105,108,101,78,111,116,70,111,117,110,100,69,114,114,111,114]) 125, .type "FileNotFoundError"⟩, ⟨PyData.keyHash P (ucs [73,110,116,101,114,114,117,112,116,101,100,69,114,114,111,114]), .str (ucs [73,110,116,101,114,114,117,112,116,101,100,69,114,114,111,114]) 126, .type "InterruptedError"⟩, ⟨PyData.keyHash P (ucs [73,115,65,68,105,114,101,99,116,111,114,121,69,114,114,111,114]), .str (ucs [73,115,65,68,105,114,101,99,116,111,114,121,69,114,114,111,114]) 127, .type "IsADirectoryError"⟩, ⟨PyData.keyHash P (ucs [78,111,116,65,68,105,114,101,99,116,111,114,121,69,114,114,111,114]), .str (ucs [78,111,116,65,68,105,114,101,99,116,111,114,121,69,114,114,111,114]) 128, .type "NotADirectoryError"⟩, ⟨PyData.keyHash P (ucs [80,101,114,109,105,115,115,105,111,110,69,114,114,111,114]), .str (ucs [80,101,114,109,105,115,115,105,111,110,69,114,114,111,114]) 129, .type "PermissionError"⟩, ⟨PyData.keyHash P (ucs [80,114,111,99,101,115,115,76,111,111,107,117,112,69,114,114,111,114]), .str (ucs [80,114,111,99,101,115,115,76,111,111,107,117,112,69,114,114,111,114]) 130, .type "ProcessLookupError"⟩, ⟨PyData.keyHash P (ucs [84,105,109,101,111,117,116,69,114,114,111,114]), .str (ucs [84,105,109,101,111,117,116,69,114,114,111,114]) 131, .type "TimeoutError"⟩, ⟨PyData.keyHash P (ucs [73,110,100,101,110,116,97,116,105,111,110,69,114,114,111,114]), .str (ucs [73,110,100,101,110,116,97,116,105,111,110,69,114,114,111,114]) 132, .type "IndentationError"⟩, ⟨PyData.keyHash P (ucs [95,73,110,99,111,109,112,108,101,116,101,73,110,112,117,116,69,114,114,111,114]), .str (ucs [95,73,110,99,111,109,112,108,101,116,101,73,110,112,117,116,69,114,114,111,114]) 133, .type "_IncompleteInputError"⟩, ⟨PyData.keyHash P (ucs [73,110,100,101,120,69,114,114,111,114]), .str (ucs [73,110,100,101,120,69,114,114,111,114]) 134, .type "IndexError"⟩, ⟨PyData.keyHash P (ucs [75,101,121,69,114,114,111,114]), .str (ucs [75,101,121,69,114,114,111,114]) 135, .type "KeyError"⟩, ⟨PyData.keyHash P (ucs [77,111,100,117,108,101,78,111,116,70,111,117,110,100,69,114,114,111,114]), .str (ucs [77,111,100,117,108,101,78,111,116,70,111,117,110,100,69,114,114,111,114]) 136, .type "ModuleNotFoundError"⟩, ⟨PyData.keyHash P (ucs [78,111,116,73,109,112,108,101,109,101,110,116,101,100,69,114,114,111,114]), .str (ucs [78,111,116,73,109,112,108,101,109,101,110,116,101,100,69,114,114,111,114]) 137, .type "NotImplementedError"⟩, ⟨PyData.keyHash P (ucs [80,121,116,104,111,110,70,105,110,97,108,105,122,97,116,105,111,110,69,114,114,111,114]), .str (ucs [80,121,116,104,111,110,70,105,110,97,108,105,122,97,116,105,111,110,69,114,114,111,114]) 138, .type "PythonFinalizationError"⟩, ⟨PyData.keyHash P (ucs [82,101,99,117,114,115,105,111,110,69,114,114,111,114]), .str (ucs [82,101,99,117,114,115,105,111,110,69,114,114,111,114]) 139, .type "RecursionError"⟩, ⟨PyData.keyHash P (ucs [85,110,98,111,117,110,100,76,111,99,97,108,69,114,114,111,114]), .str (ucs [85,110,98,111,117,110,100,76,111,99,97,108,69,114,114,111,114]) 140, .type "UnboundLocalError"⟩, ⟨PyData.keyHash P (ucs [85,110,105,99,111,100,101,69,114,114,111,114]), .str (ucs [85,110,105,99,111,100,101,69,114,114,111,114]) 141, .type "UnicodeError"⟩, ⟨PyData.keyHash P (ucs [66,114,111,107,101,110,80,105,112,101,69,114,114,111,114]), .str (ucs [66,114,111,107,101,110,80,105,112,101,69,114,114,111,114]) 142, .type "BrokenPipeError"⟩, ⟨PyData.keyHash P (ucs [67,111,110,110,101,99,116,105,111,110,65,98,111,114,116,101,100,69,114,114,111,114]), .str (ucs [67,111,110,110,101,99,116,105,111,110,65,98,111,114,116,101,100,69,114,114,111,114]) 143, .type "ConnectionAbortedError"⟩, ⟨PyData.keyHash P (ucs [67,111,110,110,101,99,116,105,111,110,82,101,102,117,115,101,100,69,114,114,111,114]), .str (ucs [67,111,110,110,101,99,116,105,111,110,82,101,102,117,115,101,100,69,114,114,111,114]) 144, .type "ConnectionRefusedError"⟩, ⟨PyData.keyHash P (ucs [67,111,110,110,101,99,116,105,111,110,82,101,115,101,116,69,114,114,111,114]), .str (ucs [67,111,110,110,101,99,116,105,111,110,82,101,115,101,116,69,114,114,111,114]) 145, .type "ConnectionResetError"⟩, ⟨PyData.keyHash P (ucs [84,97,98,69,114,114,111,114]), .str (ucs [84,97,98,69,114,114,111,114]) 146, .type "TabError"⟩, ⟨PyData.keyHash P (ucs [85,110,105,99,111,100,101,68,101,99,111,100,101,69,114,114,111,114]), .str (ucs [85,110,105,99,111,100,101,68,101,99,111,100,101,69,114,114,111,114]) 147, .type "UnicodeDecodeError"⟩, ⟨PyData.keyHash P (ucs [85,110,105,99,111,100,101,69,110,99,111,100,101,69,114,114,111,114]), .str (ucs [85,110,105,99,111,100,101,69,110,99,111,100,101,69,114,114,111,114]) 148, .type "UnicodeEncodeError"⟩, ⟨PyData.keyHash P (ucs [85,110,105,99,111,100,101,84,114,97,110,115,108,97,116,101,69,114,114,111,114]), .str (ucs [85,110,105,99,111,100,101,84,114,97,110,115,108,97,116,101,69,114,114,111,114]) 149, .type "UnicodeTranslateError"⟩, ⟨PyData.keyHash P (ucs [69,120,99,101,112,116,105,111,110,71,114,111,117,112]), .str (ucs [69,120,99,101,112,116,105,111,110,71,114,111,117,112]) 150, .type "ExceptionGroup"⟩, ⟨PyData.keyHash P (ucs [69,110,118,105,114,111,110,109,101,110,116,69,114,114,111,114]), .str (ucs [69,110,118,105,114,111,110,109,101,110,116,69,114,114,111,114]) 151, .type "OSError"⟩, ⟨PyData.keyHash P (ucs [73,79,69,114,114,111,114]), .str (ucs [73,79,69,114,114,111,114]) 152, .type "OSError"⟩, ⟨PyData.keyHash P (ucs [111,112,101,110]), .str (ucs [111,112,101,110]) 153, .builtin "open"⟩, ⟨PyData.keyHash P (ucs [113,117,105,116]), .str (ucs [113,117,105,116]) 154, .builtin "builtins.quit#opaque"⟩, ⟨PyData.keyHash P (ucs [101,120,105,116]), .str (ucs [101,120,105,116]) 155, .builtin "builtins.exit#opaque"⟩, ⟨PyData.keyHash P (ucs [99,111,112,121,114,105,103,104,116]), .str (ucs [99,111,112,121,114,105,103,104,116]) 156, .builtin "builtins.copyright#opaque"⟩, ⟨PyData.keyHash P (ucs [99,114,101,100,105,116,115]), .str (ucs [99,114,101,100,105,116,115]) 157, .builtin "builtins.credits#opaque"⟩, ⟨PyData.keyHash P (ucs [108,105,99,101,110,115,101]), .str (ucs [108,105,99,101,110,115,101]) 158, .builtin "builtins.license#opaque"⟩, ⟨PyData.keyHash P (ucs [104,101,108,112]), .str (ucs [104,101,108,112]) 159, .builtin "builtins.help#opaque"⟩] 159), #[]⟩,
  ⟨.type "dict", none, (.dict #[⟨PyData.keyHash P (ucs [98,117,105,108,116,105,110,115]), .str (ucs [98,117,105,108,116,105,110,115]) 162, .ref 4⟩, ⟨PyData.keyHash P (ucs [95,95,109,97,105,110,95,95]), .str (ucs [95,95,109,97,105,110,95,95]) 163, .ref 5⟩, ⟨PyData.keyHash P (ucs [95,111,112,101,114,97,116,111,114]), .str (ucs [95,111,112,101,114,97,116,111,114]) 250, .ref 13⟩] 3), #[]⟩,
  ⟨.none, none, (.dict #[⟨PyData.keyHash P (ucs [105,109,112,111,114,116,46,108,111,97,100,101,100,46,95,111,112,101,114,97,116,111,114]), .str (ucs [105,109,112,111,114,116,46,108,111,97,100,101,100,46,95,111,112,101,114,97,116,111,114]) 189, .bool true⟩, ⟨PyData.keyHash P (ucs [99,108,97,115,115,46,95,102,114,111,122,101,110,95,105,109,112,111,114,116,108,105,98,46,66,117,105,108,116,105,110,73,109,112,111,114,116,101,114]), .str (ucs [99,108,97,115,115,46,95,102,114,111,122,101,110,95,105,109,112,111,114,116,108,105,98,46,66,117,105,108,116,105,110,73,109,112,111,114,116,101,114]) 191, .ref 15⟩, ⟨PyData.keyHash P (ucs [119,97,116,99,104,101,100,46,105,109,112,111,114,116]), .str (ucs [119,97,116,99,104,101,100,46,105,109,112,111,114,116]) 212, .ref 19⟩, ⟨PyData.keyHash P (ucs [99,108,97,115,115,46,95,102,114,111,122,101,110,95,105,109,112,111,114,116,108,105,98,46,77,111,100,117,108,101,83,112,101,99]), .str (ucs [99,108,97,115,115,46,95,102,114,111,122,101,110,95,105,109,112,111,114,116,108,105,98,46,77,111,100,117,108,101,83,112,101,99]) 222, .ref 23⟩, ⟨PyData.keyHash P (ucs [115,121,115,46,109,111,100,117,108,101,115,46,98,111,111,107,101,100,45,101,112,111,99,104]), .str (ucs [115,121,115,46,109,111,100,117,108,101,115,46,98,111,111,107,101,100,45,101,112,111,99,104]) 251, .int (3) 0⟩, ⟨PyData.keyHash P (ucs [115,121,115,46,109,111,100,117,108,101,115,46,108,97,110,100,101,100,46,95,111,112,101,114,97,116,111,114]), .str (ucs [115,121,115,46,109,111,100,117,108,101,115,46,108,97,110,100,101,100,46,95,111,112,101,114,97,116,111,114]) 252, .bool true⟩, ⟨PyData.keyHash P (ucs [105,109,112,111,114,116,46,108,97,116,101,114,45,108,97,105,100,46,95,111,112,101,114,97,116,111,114]), .str (ucs [105,109,112,111,114,116,46,108,97,116,101,114,45,108,97,105,100,46,95,111,112,101,114,97,116,111,114]) 316, .bool true⟩, ⟨PyData.keyHash P (ucs [119,97,116,99,104,101,100,46,108,105,98,114,97,114,121]), .str (ucs [119,97,116,99,104,101,100,46,108,105,98,114,97,114,121]) 318, .ref 28⟩, ⟨PyData.keyHash P (ucs [119,97,116,99,104,101,100,46,108,105,98,114,97,114,121,45,111,98,106,101,99,116,115]), .str (ucs [119,97,116,99,104,101,100,46,108,105,98,114,97,114,121,45,111,98,106,101,99,116,115]) 0, .str (ucs [13]) 0⟩, ⟨PyData.keyHash P (ucs [119,97,116,99,104,101,100,46,108,105,98,114,97,114,121,45,100,101,101,112,46,95,111,112,101,114,97,116,111,114]), .str (ucs [119,97,116,99,104,101,100,46,108,105,98,114,97,114,121,45,100,101,101,112,46,95,111,112,101,114,97,116,111,114]) 319, .str (ucs [4,0,0,12,4,0,0,12,4,0,0,3,4,0,0,12,8,4,100,105,99,116,2]) 0⟩] 10), #[]⟩,
  ⟨.type "dict", none, (.dict #[⟨PyData.keyHash P (ucs [95,95,110,97,109,101,95,95]), .str (ucs [95,95,110,97,109,101,95,95]) 165, .str (ucs [95,95,109,97,105,110,95,95]) 164⟩, ⟨PyData.keyHash P (ucs [95,95,100,111,99,95,95]), .str (ucs [95,95,100,111,99,95,95]) 166, .none⟩, ⟨PyData.keyHash P (ucs [95,95,112,97,99,107,97,103,101,95,95]), .str (ucs [95,95,112,97,99,107,97,103,101,95,95]) 167, .none⟩, ⟨PyData.keyHash P (ucs [95,95,108,111,97,100,101,114,95,95]), .str (ucs [95,95,108,111,97,100,101,114,95,95]) 168, .builtin "__main__.__loader__#opaque"⟩, ⟨PyData.keyHash P (ucs [95,95,115,112,101,99,95,95]), .str (ucs [95,95,115,112,101,99,95,95]) 169, .none⟩, ⟨PyData.keyHash P (ucs [95,95,97,110,110,111,116,97,116,105,111,110,115,95,95]), .str (ucs [95,95,97,110,110,111,116,97,116,105,111,110,115,95,95]) 170, .ref 6⟩, ⟨PyData.keyHash P (ucs [95,95,98,117,105,108,116,105,110,115,95,95]), .str (ucs [95,95,98,117,105,108,116,105,110,115,95,95]) 171, .ref 4⟩, ⟨PyData.keyHash P (ucs [95,95,102,105,108,101,95,95]), .str (ucs [95,95,102,105,108,101,95,95]) 173, .str (ucs [47,99,108,97,105,109,47,99,117,116,46,112,121]) 172⟩, ⟨PyData.keyHash P (ucs [95,95,99,97,99,104,101,100,95,95]), .str (ucs [95,95,99,97,99,104,101,100,95,95]) 174, .none⟩, ⟨PyData.keyHash P (ucs [101,113]), .str (ucs [101,113]) 325, .builtin "_operator.eq"⟩, ⟨PyData.keyHash P (ucs [103,101]), .str (ucs [103,101]) 328, .builtin "_operator.ge"⟩, ⟨PyData.keyHash P (ucs [103,116]), .str (ucs [103,116]) 331, .builtin "_operator.gt"⟩, ⟨PyData.keyHash P (ucs [108,101]), .str (ucs [108,101]) 334, .builtin "_operator.le"⟩, ⟨PyData.keyHash P (ucs [108,116]), .str (ucs [108,116]) 337, .builtin "_operator.lt"⟩] 14), #[]⟩,
  ⟨.type "module", (some 0), .plain, #[]⟩,
  ⟨.type "module", (some 3), .plain, #[]⟩,
  ⟨.type "dict", none, (.dict #[] 0), #[]⟩,
  ⟨.type "tuple", none, (.seq #[] 0), #[]⟩,
  ⟨.none, none, (.fields #[]), #[]⟩,
  ⟨.type "code", none, (.fields #[.str (ucs [60,109,111,100,117,108,101,62]) 176, .str (ucs [60,109,111,100,117,108,101,62]) 177, .str (ucs [47,99,108,97,105,109,47,99,117,116,46,112,121]) 178, .int (1) 0, .int (0) 0, .int (0) 0, .int (0) 0, .int (0) 0, .ref 7, .bool false, .int (175) 0, .ref 8, .none, .none, .none, .none, .int (179) 0, .int (1) 0, .str (ucs [47,99,108,97,105,109,47,99,117,116,46,112,121]) 180]), #[]⟩,
  ⟨.type "frame", none, .plain, #[(some (.ref 9)), (some (.ref 3)), (some (.ref 3)), none, (some (.str (ucs [95,95,109,97,105,110,95,95]) 164)), none, (some (.ref 0))]⟩,
  ⟨.type "tuple", none, (.seq #[.str (ucs [101,113]) 182, .str (ucs [103,101]) 183, .str (ucs [103,116]) 184, .str (ucs [108,101]) 185, .str (ucs [108,116]) 186] 0), #[]⟩,
  ⟨.type "dict", none, (.dict #[⟨PyData.keyHash P (ucs [95,95,110,97,109,101,95,95]), .str (ucs [95,95,110,97,109,101,95,95]) 254, .str (ucs [95,111,112,101,114,97,116,111,114]) 253⟩, ⟨PyData.keyHash P (ucs [95,95,100,111,99,95,95]), .str (ucs [95,95,100,111,99,95,95]) 255, .builtin "off-the-table:_operator.__doc__:shared#opaque"⟩, ⟨PyData.keyHash P (ucs [95,95,112,97,99,107,97,103,101,95,95]), .str (ucs [95,95,112,97,99,107,97,103,101,95,95]) 257, .str (ucs []) 256⟩, ⟨PyData.keyHash P (ucs [95,95,108,111,97,100,101,114,95,95]), .str (ucs [95,95,108,111,97,100,101,114,95,95]) 258, .builtin "off-the-table:_operator.__loader__:shared#opaque"⟩, ⟨PyData.keyHash P (ucs [95,95,115,112,101,99,95,95]), .str (ucs [95,95,115,112,101,99,95,95]) 259, .builtin "off-the-table:_operator.__spec__:shared#opaque"⟩, ⟨PyData.keyHash P (ucs [116,114,117,116,104]), .str (ucs [116,114,117,116,104]) 260, .builtin "_operator.truth"⟩, ⟨PyData.keyHash P (ucs [99,111,110,116,97,105,110,115]), .str (ucs [99,111,110,116,97,105,110,115]) 261, .builtin "_operator.contains"⟩, ⟨PyData.keyHash P (ucs [105,110,100,101,120,79,102]), .str (ucs [105,110,100,101,120,79,102]) 262, .builtin "_operator.indexOf"⟩, ⟨PyData.keyHash P (ucs [99,111,117,110,116,79,102]), .str (ucs [99,111,117,110,116,79,102]) 263, .builtin "_operator.countOf"⟩, ⟨PyData.keyHash P (ucs [105,115,95]), .str (ucs [105,115,95]) 264, .builtin "_operator.is_"⟩, ⟨PyData.keyHash P (ucs [105,115,95,110,111,116]), .str (ucs [105,115,95,110,111,116]) 265, .builtin "_operator.is_not"⟩, ⟨PyData.keyHash P (ucs [105,110,100,101,120]), .str (ucs [105,110,100,101,120]) 266, .builtin "_operator.index"⟩, ⟨PyData.keyHash P (ucs [97,100,100]), .str (ucs [97,100,100]) 267, .builtin "_operator.add"⟩, ⟨PyData.keyHash P (ucs [115,117,98]), .str (ucs [115,117,98]) 268, .builtin "_operator.sub"⟩, ⟨PyData.keyHash P (ucs [109,117,108]), .str (ucs [109,117,108]) 269, .builtin "_operator.mul"⟩, ⟨PyData.keyHash P (ucs [109,97,116,109,117,108]), .str (ucs [109,97,116,109,117,108]) 270, .builtin "_operator.matmul"⟩, ⟨PyData.keyHash P (ucs [102,108,111,111,114,100,105,118]), .str (ucs [102,108,111,111,114,100,105,118]) 271, .builtin "_operator.floordiv"⟩, ⟨PyData.keyHash P (ucs [116,114,117,101,100,105,118]), .str (ucs [116,114,117,101,100,105,118]) 272, .builtin "_operator.truediv"⟩, ⟨PyData.keyHash P (ucs [109,111,100]), .str (ucs [109,111,100]) 273, .builtin "_operator.mod"⟩, ⟨PyData.keyHash P (ucs [110,101,103]), .str (ucs [110,101,103]) 274, .builtin "_operator.neg"⟩, ⟨PyData.keyHash P (ucs [112,111,115]), .str (ucs [112,111,115]) 275, .builtin "_operator.pos"⟩, ⟨PyData.keyHash P (ucs [97,98,115]), .str (ucs [97,98,115]) 276, .builtin "_operator.abs"⟩, ⟨PyData.keyHash P (ucs [105,110,118]), .str (ucs [105,110,118]) 277, .builtin "_operator.inv"⟩, ⟨PyData.keyHash P (ucs [105,110,118,101,114,116]), .str (ucs [105,110,118,101,114,116]) 278, .builtin "_operator.invert"⟩, ⟨PyData.keyHash P (ucs [108,115,104,105,102,116]), .str (ucs [108,115,104,105,102,116]) 279, .builtin "_operator.lshift"⟩, ⟨PyData.keyHash P (ucs [114,115,104,105,102,116]), .str (ucs [114,115,104,105,102,116]) 280, .builtin "_operator.rshift"⟩, ⟨PyData.keyHash P (ucs [110,111,116,95]), .str (ucs [110,111,116,95]) 281, .builtin "_operator.not_"⟩, ⟨PyData.keyHash P (ucs [97,110,100,95]), .str (ucs [97,110,100,95]) 282, .builtin "_operator.and_"⟩, ⟨PyData.keyHash P (ucs [120,111,114]), .str (ucs [120,111,114]) 283, .builtin "_operator.xor"⟩, ⟨PyData.keyHash P (ucs [111,114,95]), .str (ucs [111,114,95]) 284, .builtin "_operator.or_"⟩, ⟨PyData.keyHash P (ucs [105,97,100,100]), .str (ucs [105,97,100,100]) 285, .builtin "_operator.iadd"⟩, ⟨PyData.keyHash P (ucs [105,115,117,98]), .str (ucs [105,115,117,98]) 286, .builtin "_operator.isub"⟩, ⟨PyData.keyHash P (ucs [105,109,117,108]), .str (ucs [105,109,117,108]) 287, .builtin "_operator.imul"⟩, ⟨PyData.keyHash P (ucs [105,109,97,116,109,117,108]), .str (ucs [105,109,97,116,109,117,108]) 288, .builtin "_operator.imatmul"⟩, ⟨PyData.keyHash P (ucs [105,102,108,111,111,114,100,105,118]), .str (ucs [105,102,108,111,111,114,100,105,118]) 289, .builtin "_operator.ifloordiv"⟩, ⟨PyData.keyHash P (ucs [105,116,114,117,101,100,105,118]), .str (ucs [105,116,114,117,101,100,105,118]) 290, .builtin "_operator.itruediv"⟩, ⟨PyData.keyHash P (ucs [105,109,111,100]), .str (ucs [105,109,111,100]) 291, .builtin "_operator.imod"⟩, ⟨PyData.keyHash P (ucs [105,108,115,104,105,102,116]), .str (ucs [105,108,115,104,105,102,116]) 292, .builtin "_operator.ilshift"⟩, ⟨PyData.keyHash P (ucs [105,114,115,104,105,102,116]), .str (ucs [105,114,115,104,105,102,116]) 293, .builtin "_operator.irshift"⟩, ⟨PyData.keyHash P (ucs [105,97,110,100]), .str (ucs [105,97,110,100]) 294, .builtin "_operator.iand"⟩, ⟨PyData.keyHash P (ucs [105,120,111,114]), .str (ucs [105,120,111,114]) 295, .builtin "_operator.ixor"⟩, ⟨PyData.keyHash P (ucs [105,111,114]), .str (ucs [105,111,114]) 296, .builtin "_operator.ior"⟩, ⟨PyData.keyHash P (ucs [99,111,110,99,97,116]), .str (ucs [99,111,110,99,97,116]) 297, .builtin "_operator.concat"⟩, ⟨PyData.keyHash P (ucs [105,99,111,110,99,97,116]), .str (ucs [105,99,111,110,99,97,116]) 298, .builtin "_operator.iconcat"⟩, ⟨PyData.keyHash P (ucs [103,101,116,105,116,101,109]), .str (ucs [103,101,116,105,116,101,109]) 299, .builtin "_operator.getitem"⟩, ⟨PyData.keyHash P (ucs [115,101,116,105,116,101,109]), .str (ucs [115,101,116,105,116,101,109]) 300, .builtin "_operator.setitem"⟩, ⟨PyData.keyHash P (ucs [100,101,108,105,116,101,109]), .str (ucs [100,101,108,105,116,101,109]) 301, .builtin "_operator.delitem"⟩, ⟨PyData.keyHash P (ucs [112,111,119]), .str (ucs [112,111,119]) 302, .builtin "_operator.pow"⟩, ⟨PyData.keyHash P (ucs [105,112,111,119]), .str (ucs [105,112,111,119]) 303, .builtin "_operator.ipow"⟩, ⟨PyData.keyHash P (ucs [101,113]), .str (ucs [101,113]) 304, .builtin "_operator.eq"⟩, ⟨PyData.keyHash P (ucs [110,101]), .str (ucs [110,101]) 305, .builtin "_operator.ne"⟩, ⟨PyData.keyHash P (ucs [108,116]), .str (ucs [108,116]) 306, .builtin "_operator.lt"⟩, ⟨PyData.keyHash P (ucs [108,101]), .str (ucs [108,101]) 307, .builtin "_operator.le"⟩, ⟨PyData.keyHash P (ucs [103,116]), .str (ucs [103,116]) 308, .builtin "_operator.gt"⟩, ⟨PyData.keyHash P (ucs [103,101]), .str (ucs [103,101]) 309, .builtin "_operator.ge"⟩, ⟨PyData.keyHash P (ucs [95,99,111,109,112,97,114,101,95,100,105,103,101,115,116]), .str (ucs [95,99,111,109,112,97,114,101,95,100,105,103,101,115,116]) 310, .builtin "off-the-table:_operator._compare_digest:shared#opaque"⟩, ⟨PyData.keyHash P (ucs [108,101,110,103,116,104,95,104,105,110,116]), .str (ucs [108,101,110,103,116,104,95,104,105,110,116]) 311, .builtin "_operator.length_hint"⟩, ⟨PyData.keyHash P (ucs [99,97,108,108]), .str (ucs [99,97,108,108]) 312, .builtin "_operator.call"⟩, ⟨PyData.keyHash P (ucs [97,116,116,114,103,101,116,116,101,114]), .str (ucs [97,116,116,114,103,101,116,116,101,114]) 313, .builtin "off-the-table:_operator.attrgetter:shared#opaque"⟩, ⟨PyData.keyHash P (ucs [105,116,101,109,103,101,116,116,101,114]), .str (ucs [105,116,101,109,103,101,116,116,101,114]) 314, .type "operator.itemgetter"⟩, ⟨PyData.keyHash P (ucs [109,101,116,104,111,100,99,97,108,108,101,114]), .str (ucs [109,101,116,104,111,100,99,97,108,108,101,114]) 315, .builtin "off-the-table:_operator.methodcaller:shared#opaque"⟩] 61), #[]⟩,
  ⟨.type "module", (some 12), .plain, #[]⟩,
  ⟨.type "dict", none, (.dict #[⟨PyData.keyHash P (ucs [95,95,109,111,100,117,108,101,95,95]), .str (ucs [95,95,109,111,100,117,108,101,95,95]) 195, .str (ucs [95,102,114,111,122,101,110,95,105,109,112,111,114,116,108,105,98]) 192⟩, ⟨PyData.keyHash P (ucs [95,95,102,105,114,115,116,108,105,110,101,110,111,95,95]), .str (ucs [95,95,102,105,114,115,116,108,105,110,101,110,111,95,95]) 196, .int (971) 193⟩, ⟨PyData.keyHash P (ucs [95,95,100,111,99,95,95]), .str (ucs [95,95,100,111,99,95,95]) 197, .builtin "_frozen_importlib.BuiltinImporter.__doc__:str#opaque"⟩, ⟨PyData.keyHash P (ucs [95,79,82,73,71,73,78]), .str (ucs [95,79,82,73,71,73,78]) 198, .str (ucs [98,117,105,108,116,45,105,110]) 194⟩, ⟨PyData.keyHash P (ucs [102,105,110,100,95,115,112,101,99]), .str (ucs [102,105,110,100,95,115,112,101,99]) 199, .builtin "_frozen_importlib.BuiltinImporter.find_spec#opaque"⟩, ⟨PyData.keyHash P (ucs [99,114,101,97,116,101,95,109,111,100,117,108,101]), .str (ucs [99,114,101,97,116,101,95,109,111,100,117,108,101]) 200, .builtin "_frozen_importlib.BuiltinImporter.create_module#opaque"⟩, ⟨PyData.keyHash P (ucs [101,120,101,99,95,109,111,100,117,108,101]), .str (ucs [101,120,101,99,95,109,111,100,117,108,101]) 201, .builtin "_frozen_importlib.BuiltinImporter.exec_module#opaque"⟩, ⟨PyData.keyHash P (ucs [103,101,116,95,99,111,100,101]), .str (ucs [103,101,116,95,99,111,100,101]) 202, .builtin "_frozen_importlib.BuiltinImporter.get_code#opaque"⟩, ⟨PyData.keyHash P (ucs [103,101,116,95,115,111,117,114,99,101]), .str (ucs [103,101,116,95,115,111,117,114,99,101]) 203, .builtin "_frozen_importlib.BuiltinImporter.get_source#opaque"⟩, ⟨PyData.keyHash P (ucs [105,115,95,112,97,99,107,97,103,101]), .str (ucs [105,115,95,112,97,99,107,97,103,101]) 204, .builtin "_frozen_importlib.BuiltinImporter.is_package#opaque"⟩, ⟨PyData.keyHash P (ucs [108,111,97,100,95,109,111,100,117,108,101]), .str (ucs [108,111,97,100,95,109,111,100,117,108,101]) 205, .builtin "_frozen_importlib.BuiltinImporter.load_module#opaque"⟩, ⟨PyData.keyHash P (ucs [95,95,115,116,97,116,105,99,95,97,116,116,114,105,98,117,116,101,115,95,95]), .str (ucs [95,95,115,116,97,116,105,99,95,97,116,116,114,105,98,117,116,101,115,95,95]) 206, .ref 16⟩, ⟨PyData.keyHash P (ucs [95,95,100,105,99,116,95,95]), .str (ucs [95,95,100,105,99,116,95,95]) 208, .ref 17⟩, ⟨PyData.keyHash P (ucs [95,95,119,101,97,107,114,101,102,95,95]), .str (ucs [95,95,119,101,97,107,114,101,102,95,95]) 210, .ref 18⟩] 14), #[]⟩,
  ⟨.type "type", none, (.cls { name := (ucs [66,117,105,108,116,105,110,73,109,112,111,114,116,101,114]), bases := [.type "object"], mro := [.ref 15, .type "object"], ns := 14, qualname := (ucs [66,117,105,108,116,105,110,73,109,112,111,114,116,101,114]), hasDict := true, slotNames := [], subclasses := [], abstract := false, collection := none, hasDel := false }), #[]⟩,
  ⟨.type "tuple", none, (.seq #[] 0), #[]⟩,
  ⟨.type "getset_descriptor", none, (.fields #[.str (ucs [95,95,100,105,99,116,95,95]) 207, .ref 15, .builtin "function.__dict__", .builtin "function.__dict__#set"]), #[]⟩,
  ⟨.type "getset_descriptor", none, (.fields #[.str (ucs [95,95,119,101,97,107,114,101,102,95,95]) 209, .ref 15, .builtin "ExceptionGroup.__weakref__", .none]), #[]⟩,
  ⟨.none, none, (.seq #[.int (14) 0, .str (ucs [6,195,10,95,95,109,111,100,117,108,101,95,95,6,192,17,95,102,114,111,122,101,110,95,105,109,112,111,114,116,108,105,98,6,196,15,95,95,102,105,114,115,116,108,105,110,101,110,111,95,95,4,193,0,971,6,197,7,95,95,100,111,99,95,95,9,52,95,102,114,111,122,101,110,95,105,109,112,111,114,116,108,105,98,46,66,117,105,108,116,105,110,73,109,112,111,114,116,101,114,46,95,95,100,111,99,95,95,58,115,116,114,35,111,112,97,113,117,101,6,198,7,95,79,82,73,71,73,78,6,194,8,98,117,105,108,116,45,105,110,6,199,9,102,105,110,100,95,115,112,101,99,9,50,95,102,114,111,122,101,110,95,105,109,112,111,114,116,108,105,98,46,66,117,105,108,116,105,110,73,109,112,111,114,116,101,114,46,102,105,110,100,95,115,112,101,99,35,111,112,97,113,117,101,6,200,13,99,114,101,97,116,101,95,109,111,100,117,108,101,9,54,95,102,114,111,122,101,110,95,105,109,112,111,114,116,108,105,98,46,66,117,105,108,116,105,110,73,109,112,111,114,116,101,114,46,99,114,101,97,116,101,95,109,111,100,117,108,101,35,111,112,97,113,117,101,6,201,11,101,120,101,99,95,109,111,100,117,108,101,9,52,95,102,114,111,122,101,110,95,105,109,112,111,114,116,108,105,98,46,66,117,105,108,116,105,110,73,109,112,111,114,116,101,114,46,101,120,101,99,95,109,111,100,117,108,101,35,111,112,97,113,117,101,6,202,8,103,101,116,95,99,111,100,101,9,49,95,102,114,111,122,101,110,95,105,109,112,111,114,116,108,105,98,46,66,117,105,108,116,105,110,73,109,112,111,114,116,101,114,46,103,101,116,95,99,111,100,101,35,111,112,97,113,117,101,6,203,10,103,101,116,95,115,111,117,114,99,101,9,51,95,102,114,111,122,101,110,95,105,109,112,111,114,116,108,105,98,46,66,117,105,108,116,105,110,73,109,112,111,114,116,101,114,46,103,101,116,95,115,111,117,114,99,101,35,111,112,97,113,117,101,6,204,10,105,115,95,112,97,99,107,97,103,101,9,51,95,102,114,111,122,101,110,95,105,109,112,111,114,116,108,105,98,46,66,117,105,108,116,105,110,73,109,112,111,114,116,101,114,46,105,115,95,112,97,99,107,97,103,101,35,111,112,97,113,117,101,6,205,11,108,111,97,100,95,109,111,100,117,108,101,9,52,95,102,114,111,122,101,110,95,105,109,112,111,114,116,108,105,98,46,66,117,105,108,116,105,110,73,109,112,111,114,116,101,114,46,108,111,97,100,95,109,111,100,117,108,101,35,111,112,97,113,117,101,6,206,21,95,95,115,116,97,116,105,99,95,97,116,116,114,105,98,117,116,101,115,95,95,4,0,0,16,6,208,8,95,95,100,105,99,116,95,95,4,0,0,17,6,210,11,95,95,119,101,97,107,114,101,102,95,95,4,0,0,18]) 0, .bool true, .bool true, .str (ucs []) 211, .int (22) 0, .str (ucs [6,233,10,95,95,109,111,100,117,108,101,95,95,6,223,17,95,102,114,111,122,101,110,95,105,109,112,111,114,116,108,105,98,6,234,15,95,95,102,105,114,115,116,108,105,110,101,110,111,95,95,4,224,0,562,6,235,7,95,95,100,111,99,95,95,9,47,95,102,114,111,122,101,110,95,105,109,112,111,114,116,108,105,98,46,77,111,100,117,108,101,83,112,101,99,46,95,95,100,111,99,95,95,58,115,116,114,35,111,112,97,113,117,101,6,236,8,95,95,105,110,105,116,95,95,9,44,95,102,114,111,122,101,110,95,105,109,112,111,114,116,108,105,98,46,77,111,100,117,108,101,83,112,101,99,46,95,95,105,110,105,116,95,95,35,111,112,97,113,117,101,6,237,8,95,95,114,101,112,114,95,95,9,44,95,102,114,111,122,101,110,95,105,109,112,111,114,116,108,105,98,46,77,111,100,117,108,101,83,112,101,99,46,95,95,114,101,112,114,95,95,35,111,112,97,113,117,101,6,238,6,95,95,101,113,95,95,9,42,95,102,114,111,122,101,110,95,105,109,112,111,114,116,108,105,98,46,77,111,100,117,108,101,83,112,101,99,46,95,95,101,113,95,95,35,111,112,97,113,117,101,6,239,6,99,97,99,104,101,100,9,42,95,102,114,111,122,101,110,95,105,109,112,111,114,116,108,105,98,46,77,111,100,117,108,101,83,112,101,99,46,99,97,99,104,101,100,35,111,112,97,113,117,101,6,240,6,112,97,114,101,110,116,9,42,95,102,114,111,122,101,110,95,105,109,112,111,114,116,108,105,98,46,77,111,100,117,108,101,83,112,101,99,46,112,97,114,101,110,116,35,111,112,97,113,117,101,6,241,12,104,97,115,95,108,111,99,97,116,105,111,110,9,48,95,102,114,111,122,101,110,95,105,109,112,111,114,116,108,105,98,46,77,111,100,117,108,101,83,112,101,99,46,104,97,115,95,108,111,99,97,116,105,111,110,35,111,112,97,113,117,101,6,242,21,95,95,115,116,97,116,105,99,95,97,116,116,114,105,98,117,116,101,115,95,95,4,0,0,24,6,244,8,95,95,100,105,99,116,95,95,4,0,0,25,6,246,11,95,95,119,101,97,107,114,101,102,95,95,4,0,0,26,6,247,8,95,95,104,97,115,104,95,95,0]) 0, .bool true, .bool true, .str (ucs []) 248] 1), #[]⟩,
  ⟨.type "list", none, (.seq #[] 0), #[]⟩,
  ⟨.type "dict", none, (.dict #[⟨PyData.keyHash P (ucs [110,97,109,101]), .str (ucs [110,97,109,101]) 214, .str (ucs [95,111,112,101,114,97,116,111,114]) 213⟩, ⟨PyData.keyHash P (ucs [108,111,97,100,101,114]), .str (ucs [108,111,97,100,101,114]) 215, .ref 15⟩, ⟨PyData.keyHash P (ucs [111,114,105,103,105,110]), .str (ucs [111,114,105,103,105,110]) 216, .str (ucs [98,117,105,108,116,45,105,110]) 190⟩, ⟨PyData.keyHash P (ucs [108,111,97,100,101,114,95,115,116,97,116,101]), .str (ucs [108,111,97,100,101,114,95,115,116,97,116,101]) 217, .none⟩, ⟨PyData.keyHash P (ucs [115,117,98,109,111,100,117,108,101,95,115,101,97,114,99,104,95,108,111,99,97,116,105,111,110,115]), .str (ucs [115,117,98,109,111,100,117,108,101,95,115,101,97,114,99,104,95,108,111,99,97,116,105,111,110,115]) 218, .none⟩, ⟨PyData.keyHash P (ucs [95,117,110,105,110,105,116,105,97,108,105,122,101,100,95,115,117,98,109,111,100,117,108,101,115]), .str (ucs [95,117,110,105,110,105,116,105,97,108,105,122,101,100,95,115,117,98,109,111,100,117,108,101,115]) 219, .ref 20⟩, ⟨PyData.keyHash P (ucs [95,115,101,116,95,102,105,108,101,97,116,116,114]), .str (ucs [95,115,101,116,95,102,105,108,101,97,116,116,114]) 220, .bool false⟩, ⟨PyData.keyHash P (ucs [95,99,97,99,104,101,100]), .str (ucs [95,99,97,99,104,101,100]) 221, .none⟩, ⟨PyData.keyHash P (ucs [95,105,110,105,116,105,97,108,105,122,105,110,103]), .str (ucs [95,105,110,105,116,105,97,108,105,122,105,110,103]) 249, .bool false⟩] 9), #[]⟩,
  ⟨.type "dict", none, (.dict #[⟨PyData.keyHash P (ucs [95,95,109,111,100,117,108,101,95,95]), .str (ucs [95,95,109,111,100,117,108,101,95,95]) 233, .str (ucs [95,102,114,111,122,101,110,95,105,109,112,111,114,116,108,105,98]) 223⟩, ⟨PyData.keyHash P (ucs [95,95,102,105,114,115,116,108,105,110,101,110,111,95,95]), .str (ucs [95,95,102,105,114,115,116,108,105,110,101,110,111,95,95]) 234, .int (562) 224⟩, ⟨PyData.keyHash P (ucs [95,95,100,111,99,95,95]), .str (ucs [95,95,100,111,99,95,95]) 235, .builtin "_frozen_importlib.ModuleSpec.__doc__:str#opaque"⟩, ⟨PyData.keyHash P (ucs [95,95,105,110,105,116,95,95]), .str (ucs [95,95,105,110,105,116,95,95]) 236, .builtin "_frozen_importlib.ModuleSpec.__init__#opaque"⟩, ⟨PyData.keyHash P (ucs [95,95,114,101,112,114,95,95]), .str (ucs [95,95,114,101,112,114,95,95]) 237, .builtin "_frozen_importlib.ModuleSpec.__repr__#opaque"⟩, ⟨PyData.keyHash P (ucs [95,95,101,113,95,95]), .str (ucs [95,95,101,113,95,95]) 238, .builtin "_frozen_importlib.ModuleSpec.__eq__#opaque"⟩, ⟨PyData.keyHash P (ucs [99,97,99,104,101,100]), .str (ucs [99,97,99,104,101,100]) 239, .builtin "_frozen_importlib.ModuleSpec.cached#opaque"⟩, ⟨PyData.keyHash P (ucs [112,97,114,101,110,116]), .str (ucs [112,97,114,101,110,116]) 240, .builtin "_frozen_importlib.ModuleSpec.parent#opaque"⟩, ⟨PyData.keyHash P (ucs [104,97,115,95,108,111,99,97,116,105,111,110]), .str (ucs [104,97,115,95,108,111,99,97,116,105,111,110]) 241, .builtin "_frozen_importlib.ModuleSpec.has_location#opaque"⟩, ⟨PyData.keyHash P (ucs [95,95,115,116,97,116,105,99,95,97,116,116,114,105,98,117,116,101,115,95,95]), .str (ucs [95,95,115,116,97,116,105,99,95,97,116,116,114,105,98,117,116,101,115,95,95]) 242, .ref 24⟩, ⟨PyData.keyHash P (ucs [95,95,100,105,99,116,95,95]), .str (ucs [95,95,100,105,99,116,95,95]) 244, .ref 25⟩, ⟨PyData.keyHash P (ucs [95,95,119,101,97,107,114,101,102,95,95]), .str (ucs [95,95,119,101,97,107,114,101,102,95,95]) 246, .ref 26⟩, ⟨PyData.keyHash P (ucs [95,95,104,97,115,104,95,95]), .str (ucs [95,95,104,97,115,104,95,95]) 247, .none⟩] 13), #[]⟩,
  ⟨.type "type", none, (.cls { name := (ucs [77,111,100,117,108,101,83,112,101,99]), bases := [.type "object"], mro := [.ref 23, .type "object"], ns := 22, qualname := (ucs [77,111,100,117,108,101,83,112,101,99]), hasDict := true, slotNames := [], subclasses := [], abstract := false, collection := none, hasDel := false }), #[]⟩,
  ⟨.type "tuple", none, (.seq #[.str (ucs [95,99,97,99,104,101,100]) 225, .str (ucs [95,115,101,116,95,102,105,108,101,97,116,116,114]) 226, .str (ucs [95,117,110,105,110,105,116,105,97,108,105,122,101,100,95,115,117,98,109,111,100,117,108,101,115]) 227, .str (ucs [108,111,97,100,101,114]) 228, .str (ucs [108,111,97,100,101,114,95,115,116,97,116,101]) 229, .str (ucs [110,97,109,101]) 230, .str (ucs [111,114,105,103,105,110]) 231, .str (ucs [115,117,98,109,111,100,117,108,101,95,115,101,97,114,99,104,95,108,111,99,97,116,105,111,110,115]) 232] 0), #[]⟩,
  ⟨.type "getset_descriptor", none, (.fields #[.str (ucs [95,95,100,105,99,116,95,95]) 243, .ref 23, .builtin "function.__dict__", .builtin "function.__dict__#set"]), #[]⟩,
  ⟨.type "getset_descriptor", none, (.fields #[.str (ucs [95,95,119,101,97,107,114,101,102,95,95]) 245, .ref 23, .builtin "ExceptionGroup.__weakref__", .none]), #[]⟩,
  ⟨.ref 23, (some 21), .plain, #[]⟩,
  ⟨.none, none, (.seq #[.int (12) 0, .str (ucs [6,254,8,95,95,110,97,109,101,95,95,6,253,9,95,111,112,101,114,97,116,111,114,6,255,7,95,95,100,111,99,95,95,9,28,95,111,112,101,114,97,116,111,114,46,95,95,100,111,99,95,95,58,115,116,114,35,111,112,97,113,117,101,6,257,11,95,95,112,97,99,107,97,103,101,95,95,6,256,0,6,258,10,95,95,108,111,97,100,101,114,95,95,4,0,0,15,6,259,8,95,95,115,112,101,99,95,95,4,0,0,27,6,260,5,116,114,117,116,104,9,15,95,111,112,101,114,97,116,111,114,46,116,114,117,116,104,6,261,8,99,111,110,116,97,105,110,115,9,18,95,111,112,101,114,97,116,111,114,46,99,111,110,116,97,105,110,115,6,262,7,105,110,100,101,120,79,102,9,17,95,111,112,101,114,97,116,111,114,46,105,110,100,101,120,79,102,6,263,7,99,111,117,110,116,79,102,9,17,95,111,112,101,114,97,116,111,114,46,99,111,117,110,116,79,102,6,264,3,105,115,95,9,13,95,111,112,101,114,97,116,111,114,46,105,115,95,6,265,6,105,115,95,110,111,116,9,16,95,111,112,101,114,97,116,111,114,46,105,115,95,110,111,116,6,266,5,105,110,100,101,120,9,15,95,111,112,101,114,97,116,111,114,46,105,110,100,101,120,6,267,3,97,100,100,9,13,95,111,112,101,114,97,116,111,114,46,97,100,100,6,268,3,115,117,98,9,13,95,111,112,101,114,97,116,111,114,46,115,117,98,6,269,3,109,117,108,9,13,95,111,112,101,114,97,116,111,114,46,109,117,108,6,270,6,109,97,116,109,117,108,9,16,95,111,112,101,114,97,116,111,114,46,109,97,116,109,117,108,6,271,8,102,108,111,111,114,100,105,118,9,18,95,111,112,101,114,97,116,111,114,46,102,108,111,111,114,100,105,118,6,272,7,116,114,117,101,100,105,118,9,17,95,111,112,101,114,97,116,111,114,46,116,114,117,101,100,105,118,6,273,3,109,111,100,9,13,95,111,112,101,114,97,116,111,114,46,109,111,100,6,274,3,110,101,103,9,13,95,111,112,101,114,97,116,111,114,46,110,101,103,6,275,3,112,111,115,9,13,95,111,112,101,114,97,116,111,114,46,112,111,115,6,276,3,97,98,115,9,13,95,111,112,101,114,97,116,111,114,46,97,98,115,6,277,3,105,110,118,9,13,95,111,112,101,114,97,116,111,114,46,105,110,118,6,278,6,105,110,118,101,114,116,9,16,95,111,112,101,114,97,116,111,114,46,105,110,118,101,114,116,6,279,6,108,115,104,105,102,116,9,16,95,111,112,101,114,97,116,111,114,46,108,115,104,105,102,116,6,280,6,114,115,104,105,102,116,9,16,95,111,112,101,114,97,116,111,114,46,114,115,104,105,102,116,6,281,4,110,111,116,95,9,14,95,111,112,101,114,97,116,111,114,46,110,111,116,95,6,282,4,97,110,100,95,9,14,95,111,112,101,114,97,116,111,114,46,97,110,100,95,6,283,3,120,111,114,9,13,95,111,112,101,114,97,116,111,114,46,120,111,114,6,284,3,111,114,95,9,13,95,111,112,101,114,97,116,111,114,46,111,114,95,6,285,4,105,97,100,100,9,14,95,111,112,101,114,97,116,111,114,46,105,97,100,100,6,286,4,105,115,117,98,9,14,95,111,112,101,114,97,116,111,114,46,105,115,117,98,6,287,4,105,109,117,108,9,14,95,111,112,101,114,97,116,111,114,46,105,109,117,108,6,288,7,105,109,97,116,109,117,108,9,17,95,111,112,101,114,97,116,111,114,46,105,109,97,116,109,117,108,6,289,9,105,102,108,111,111,114,100,105,118,9,19,95,111,112,101,114,97,116,111,114,46,105,102,108,111,111,114,100,105,118,6,290,8,105,116,114,117,101,100,105,118,9,18,95,111,112,101,114,97,116,111,114,46,105,116,114,117,101,100,105,118,6,291,4,105,109,111,100,9,14,95,111,112,101,114,97,116,111,114,46,105,109,111,100,6,292,7,105,108,115,104,105,102,116,9,17,95,111,112,101,114,97,116,111,114,46,105,108,115,104,105,102,116,6,293,7,105,114,115,104,105,102,116,9,17,95,111,112,101,114,97,116,111,114,46,105,114,115,104,105,102,116,6,294,4,105,97,110,100,9,14,95,111,112,101,114,97,116,111,114,46,105,97,110,100,6,295,4,105,120,111,114,9,14,95,111,112,101,114,97,116,111,114,46,105,120,111,114,6,296,3,105,111,114,9,13,95,111,112,101,114,97,116,111,114,46,105,111,114,6,297,6,99,111,110,99,97,116,9,16,95,111,112,101,114,97,116,111,114,46,99,111,110,99,97,116,6,298,7,105,99,111,110,99,97,116,9,17,95,111,112,101,114,97,116,111,114,46,105,99,111,110,99,97,116,6,299,7,103,101,116,105,116,101,109,9,17,95,111,112,101,114,97,116,111,114,46,103,101,116,105,116,101,109,6,300,7,115,101,116,105,116,101,109,9,17,95,111,112,101,114,97,116,111,114,46,115,101,116,105,116,101,109,6,301,7,100,101,108,105,116,101,109,9,17,95,111,112,101,114,97,116,111,114,46,100,101,108,105,116,101,109,6,302,3,112,111,119,9,13,95,111,112,101,114,97,116,111,114,46,112,111,119,6,303,4,105,112,111,119,9,14,95,111,112,101,114,97,116,111,114,46,105,112,111,119,6,304,2,101,113,9,12,95,111,112,101,114,97,116,111,114,46,101,113,6,305,2,110,101,9,12,95,111,112,101,114,97,116,111,114,46,110,101,6,306,2,108,116,9,12,95,111,112,101,114,97,116,111,114,46,108,116,6,307,2,108,101,9,12,95,111,112,101,114,97,116,111,114,46,108,101,6,308,2,103,116,9,12,95,111,112,101,114,97,116,111,114,46,103,116,6,309,2,103,101,9,12,95,111,112,101,114,97,116,111,114,46,103,101,6,310,15,95,99,111,109,112,97,114,101,95,100,105,103,101,115,116,9,25,95,111,112,101,114,97,116,111,114,46,95,99,111,109,112,97,114,101,95,100,105,103,101,115,116,6,311,11,108,101,110,103,116,104,95,104,105,110,116,9,21,95,111,112,101,114,97,116,111,114,46,108,101,110,103,116,104,95,104,105,110,116,6,312,4,99,97,108,108,9,14,95,111,112,101,114,97,116,111,114,46,99,97,108,108,6,313,10,97,116,116,114,103,101,116,116,101,114,8,19,111,112,101,114,97,116,111,114,46,97,116,116,114,103,101,116,116,101,114,6,314,10,105,116,101,109,103,101,116,116,101,114,8,19,111,112,101,114,97,116,111,114,46,105,116,101,109,103,101,116,116,101,114,6,315,12,109,101,116,104,111,100,99,97,108,108,101,114,8,21,111,112,101,114,97,116,111,114,46,109,101,116,104,111,100,99,97,108,108,101,114]) 0, .bool true, .bool false, .str (ucs [95,111,112,101,114,97,116,111,114]) 317] 0), #[]⟩], {}⟩
noncomputable def H1 : Params → Heap := fun P => ⟨#[
  ⟨.type "dict", none, (.dict #[⟨PyData.keyHash P (ucs [95,95,110,97,109,101,95,95]), .str (ucs [95,95,110,97,109,101,95,95]) 1, .str (ucs [98,117,105,108,116,105,110,115]) 160⟩, ⟨PyData.keyHash P (ucs [95,95,100,111,99,95,95]), .str (ucs [95,95,100,111,99,95,95]) 2, .builtin "builtins.__doc__:str#opaque"⟩, ⟨PyData.keyHash P (ucs [95,95,112,97,99,107,97,103,101,95,95]), .str (ucs [95,95,112,97,99,107,97,103,101,95,95]) 3, .builtin "builtins.__package__:str#opaque"⟩, ⟨PyData.keyHash P (ucs [95,95,108,111,97,100,101,114,95,95]), .str (ucs [95,95,108,111,97,100,101,114,95,95]) 4, .builtin "builtins.__loader__:shared#opaque"⟩, ⟨PyData.keyHash P (ucs [95,95,115,112,101,99,95,95]), .str (ucs [95,95,115,112,101,99,95,95]) 5, .builtin "builtins.__spec__#opaque"⟩, ⟨PyData.keyHash P (ucs [95,95,98,117,105,108,100,95,99,108,97,115,115,95,95]), .str (ucs [95,95,98,117,105,108,100,95,99,108,97,115,115,95,95]) 6, .builtin "__build_class__"⟩, ⟨PyData.keyHash P (ucs [95,95,105,109,112,111,114,116,95,95]), .str (ucs [95,95,105,109,112,111,114,116,95,95]) 7, .builtin "__import__"⟩, ⟨PyData.keyHash P (ucs [97,98,115]), .str (ucs [97,98,115]) 8, .builtin "abs"⟩, ⟨PyData.keyHash P (ucs [97,108,108]), .str (ucs [97,108,108]) 9, .builtin "all"⟩, ⟨PyData.keyHash P (ucs [97,110,121]), .str (ucs [97,110,121]) 10, .builtin "any"⟩, ⟨PyData.keyHash P (ucs [97,115,99,105,105]), .str (ucs [97,115,99,105,105]) 11, .builtin "ascii"⟩, ⟨PyData.keyHash P (ucs [98,105,110]), .str (ucs [98,105,110]) 12, .builtin "bin"⟩, ⟨PyData.keyHash P (ucs [98,114,101,97,107,112,111,105,110,116]), .str (ucs [98,114,101,97,107,112,111,105,110,116]) 13, .builtin "breakpoint"⟩, ⟨PyData.keyHash P (ucs [99,97,108,108,97,98,108,101]), .str (ucs [99,97,108,108,97,98,108,101]) 14, .builtin "callable"⟩, ⟨PyData.keyHash P (ucs [99,104,114]), .str (ucs [99,104,114]) 15, .builtin "chr"⟩, ⟨PyData.keyHash P (ucs [99,111,109,112,105,108,101]), .str (ucs [99,111,109,112,105,108,101]) 16, .builtin "compile"⟩, ⟨PyData.keyHash P (ucs [100,101,108,97,116,116,114]), .str (ucs [100,101,108,97,116,116,114]) 17, .builtin "delattr"⟩, ⟨PyData.keyHash P (ucs [100,105,114]), .str (ucs [100,105,114]) 18, .builtin "dir"⟩, ⟨PyData.keyHash P (ucs [100,105,118,109,111,100]), .str (ucs [100,105,118,109,111,100]) 19, .builtin "divmod"⟩, ⟨PyData.keyHash P (ucs [101,118,97,108]), .str (ucs [101,118,97,108]) 20, .builtin "eval"⟩, ⟨PyData.keyHash P (ucs [101,120,101,99]), .str (ucs [101,120,101,99]) 21, .builtin "exec"⟩, ⟨PyData.keyHash P (ucs [102,111,114,109,97,116]), .str (ucs [102,111,114,109,97,116]) 22, .builtin "format"⟩, ⟨PyData.keyHash P (ucs [103,101,116,97,116,116,114]), .str (ucs [103,101,116,97,116,116,114]) 23, .builtin "getattr"⟩, ⟨PyData.keyHash P (ucs [103,108,111,98,97,108,115]), .str (ucs [103,108,111,98,97,108,115]) 24, .builtin "globals"⟩, ⟨PyData.keyHash P (ucs [104,97,115,97,116,116,114]), .str (ucs [104,97,115,97,116,116,114]) 25, .builtin "hasattr"⟩, ⟨PyData.keyHash P (ucs [104,97,115,104]), .str (ucs [104,97,115,104]) 26, .builtin "hash"⟩, ⟨PyData.keyHash P (ucs [104,101,120]), .str (ucs [104,101,120]) 27, .builtin "hex"⟩, ⟨PyData.keyHash P (ucs [105,100]), .str (ucs [105,100]) 28, .builtin "id"⟩, ⟨PyData.keyHash P (ucs [105,110,112,117,116]), .str (ucs [105,110,112,117,116]) 29, .builtin "input"⟩, ⟨PyData.keyHash P (ucs [105,115,105,110,115,116,97,110,99,101]), .str (ucs [105,115,105,110,115,116,97,110,99,101]) 30, .builtin "isinstance"⟩, ⟨PyData.keyHash P (ucs [105,115,115,117,98,99,108,97,115,115]), .str (ucs [105,115,115,117,98,99,108,97,115,115]) 31, .builtin "issubclass"⟩, ⟨PyData.keyHash P (ucs [105,116,101,114]), .str (ucs [105,116,101,114]) 32, .builtin "iter"⟩, ⟨PyData.keyHash P (ucs [97,105,116,101,114]), .str (ucs [97,105,116,101,114]) 33, .builtin "aiter"⟩, ⟨PyData.keyHash P (ucs [108,101,110]), .str (ucs [108,101,110]) 34, .builtin "len"⟩, ⟨PyData.keyHash P (ucs [108,111,99,97,108,115]), .str (ucs [108,111,99,97,108,115]) 35, .builtin "locals"⟩, ⟨PyData.keyHash P (ucs [109,97,120]), .str (ucs [109,97,120]) 36, .builtin "max"⟩, ⟨PyData.keyHash P (ucs [109,105,110]), .str (ucs [109,105,110]) 37, .builtin "min"⟩, ⟨PyData.keyHash P (ucs [110,101,120,116]), .str (ucs [110,101,120,116]) 38, .builtin "next"⟩, ⟨PyData.keyHash P (ucs [97,110,101,120,116]), .str (ucs [97,110,101,120,116]) 39, .builtin "anext"⟩, ⟨PyData.keyHash P (ucs [111,99,116]), .str (ucs [111,99,116]) 40, .builtin "oct"⟩, ⟨PyData.keyHash P (ucs [111,114,100]), .str (ucs [111,114,100]) 41, .builtin "ord"⟩, ⟨PyData.keyHash P (ucs [112,111,119]), .str (ucs [112,111,119]) 42, .builtin "pow"⟩, ⟨PyData.keyHash P (ucs [112,114,105,110,116]), .str (ucs [112,114,105,110,116]) 43, .builtin "print"⟩, ⟨PyData.keyHash P (ucs [114,101,112,114]), .str (ucs [114,101,112,114]) 44, .builtin "repr"⟩, ⟨PyData.keyHash P (ucs [114,111,117,110,100]), .str (ucs [114,111,117,110,100]) 45, .builtin "round"⟩, ⟨PyData.keyHash P (ucs [115,101,116,97,116,116,114]), .str (ucs [115,101,116,97,116,116,114]) 46, .builtin "setattr"⟩, ⟨PyData.keyHash P (ucs [115,111,114,116,101,100]), .str (ucs [115,111,114,116,101,100]) 47, .builtin "sorted"⟩, ⟨PyData.keyHash P (ucs [115,117,109]), .str (ucs [115,117,109]) 48, .builtin "sum"⟩, ⟨PyData.keyHash P (ucs [118,97,114,115]), .str (ucs [118,97,114,115]) 49, .builtin "vars"⟩, ⟨PyData.keyHash P (ucs [78,111,110,101]), .str (ucs [78,111,110,101]) 50, .none⟩, ⟨PyData.keyHash P (ucs [69,108,108,105,112,115,105,115]), .str (ucs [69,108,108,105,112,115,105,115]) 51, .ellipsis⟩, ⟨PyData.keyHash P (ucs [78,111,116,73,109,112,108,101,109,101,110,116,101,100]), .str (ucs [78,111,116,73,109,112,108,101,109,101,110,116,101,100]) 52, .notImplemented⟩, ⟨PyData.keyHash P (ucs [70,97,108,115,101]), .str (ucs [70,97,108,115,101]) 53, .bool false⟩, ⟨PyData.keyHash P (ucs [84,114,117,101]), .str (ucs [84,114,117,101]) 54, .bool true⟩, ⟨PyData.keyHash P (ucs [98,111,111,108]), .str (ucs [98,111,111,108]) 55, .type "bool"⟩, ⟨PyData.keyHash P (ucs [109,101,109,111,114,121,118,105,101,119]), .str (ucs [109,101,109,111,114,121,118,105,101,119]) 56, .type "memoryview"⟩, ⟨PyData.keyHash P (ucs [98,121,116,101,97,114,114,97,121]), .str (ucs [98,121,116,101,97,114,114,97,121]) 57, .type "bytearray"⟩, ⟨PyData.keyHash P (ucs [98,121,116,101,115]), .str (ucs [98,121,116,101,115]) 58, .type "bytes"⟩, ⟨PyData.keyHash P (ucs [99,108,97,115,115,109,101,116,104,111,100]), .str (ucs [99,108,97,115,115,109,101,116,104,111,100]) 59, .type "classmethod"⟩, ⟨PyData.keyHash P (ucs [99,111,109,112,108,101,120]), .str (ucs [99,111,109,112,108,101,120]) 60, .type "complex"⟩, ⟨PyData.keyHash P (ucs [100,105,99,116]), .str (ucs [100,105,99,116]) 61, .type "dict"⟩, ⟨PyData.keyHash P (ucs [101,110,117,109,101,114,97,116,101]), .str (ucs [101,110,117,109,101,114,97,116,101]) 62, .type "enumerate"⟩, ⟨PyData.keyHash P (ucs [102,105,108,116,101,114]), .str (ucs [102,105,108,116,101,114]) 63, .type "filter"⟩, ⟨PyData.keyHash P (ucs [102,108,111,97,116]), .str (ucs [102,108,111,97,116]) 64, .type "float"⟩, ⟨PyData.keyHash P (ucs [102,114,111,122,101,110,115,101,116]), .str (ucs [102,114,111,122,101,110,115,101,116]) 65, .type "frozenset"⟩, ⟨PyData.keyHash P (ucs [112,114,111,112,101,114,116,121]), .str (ucs [112,114,111,112,101,114,116,121]) 66, .type "property"⟩, ⟨PyData.keyHash P (ucs [105,110,116]), .str (ucs [105,110,116]) 67, .type "int"⟩, ⟨PyData.keyHash P (ucs [108,105,115,116]), .str (ucs [108,105,115,116]) 68, .type "list"⟩, ⟨PyData.keyHash P (ucs [109,97,112]), .str (ucs [109,97,112]) 69, .type "map"⟩, ⟨PyData.keyHash P (ucs [111,98,106,101,99,116]), .str (ucs [111,98,106,101,99,116]) 70, .type "object"⟩, ⟨PyData.keyHash P (ucs [114,97,110,103,101]), .str (ucs [114,97,110,103,101]) 71, .type "range"⟩, ⟨PyData.keyHash P (ucs [114,101,118,101,114,115,101,100]), .str (ucs [114,101,118,101,114,115,101,100]) 72, .type "reversed"⟩, ⟨PyData.keyHash P (ucs [115,101,116]), .str (ucs [115,101,116]) 73, .type "set"⟩, ⟨PyData.keyHash P (ucs [115,108,105,99,101]), .str (ucs [115,108,105,99,101]) 74, .type "slice"⟩, ⟨PyData.keyHash P (ucs [115,116,97,116,105,99,109,101,116,104,111,100]), .str (ucs [115,116,97,116,105,99,109,101,116,104,111,100]) 75, .type "staticmethod"⟩, ⟨PyData.keyHash P (ucs [115,116,114]), .str (ucs [115,116,114]) 76, .type "str"⟩, ⟨PyData.keyHash P (ucs [115,117,112,101,114]), .str (ucs [115,117,112,101,114]) 77, .type "super"⟩, ⟨PyData.keyHash P (ucs [116,117,112,108,101]), .str (ucs [116,117,112,108,101]) 78, .type "tuple"⟩, ⟨PyData.keyHash P (ucs [116,121,112,101]), .str (ucs [116,121,112,101]) 79, .type "type"⟩, ⟨PyData.keyHash P (ucs [122,105,112]), .str (ucs [122,105,112]) 80, .type "zip"⟩, ⟨PyData.keyHash P (ucs [95,95,100,101,98,117,103,95,95]), .str (ucs [95,95,100,101,98,117,103,95,95]) 81, .bool true⟩, ⟨PyData.keyHash P (ucs [66,97,115,101,69,120,99,101,112,116,105,111,110]), .str (ucs [66,97,115,101,69,120,99,101,112,116,105,111,110]) 82, .type "BaseException"⟩, ⟨PyData.keyHash P (ucs [66,97,115,101,69,120,99,101,112,116,105,111,110,71,114,111,117,112]), .str (ucs [66,97,115,101,69,120,99,101,112,116,105,111,110,71,114,111,117,112]) 83, .type "BaseExceptionGroup"⟩, ⟨PyData.keyHash P (ucs [69,120,99,101,112,116,105,111,110]), .str (ucs [69,120,99,101,112,116,105,111,110]) 84, .type "Exception"⟩, ⟨PyData.keyHash P (ucs [71,101,110,101,114,97,116,111,114,69,120,105,116]), .str (ucs [71,101,110,101,114,97,116,111,114,69,120,105,116]) 85, .type "GeneratorExit"⟩, ⟨PyData.keyHash P (ucs [75,101,121,98,111,97,114,100,73,110,116,101,114,114,117,112,116]), .str (ucs [75,101,121,98,111,97,114,100,73,110,116,101,114,114,117,112,116]) 86, .type "KeyboardInterrupt"⟩, ⟨PyData.keyHash P (ucs [83,121,115,116,101,109,69,120,105,116]), .str (ucs [83,121,115,116,101,109,69,120,105,116]) 87, .type "SystemExit"⟩, ⟨PyData.keyHash P (ucs [65,114,105,116,104,109,101,116,105,99,69,114,114,111,114]), .str (ucs [65,114,105,116,104,109,101,116,105,99,69,114,114,111,114]) 88, .type "ArithmeticError"⟩, ⟨PyData.keyHash P (ucs [65,115,115,101,114,116,105,111,110,69,114,114,111,114]), .str (ucs [65,115,115,101,114,116,105,111,110,69,114,114,111,114]) 89, .type "AssertionError"⟩, ⟨PyData.keyHash P (ucs [65,116,116,114,105,98,117,116,101,69,114,114,111,114]), .str (ucs [65,116,116,114,105,98,117,116,101,69,114,114,111,114]) 90, .type "AttributeError"⟩, ⟨PyData.keyHash P (ucs [66,117,102,102,101,114,69,114,114,111,114]), .str (ucs [66,117,102,102,101,114,69,114,114,111,114]) 91, .type "BufferError"⟩, ⟨PyData.keyHash P (ucs [69,79,70,69,114,114,111,114]), .str (ucs [69,79,70,69,114,114,111,114]) 92, .type "EOFError"⟩, ⟨PyData.keyHash P (ucs [73,109,112,111,114,116,69,114,114,111,114]), .str (ucs [73,109,112,111,114,116,69,114,114,111,114]) 93, .type "ImportError"⟩, ⟨PyData.keyHash P (ucs [76,111,111,107,117,112,69,114,114,111,114]), .str (ucs [76,111,111,107,117,112,69,114,114,111,114]) 94, .type "LookupError"⟩, ⟨PyData.keyHash P (ucs [77,101,109,111,114,121,69,114,114,111,114]), .str (ucs [77,101,109,111,114,121,69,114,114,111,114]) 95, .type "MemoryError"⟩, ⟨PyData.keyHash P (ucs [78,97,109,101,69,114,114,111,114]), .str (ucs [78,97,109,101,69,114,114,111,114]) 96, .type "NameError"⟩, ⟨PyData.keyHash P (ucs [79,83,69,114,114,111,114]), .str (ucs [79,83,69,114,114,111,114]) 97, .type "OSError"⟩, ⟨PyData.keyHash P (ucs [82,101,102,101,114,101,110,99,101,69,114,114,111,114]), .str (ucs [82,101,102,101,114,101,110,99,101,69,114,114,111,114]) 98, .type "ReferenceError"⟩, ⟨PyData.keyHash P (ucs [82,117,110,116,105,109,101,69,114,114,111,114]), .str (ucs [82,117,110,116,105,109,101,69,114,114,111,114]) 99, .type "RuntimeError"⟩, ⟨PyData.keyHash P (ucs [83,116,111,112,65,115,121,110,99,73,116,101,114,97,116,105,111,110]), .str (ucs [83,116,111,112,65,115,121,110,99,73,116,101,114,97,116,105,111,110]) 100, .type "StopAsyncIteration"⟩, ⟨PyData.keyHash P (ucs [83,116,111,112,73,116,101,114,97,116,105,111,110]), .str (ucs [83,116,111,112,73,116,101,114,97,116,105,111,110]) 101, .type "StopIteration"⟩, ⟨PyData.keyHash P (ucs [83,121,110,116,97,120,69,114,114,111,114]), .str (ucs [83,121,110,116,97,120,69,114,114,111,114]) 102, .type "SyntaxError"⟩, ⟨PyData.keyHash P (ucs [83,121,115,116,101,109,69,114,114,111,114]), .str (ucs [83,121,115,116,101,109,69,114,114,111,114]) 103, .type "SystemError"⟩, ⟨PyData.keyHash P (ucs [84,121,112,101,69,114,114,111,114]), .str (ucs [84,121,112,101,69,114,114,111,114]) 104, .type "TypeError"⟩, ⟨PyData.keyHash P (ucs [86,97,108,117,101,69,114,114,111,114]), .str (ucs [86,97,108,117,101,69,114,114,111,114]) 105, .type "ValueError"⟩, ⟨PyData.keyHash P (ucs [87,97,114,110,105,110,103]), .str (ucs [87,97,114,110,105,110,103]) 106, .type "Warning"⟩, ⟨PyData.keyHash P (ucs [70,108,111,97,116,105,110,103,80,111,105,110,116,69,114,114,111,114]), .str (ucs [70,108,111,97,116,105,110,103,80,111,105,110,116,69,114,114,111,114]) 107, .type "FloatingPointError"⟩, ⟨PyData.keyHash P (ucs [79,118,101,114,102,108,111,119,69,114,114,111,114]), .str (ucs [79,118,101,114,102,108,111,119,69,114,114,111,114]) 108, .type "OverflowError"⟩, ⟨PyData.keyHash P (ucs [90,101,114,111,68,105,118,105,115,105,111,110,69,114,114,111,114]), .str (ucs [90,101,114,111,68,105,118,105,115,105,111,110,69,114,114,111,114]) 109, .type "ZeroDivisionError"⟩, ⟨PyData.keyHash P (ucs [66,121,116,101,115,87,97,114,110,105,110,103]), .str (ucs [66,121,116,101,115,87,97,114,110,105,110,103]) 110, .type "BytesWarning"⟩, ⟨PyData.keyHash P (ucs [68,101,112,114,101,99,97,116,105,111,110,87,97,114,110,105,110,103]), .str (ucs [68,101,112,114,101,99,97,116,105,111,110,87,97,114,110,105,110,103]) 111, .type "DeprecationWarning"⟩, ⟨PyData.keyHash P (ucs [69,110,99,111,100,105,110,103,87,97,114,110,105,110,103]), .str (ucs [69,110,99,111,100,105,110,103,87,97,114,110,105,110,103]) 112, .type "EncodingWarning"⟩, ⟨PyData.keyHash P (ucs [70,117,116,117,114,101,87,97,114,110,105,110,103]), .str (ucs [70,117,116,117,114,101,87,97,114,110,105,110,103]) 113, .type "FutureWarning"⟩, ⟨PyData.keyHash P (ucs [73,109,112,111,114,116,87,97,114,110,105,110,103]), .str (ucs [73,109,112,111,114,116,87,97,114,110,105,110,103]) 114, .type "ImportWarning"⟩, ⟨PyData.keyHash P (ucs [80,101,110,100,105,110,103,68,101,112,114,101,99,97,116,105,111,110,87,97,114,110,105,110,103]), .str (ucs [80,101,110,100,105,110,103,68,101,112,114,101,99,97,116,105,111,110,87,97,114,110,105,110,103]) 115, .type "PendingDeprecationWarning"⟩, ⟨PyData.keyHash P (ucs [82,101,115,111,117,114,99,101,87,97,114,110,105,110,103]), .str (ucs [82,101,115,111,117,114,99,101,87,97,114,110,105,110,103]) 116, .type "ResourceWarning"⟩, ⟨PyData.keyHash P (ucs [82,117,110,116,105,109,101,87,97,114,110,105,110,103]), .str (ucs [82,117,110,116,105,109,101,87,97,114,110,105,110,103]) 117, .type "RuntimeWarning"⟩, ⟨PyData.keyHash P (ucs [83,121,110,116,97,120,87,97,114,110,105,110,103]), .str (ucs [83,121,110,116,97,120,87,97,114,110,105,110,103]) 118, .type "SyntaxWarning"⟩, ⟨PyData.keyHash P (ucs [85,110,105,99,111,100,101,87,97,114,110,105,110,103]), .str (ucs [85,110,105,99,111,100,101,87,97,114,110,105,110,103]) 119, .type "UnicodeWarning"⟩, ⟨PyData.keyHash P (ucs [85,115,101,114,87,97,114,110,105,110,103]), .str (ucs [85,115,101,114,87,97,114,110,105,110,103]) 120, .type "UserWarning"⟩, ⟨PyData.keyHash P (ucs [66,108,111,99,107,105,110,103,73,79,69,114,114,111,114]), .str (ucs [66,108,111,99,107,105,110,103,73,79,69,114,114,111,114]) 121, .type "BlockingIOError"⟩, ⟨PyData.keyHash P (ucs [67,104,105,108,100,80,114,111,99,101,115,115,69,114,114,111,114]), .str (ucs [67,104,105,108,100,80,114,111,99,101,115,115,69,114,114,111,114]) 122, .type "ChildProcessError"⟩, ⟨PyData.keyHash P (ucs [67,111,110,110,101,99,116,105,111,110,69,114,114,111,114]), .str (ucs [67,111,110,110,101,99,116,105,111,110,69,114,114,111,114]) 123, .type "ConnectionError"⟩, ⟨PyData.keyHash P (ucs [70,105,108,101,69,120,105,115,116,115,69,114,114,111,114]), .str (ucs [70,105,108,101,69,120,105,115,116,115,69,114,114,111,114]) 124, .type "FileExistsError"⟩, ⟨PyData.keyHash P (ucs [70,105,108,101,78,111,116,70,111,117,110,100,69,114,114,111,114]), .str (ucs [70,105,108,101,78,111,116,70,111,117,110,100,69,114,114,111,114]) 125, .type "FileNotFoundError"⟩, ⟨PyData.keyHash P (ucs [73,110,116,101,114,114,117,112,116,101,100,69,114,114,111,114]), .str (ucs [73,110,116,101,114,114,117,112,116,101,100,69,114,114,111,114]) 126, .type "InterruptedError"⟩, ⟨PyData.keyHash P (ucs [73,115,65,68,105,114,101,99,116,111,114,121,69,114,114,111,114]), .str (ucs [73,115,65,68,105,114,101,99,116,111,114,121,69,114,114,111,114]) 127, .type "IsADirectoryError"⟩, ⟨PyData.keyHash P (ucs [78,111,116,65,68,105,114,101,99,116,111,114,121,69,114,114,111,114]), .str (ucs [78,111,116,65,68,105,114,101,99,116,111,114,121,69,114,114,111,114]) 128, .type "NotADirectoryError"⟩, ⟨PyData.keyHash P (ucs [80,101,114,109,105,115,115,105,111,110,69,114,114,111,114]), .str (ucs [80,101,114,109,105,115,115,105,111,110,69,114,114,111,114]) 129, .type "PermissionError"⟩, ⟨PyData.keyHash P (ucs [80,114,111,99,101,115,115,76,111,111,107,117,112,69,114,114,111,114]), .str (ucs [80,114,111,99,101,115,115,76,111,111,107,117,112,69,114,114,111,114]) 130, .type "ProcessLookupError"⟩, ⟨PyData.keyHash P (ucs [84,105,109,101,111,117,116,69,114,114,111,114]), .str (ucs [84,105,109,101,111,117,116,69,114,114,111,114]) 131, .type "TimeoutError"⟩, ⟨PyData.keyHash P (ucs [73,110,100,101,110,116,97,116,105,111,110,69,114,114,111,114]), .str (ucs [73,110,100,101,110,116,97,116,105,111,110,69,114,114,111,114]) 132, .type "IndentationError"⟩, ⟨PyData.keyHash P (ucs [95,73,110,99,111,109,112,108,101,116,101,73,110,112,117,116,69,114,114,111,114]), .str (ucs [95,73,110,99,111,109,112,108,101,116,101,73,110,112,117,116,69,114,114,111,114]) 133, .type "_IncompleteInputError"⟩, ⟨PyData.keyHash P (ucs [73,110,100,101,120,69,114,114,111,114]), .str (ucs [73,110,100,101,120,69,114,114,111,114]) 134, .type "IndexError"⟩, ⟨PyData.keyHash P (ucs [75,101,121,69,114,114,111,114]), .str (ucs [75,101,121,69,114,114,111,114]) 135, .type "KeyError"⟩, ⟨PyData.keyHash P (ucs [77,111,100,117,108,101,78,111,116,70,111,117,110,100,69,114,114,111,114]), .str (ucs [77,111,100,117,108,101,78,111,116,70,111,117,110,100,69,114,114,111,114]) 136, .type "ModuleNotFoundError"⟩, ⟨PyData.keyHash P (ucs [78,111,116,73,109,112,108,101,109,101,110,116,101,100,69,114,114,111,114]), .str (ucs [78,111,116,73,109,112,108,101,109,101,110,116,101,100,69,114,114,111,114]) 137, .type "NotImplementedError"⟩, ⟨PyData.keyHash P (ucs [80,121,116,104,111,110,70,105,110,97,108,105,122,97,116,105,111,110,69,114,114,111,114]), .str (ucs [80,121,116,104,111,110,70,105,110,97,108,105,122,97,116,105,111,110,69,114,114,111,114]) 138, .type "PythonFinalizationError"⟩, ⟨PyData.keyHash P (ucs [82,101,99,117,114,115,105,111,110,69,114,114,111,114]), .str (ucs [82,101,99,117,114,115,105,111,110,69,114,114,111,114]) 139, .type "RecursionError"⟩, ⟨PyData.keyHash P (ucs [85,110,98,111,117,110,100,76,111,99,97,108,69,114,114,111,114]), .str (ucs [85,110,98,111,117,110,100,76,111,99,97,108,69,114,114,111,114]) 140, .type "UnboundLocalError"⟩, ⟨PyData.keyHash P (ucs [85,110,105,99,111,100,101,69,114,114,111,114]), .str (ucs [85,110,105,99,111,100,101,69,114,114,111,114]) 141, .type "UnicodeError"⟩, ⟨PyData.keyHash P (ucs [66,114,111,107,101,110,80,105,112,101,69,114,114,111,114]), .str (ucs [66,114,111,107,101,110,80,105,112,101,69,114,114,111,114]) 142, .type "BrokenPipeError"⟩, ⟨PyData.keyHash P (ucs [67,111,110,110,101,99,116,105,111,110,65,98,111,114,116,101,100,69,114,114,111,114]), .str (ucs [67,111,110,110,101,99,116,105,111,110,65,98,111,114,116,101,100,69,114,114,111,114]) 143, .type "ConnectionAbortedError"⟩, ⟨PyData.keyHash P (ucs [67,111,110,110,101,99,116,105,111,110,82,101,102,117,115,101,100,69,114,114,111,114]), .str (ucs [67,111,110,110,101,99,116,105,111,110,82,101,102,117,115,101,100,69,114,114,111,114]) 144, .type "ConnectionRefusedError"⟩, ⟨PyData.keyHash P (ucs [67,111,110,110,101,99,116,105,111,110,82,101,115,101,116,69,114,114,111,114]), .str (ucs [67,111,110,110,101,99,116,105,111,110,82,101,115,101,116,69,114,114,111,114]) 145, .type "ConnectionResetError"⟩, ⟨PyData.keyHash P (ucs [84,97,98,69,114,114,111,114]), .str (ucs [84,97,98,69,114,114,111,114]) 146, .type "TabError"⟩, ⟨PyData.keyHash P (ucs [85,110,105,99,111,100,101,68,101,99,111,100,101,69,114,114,111,114]), .str (ucs [85,110,105,99,111,100,101,68,101,99,111,100,101,69,114,114,111,114]) 147, .type "UnicodeDecodeError"⟩, ⟨PyData.keyHash P (ucs [85,110,105,99,111,100,101,69,110,99,111,100,101,69,114,114,111,114]), .str (ucs [85,110,105,99,111,100,101,69,110,99,111,100,101,69,114,114,111,114]) 148, .type "UnicodeEncodeError"⟩, ⟨PyData.keyHash P (ucs [85,110,105,99,111,100,101,84,114,97,110,115,108,97,116,101,69,114,114,111,114]), .str (ucs [85,110,105,99,111,100,101,84,114,97,110,115,108,97,116,101,69,114,114,111,114]) 149, .type "UnicodeTranslateError"⟩, ⟨PyData.keyHash P (ucs [69,120,99,101,112,116,105,111,110,71,114,111,117,112]), .str (ucs [69,120,99,101,112,116,105,111,110,71,114,111,117,112]) 150, .type "ExceptionGroup"⟩, ⟨PyData.keyHash P (ucs [69,110,118,105,114,111,110,109,101,110,116,69,114,114,111,114]), .str (ucs [69,110,118,105,114,111,110,109,101,110,116,69,114,114,111,114]) 151, .type "OSError"⟩, ⟨PyData.keyHash P (ucs [73,79,69,114,114,111,114]), .str (ucs [73,79,69,114,114,111,114]) 152, .type "OSError"⟩, ⟨PyData.keyHash P (ucs [111,112,101,110]), .str (ucs [111,112,101,110]) 153, .builtin "open"⟩, ⟨PyData.keyHash P (ucs [113,117,105,116]), .str (ucs [113,117,105,116]) 154, .builtin "builtins.quit#opaque"⟩, ⟨PyData.keyHash P (ucs [101,120,105,116]), .str (ucs [101,120,105,116]) 155, .builtin "builtins.exit#opaque"⟩, ⟨PyData.keyHash P (ucs [99,111,112,121,114,105,103,104,116]), .str (ucs [99,111,112,121,114,105,103,104,116]) 156, .builtin "builtins.copyright#opaque"⟩, ⟨PyData.keyHash P (ucs [99,114,101,100,105,116,115]), .str (ucs [99,114,101,100,105,116,115]) 157, .builtin "builtins.credits#opaque"⟩, ⟨PyData.keyHash P (ucs [108,105,99,101,110,115,101]), .str (ucs [108,105,99,101,110,115,101]) 158, .builtin "builtins.license#opaque"⟩, ⟨PyData.keyHash P (ucs [104,101,108,112]), .str (ucs [104,101,108,112]) 159, .builtin "builtins.help#opaque"⟩] 159), #[]⟩,
  ⟨.type "dict", none, (.dict #[⟨PyData.keyHash P (ucs [98,117,105,108,116,105,110,115]), .str (ucs [98,117,105,108,116,105,110,115]) 162, .ref 4⟩, ⟨PyData.keyHash P (ucs [95,95,109,97,105,110,95,95]), .str (ucs [95,95,109,97,105,110,95,95]) 163, .ref 5⟩, ⟨PyData.keyHash P (ucs [95,111,112,101,114,97,116,111,114]), .str (ucs [95,111,112,101,114,97,116,111,114]) 250, .ref 13⟩] 3), #[]⟩,
  ⟨.none, none, (.dict #[⟨PyData.keyHash P (ucs [105,109,112,111,114,116,46,108,111,97,100,101,100,46,95,111,112,101,114,97,116,111,114]), .str (ucs [105,109,112,111,114,116,46,108,111,97,100,101,100,46,95,111,112,101,114,97,116,111,114]) 189, .bool true⟩, ⟨PyData.keyHash P (ucs [99,108,97,115,115,46,95,102,114,111,122,101,110,95,105,109,112,111,114,116,108,105,98,46,66,117,105,108,116,105,110,73,109,112,111,114,116,101,114]), .str (ucs [99,108,97,115,115,46,95,102,114,111,122,101,110,95,105,109,112,111,114,116,108,105,98,46,66,117,105,108,116,105,110,73,109,112,111,114,116,101,114]) 191, .ref 15⟩, ⟨PyData.keyHash P (ucs [119,97,116,99,104,101,100,46,105,109,112,111,114,116]), .str (ucs [119,97,116,99,104,101,100,46,105,109,112,111,114,116]) 212, .ref 19⟩, ⟨PyData.keyHash P (ucs [99,108,97,115,115,46,95,102,114,111,122,101,110,95,105,109,112,111,114,116,108,105,98,46,77,111,100,117,108,101,83,112,101,99]), .str (ucs [99,108,97,115,115,46,95,102,114,111,122,101,110,95,105,109,112,111,114,116,108,105,98,46,77,111,100,117,108,101,83,112,101,99]) 222, .ref 23⟩, ⟨PyData.keyHash P (ucs [115,121,115,46,109,111,100,117,108,101,115,46,98,111,111,107,101,100,45,101,112,111,99,104]), .str (ucs [115,121,115,46,109,111,100,117,108,101,115,46,98,111,111,107,101,100,45,101,112,111,99,104]) 251, .int (3) 0⟩, ⟨PyData.keyHash P (ucs [115,121,115,46,109,111,100,117,108,101,115,46,108,97,110,100,101,100,46,95,111,112,101,114,97,116,111,114]), .str (ucs [115,121,115,46,109,111,100,117,108,101,115,46,108,97,110,100,101,100,46,95,111,112,101,114,97,116,111,114]) 252, .bool true⟩, ⟨PyData.keyHash P (ucs [105,109,112,111,114,116,46,108,97,116,101,114,45,108,97,105,100,46,95,111,112,101,114,97,116,111,114]), .str (ucs [105,109,112,111,114,116,46,108,97,116,101,114,45,108,97,105,100,46,95,111,112,101,114,97,116,111,114]) 316, .bool true⟩, ⟨PyData.keyHash P (ucs [119,97,116,99,104,101,100,46,108,105,98,114,97,114,121]), .str (ucs [119,97,116,99,104,101,100,46,108,105,98,114,97,114,121]) 318, .ref 28⟩, ⟨PyData.keyHash P (ucs [119,97,116,99,104,101,100,46,108,105,98,114,97,114,121,45,111,98,106,101,99,116,115]), .str (ucs [119,97,116,99,104,101,100,46,108,105,98,114,97,114,121,45,111,98,106,101,99,116,115]) 0, .str (ucs [13]) 0⟩, ⟨PyData.keyHash P (ucs [119,97,116,99,104,101,100,46,108,105,98,114,97,114,121,45,100,101,101,112,46,95,111,112,101,114,97,116,111,114]), .str (ucs [119,97,116,99,104,101,100,46,108,105,98,114,97,114,121,45,100,101,101,112,46,95,111,112,101,114,97,116,111,114]) 319, .str (ucs [4,0,0,12,4,0,0,12,4,0,0,3,4,0,0,12,8,4,100,105,99,116,2]) 0⟩] 10), #[]⟩,
  ⟨.type "dict", none, (.dict #[⟨PyData.keyHash P (ucs [95,95,110,97,109,101,95,95]), .str (ucs [95,95,110,97,109,101,95,95]) 165, .str (ucs [108,97,119,95,109,100,48,48,50,48,95,48,49]) 759⟩, ⟨PyData.keyHash P (ucs [95,95,100,111,99,95,95]), .str (ucs [95,95,100,111,99,95,95]) 166, .none⟩, ⟨PyData.keyHash P (ucs [95,95,112,97,99,107,97,103,101,95,95]), .str (ucs [95,95,112,97,99,107,97,103,101,95,95]) 167, .none⟩, ⟨PyData.keyHash P (ucs [95,95,108,111,97,100,101,114,95,95]), .str (ucs [95,95,108,111,97,100,101,114,95,95]) 168, .builtin "__main__.__loader__#opaque"⟩, ⟨PyData.keyHash P (ucs [95,95,115,112,101,99,95,95]), .str (ucs [95,95,115,112,101,99,95,95]) 169, .none⟩, ⟨PyData.keyHash P (ucs [95,95,97,110,110,111,116,97,116,105,111,110,115,95,95]), .str (ucs [95,95,97,110,110,111,116,97,116,105,111,110,115,95,95]) 170, .ref 6⟩, ⟨PyData.keyHash P (ucs [95,95,98,117,105,108,116,105,110,115,95,95]), .str (ucs [95,95,98,117,105,108,116,105,110,115,95,95]) 171, .ref 4⟩, ⟨PyData.keyHash P (ucs [95,95,102,105,108,101,95,95]), .str (ucs [95,95,102,105,108,101,95,95]) 173, .str (ucs [47,99,108,97,105,109,47,99,117,116,46,112,121]) 172⟩, ⟨PyData.keyHash P (ucs [95,95,99,97,99,104,101,100,95,95]), .str (ucs [95,95,99,97,99,104,101,100,95,95]) 174, .none⟩, ⟨PyData.keyHash P (ucs [101,113]), .str (ucs [101,113]) 325, .builtin "_operator.eq"⟩, ⟨PyData.keyHash P (ucs [103,101]), .str (ucs [103,101]) 328, .builtin "_operator.ge"⟩, ⟨PyData.keyHash P (ucs [103,116]), .str (ucs [103,116]) 331, .builtin "_operator.gt"⟩, ⟨PyData.keyHash P (ucs [108,101]), .str (ucs [108,101]) 334, .builtin "_operator.le"⟩, ⟨PyData.keyHash P (ucs [108,116]), .str (ucs [108,116]) 337, .builtin "_operator.lt"⟩, ⟨PyData.keyHash P (ucs [95,119,97,108,108]), .str (ucs [95,119,97,108,108]) 350, .ref 39⟩, ⟨PyData.keyHash P (ucs [95,98,105,116,99,111,117,110,116]), .str (ucs [95,98,105,116,99,111,117,110,116]) 359, .ref 46⟩, ⟨PyData.keyHash P (ucs [66,82,65,78,67,72,95,70,65,67,84,79,82]), .str (ucs [66,82,65,78,67,72,95,70,65,67,84,79,82]) 361, .int (32) 360⟩, ⟨PyData.keyHash P (ucs [66,73,84,95,77,65,83,75]), .str (ucs [66,73,84,95,77,65,83,75]) 364, .int (31) 363⟩, ⟨PyData.keyHash P (ucs [83,72,73,70,84]), .str (ucs [83,72,73,70,84]) 369, .int (5) 368⟩, ⟨PyData.keyHash P (ucs [99,111,109,112,97,114,101,95,112,118,101,99,116,111,114]), .str (ucs [99,111,109,112,97,114,101,95,112,118,101,99,116,111,114]) 378, .ref 54⟩, ⟨PyData.keyHash P (ucs [95,105,110,100,101,120,95,111,114,95,115,108,105,99,101]), .str (ucs [95,105,110,100,101,120,95,111,114,95,115,108,105,99,101]) 386, .ref 61⟩, ⟨PyData.keyHash P (ucs [80,121,116,104,111,110,80,86,101,99,116,111,114]), .str (ucs [80,121,116,104,111,110,80,86,101,99,116,111,114]) 730, .ref 303⟩, ⟨PyData.keyHash P (ucs [95,69,77,80,84,89,95,80,86,69,67,84,79,82]), .str (ucs [95,69,77,80,84,89,95,80,86,69,67,84,79,82]) 750, .ref 318⟩, ⟨PyData.keyHash P (ucs [112,121,116,104,111,110,95,112,118,101,99,116,111,114]), .str (ucs [112,121,116,104,111,110,95,112,118,101,99,116,111,114]) 757, .ref 327⟩, ⟨PyData.keyHash P (ucs [112,118,101,99,116,111,114]), .str (ucs [112,118,101,99,116,111,114]) 758, .ref 327⟩, ⟨PyData.keyHash P (ucs [108,97,119]), .str (ucs [108,97,119]) 766, .ref 332⟩] 26), #[]⟩,
  ⟨.type "module", (some 0), .plain, #[]⟩,
  ⟨.type "module", (some 3), .plain, #[]⟩,
  ⟨.type "dict", none, (.dict #[] 0), #[]⟩,
  ⟨.type "tuple", none, (.seq #[] 0), #[]⟩,
  ⟨.none, none, (.fields #[]), #[]⟩,
  ⟨.type "code", none, (.fields #[.str (ucs [60,109,111,100,117,108,101,62]) 176, .str (ucs [60,109,111,100,117,108,101,62]) 177, .str (ucs [47,99,108,97,105,109,47,99,117,116,46,112,121]) 178, .int (1) 0, .int (0) 0, .int (0) 0, .int (0) 0, .int (0) 0, .ref 7, .bool false, .int (175) 0, .ref 8, .none, .none, .none, .none, .int (179) 0, .int (1) 0, .str (ucs [47,99,108,97,105,109,47,99,117,116,46,112,121]) 180]), #[]⟩,
  ⟨.type "frame", none, .plain, #[(some (.ref 9)), (some (.ref 3)), (some (.ref 3)), none, (some (.str (ucs [95,95,109,97,105,110,95,95]) 164)), none, (some (.ref 0))]⟩,
  ⟨.type "tuple", none, (.seq #[.str (ucs [101,113]) 182, .str (ucs [103,101]) 183, .str (ucs [103,116]) 184, .str (ucs [108,101]) 185, .str (ucs [108,116]) 186] 0), #[]⟩,
  ⟨.type "dict", none, (.dict #[⟨PyData.keyHash P (ucs [95,95,110,97,109,101,95,95]), .str (ucs [95,95,110,97,109,101,95,95]) 254, .str (ucs [95,111,112,101,114,97,116,111,114]) 253⟩, ⟨PyData.keyHash P (ucs [95,95,100,111,99,95,95]), .str (ucs [95,95,100,111,99,95,95]) 255, .builtin "off-the-table:_operator.__doc__:shared#opaque"⟩, ⟨PyData.keyHash P (ucs [95,95,112,97,99,107,97,103,101,95,95]), .str (ucs [95,95,112,97,99,107,97,103,101,95,95]) 257, .str (ucs []) 256⟩, ⟨PyData.keyHash P (ucs [95,95,108,111,97,100,101,114,95,95]), .str (ucs [95,95,108,111,97,100,101,114,95,95]) 258, .builtin "off-the-table:_operator.__loader__:shared#opaque"⟩, ⟨PyData.keyHash P (ucs [95,95,115,112,101,99,95,95]), .str (ucs [95,95,115,112,101,99,95,95]) 259, .builtin "off-the-table:_operator.__spec__:shared#opaque"⟩, ⟨PyData.keyHash P (ucs [116,114,117,116,104]), .str (ucs [116,114,117,116,104]) 260, .builtin "_operator.truth"⟩, ⟨PyData.keyHash P (ucs [99,111,110,116,97,105,110,115]), .str (ucs [99,111,110,116,97,105,110,115]) 261, .builtin "_operator.contains"⟩, ⟨PyData.keyHash P (ucs [105,110,100,101,120,79,102]), .str (ucs [105,110,100,101,120,79,102]) 262, .builtin "_operator.indexOf"⟩, ⟨PyData.keyHash P (ucs [99,111,117,110,116,79,102]), .str (ucs [99,111,117,110,116,79,102]) 263, .builtin "_operator.countOf"⟩, ⟨PyData.keyHash P (ucs [105,115,95]), .str (ucs [105,115,95]) 264, .builtin "_operator.is_"⟩, ⟨PyData.keyHash P (ucs [105,115,95,110,111,116]), .str (ucs [105,115,95,110,111,116]) 265, .builtin "_operator.is_not"⟩, ⟨PyData.keyHash P (ucs [105,110,100,101,120]), .str (ucs [105,110,100,101,120]) 266, .builtin "_operator.index"⟩, ⟨PyData.keyHash P (ucs [97,100,100]), .str (ucs [97,100,100]) 267, .builtin "_operator.add"⟩, ⟨PyData.keyHash P (ucs [115,117,98]), .str (ucs [115,117,98]) 268, .builtin "_operator.sub"⟩, ⟨PyData.keyHash P (ucs [109,117,108]), .str (ucs [109,117,108]) 269, .builtin "_operator.mul"⟩, ⟨PyData.keyHash P (ucs [109,97,116,109,117,108]), .str (ucs [109,97,116,109,117,108]) 270, .builtin "_operator.matmul"⟩, ⟨PyData.keyHash P (ucs [102,108,111,111,114,100,105,118]), .str (ucs [102,108,111,111,114,100,105,118]) 271, .builtin "_operator.floordiv"⟩, ⟨PyData.keyHash P (ucs [116,114,117,101,100,105,118]), .str (ucs [116,114,117,101,100,105,118]) 272, .builtin "_operator.truediv"⟩, ⟨PyData.keyHash P (ucs [109,111,100]), .str (ucs [109,111,100]) 273, .builtin "_operator.mod"⟩, ⟨PyData.keyHash P (ucs [110,101,103]), .str (ucs [110,101,103]) 274, .builtin "_operator.neg"⟩, ⟨PyData.keyHash P (ucs [112,111,115]), .str (ucs [112,111,115]) 275, .builtin "_operator.pos"⟩, ⟨PyData.keyHash P (ucs [97,98,115]), .str (ucs [97,98,115]) 276, .builtin "_operator.abs"⟩, ⟨PyData.keyHash P (ucs [105,110,118]), .str (ucs [105,110,118]) 277, .builtin "_operator.inv"⟩, ⟨PyData.keyHash P (ucs [105,110,118,101,114,116]), .str (ucs [105,110,118,101,114,116]) 278, .builtin "_operator.invert"⟩, ⟨PyData.keyHash P (ucs [108,115,104,105,102,116]), .str (ucs [108,115,104,105,102,116]) 279, .builtin "_operator.lshift"⟩, ⟨PyData.keyHash P (ucs [114,115,104,105,102,116]), .str (ucs [114,115,104,105,102,116]) 280, .builtin "_operator.rshift"⟩, ⟨PyData.keyHash P (ucs [110,111,116,95]), .str (ucs [110,111,116,95]) 281, .builtin "_operator.not_"⟩, ⟨PyData.keyHash P (ucs [97,110,100,95]), .str (ucs [97,110,100,95]) 282, .builtin "_operator.and_"⟩, ⟨PyData.keyHash P (ucs [120,111,114]), .str (ucs [120,111,114]) 283, .builtin "_operator.xor"⟩, ⟨PyData.keyHash P (ucs [111,114,95]), .str (ucs [111,114,95]) 284, .builtin "_operator.or_"⟩, ⟨PyData.keyHash P (ucs [105,97,100,100]), .str (ucs [105,97,100,100]) 285, .builtin "_operator.iadd"⟩, ⟨PyData.keyHash P (ucs [105,115,117,98]), .str (ucs [105,115,117,98]) 286, .builtin "_operator.isub"⟩, ⟨PyData.keyHash P (ucs [105,109,117,108]), .str (ucs [105,109,117,108]) 287, .builtin "_operator.imul"⟩, ⟨PyData.keyHash P (ucs [105,109,97,116,109,117,108]), .str (ucs [105,109,97,116,109,117,108]) 288, .builtin "_operator.imatmul"⟩, ⟨PyData.keyHash P (ucs [105,102,108,111,111,114,100,105,118]), .str (ucs [105,102,108,111,111,114,100,105,118]) 289, .builtin "_operator.ifloordiv"⟩, ⟨PyData.keyHash P (ucs [105,116,114,117,101,100,105,118]), .str (ucs [105,116,114,117,101,100,105,118]) 290, .builtin "_operator.itruediv"⟩, ⟨PyData.keyHash P (ucs [105,109,111,100]), .str (ucs [105,109,111,100]) 291, .builtin "_operator.imod"⟩, ⟨PyData.keyHash P (ucs [105,108,115,104,105,102,116]), .str (ucs [105,108,115,104,105,102,116]) 292, .builtin "_operator.ilshift"⟩, ⟨PyData.keyHash P (ucs [105,114,115,104,105,102,116]), .str (ucs [105,114,115,104,105,102,116]) 293, .builtin "_operator.irshift"⟩, ⟨PyData.keyHash P (ucs [105,97,110,100]), .str (ucs [105,97,110,100]) 294, .builtin "_operator.iand"⟩, ⟨PyData.keyHash P (ucs [105,120,111,114]), .str (ucs [105,120,111,114]) 295, .builtin "_operator.ixor"⟩, ⟨PyData.keyHash P (ucs [105,111,114]), .str (ucs [105,111,114]) 296, .builtin "_operator.ior"⟩, ⟨PyData.keyHash P (ucs [99,111,110,99,97,116]), .str (ucs [99,111,110,99,97,116]) 297, .builtin "_operator.concat"⟩, ⟨PyData.keyHash P (ucs [105,99,111,110,99,97,116]), .str (ucs [105,99,111,110,99,97,116]) 298, .builtin "_operator.iconcat"⟩, ⟨PyData.keyHash P (ucs [103,101,116,105,116,101,109]), .str (ucs [103,101,116,105,116,101,109]) 299, .builtin "_operator.getitem"⟩, ⟨PyData.keyHash P (ucs [115,101,116,105,116,101,109]), .str (ucs [115,101,116,105,116,101,109]) 300, .builtin "_operator.setitem"⟩, ⟨PyData.keyHash P (ucs [100,101,108,105,116,101,109]), .str (ucs [100,101,108,105,116,101,109]) 301, .builtin "_operator.delitem"⟩, ⟨PyData.keyHash P (ucs [112,111,119]), .str (ucs [112,111,119]) 302, .builtin "_operator.pow"⟩, ⟨PyData.keyHash P (ucs [105,112,111,119]), .str (ucs [105,112,111,119]) 303, .builtin "_operator.ipow"⟩, ⟨PyData.keyHash P (ucs [101,113]), .str (ucs [101,113]) 304, .builtin "_operator.eq"⟩, ⟨PyData.keyHash P (ucs [110,101]), .str (ucs [110,101]) 305, .builtin "_operator.ne"⟩, ⟨PyData.keyHash P (ucs [108,116]), .str (ucs [108,116]) 306, .builtin "_operator.lt"⟩, ⟨PyData.keyHash P (ucs [108,101]), .str (ucs [108,101]) 307, .builtin "_operator.le"⟩, ⟨PyData.keyHash P (ucs [103,116]), .str (ucs [103,116]) 308, .builtin "_operator.gt"⟩, ⟨PyData.keyHash P (ucs [103,101]), .str (ucs [103,101]) 309, .builtin "_operator.ge"⟩, ⟨PyData.keyHash P (ucs [95,99,111,109,112,97,114,101,95,100,105,103,101,115,116]), .str (ucs [95,99,111,109,112,97,114,101,95,100,105,103,101,115,116]) 310, .builtin "off-the-table:_operator._compare_digest:shared#opaque"⟩, ⟨PyData.keyHash P (ucs [108,101,110,103,116,104,95,104,105,110,116]), .str (ucs [108,101,110,103,116,104,95,104,105,110,116]) 311, .builtin "_operator.length_hint"⟩, ⟨PyData.keyHash P (ucs [99,97,108,108]), .str (ucs [99,97,108,108]) 312, .builtin "_operator.call"⟩, ⟨PyData.keyHash P (ucs [97,116,116,114,103,101,116,116,101,114]), .str (ucs [97,116,116,114,103,101,116,116,101,114]) 313, .builtin "off-the-table:_operator.attrgetter:shared#opaque"⟩, ⟨PyData.keyHash P (ucs [105,116,101,109,103,101,116,116,101,114]), .str (ucs [105,116,101,109,103,101,116,116,101,114]) 314, .type "operator.itemgetter"⟩, ⟨PyData.keyHash P (ucs [109,101,116,104,111,100,99,97,108,108,101,114]), .str (ucs [109,101,116,104,111,100,99,97,108,108,101,114]) 315, .builtin "off-the-table:_operator.methodcaller:shared#opaque"⟩] 61), #[]⟩,
  ⟨.type "module", (some 12), .plain, #[]⟩,
  ⟨.type "dict", none, (.dict #[⟨PyData.keyHash P (ucs [95,95,109,111,100,117,108,101,95,95]), .str (ucs [95,95,109,111,100,117,108,101,95,95]) 195, .str (ucs [95,102,114,111,122,101,110,95,105,109,112,111,114,116,108,105,98]) 192⟩, ⟨PyData.keyHash P (ucs [95,95,102,105,114,115,116,108,105,110,101,110,111,95,95]), .str (ucs [95,95,102,105,114,115,116,108,105,110,101,110,111,95,95]) 196, .int (971) 193⟩, ⟨PyData.keyHash P (ucs [95,95,100,111,99,95,95]), .str (ucs [95,95,100,111,99,95,95]) 197, .builtin "_frozen_importlib.BuiltinImporter.__doc__:str#opaque"⟩, ⟨PyData.keyHash P (ucs [95,79,82,73,71,73,78]), .str (ucs [95,79,82,73,71,73,78]) 198, .str (ucs [98,117,105,108,116,45,105,110]) 194⟩, ⟨PyData.keyHash P (ucs [102,105,110,100,95,115,112,101,99]), .str (ucs [102,105,110,100,95,115,112,101,99]) 199, .builtin "_frozen_importlib.BuiltinImporter.find_spec#opaque"⟩, ⟨PyData.keyHash P (ucs [99,114,101,97,116,101,95,109,111,100,117,108,101]), .str (ucs [99,114,101,97,116,101,95,109,111,100,117,108,101]) 200, .builtin "_frozen_importlib.BuiltinImporter.create_module#opaque"⟩, ⟨PyData.keyHash P (ucs [101,120,101,99,95,109,111,100,117,108,101]), .str (ucs [101,120,101,99,95,109,111,100,117,108,101]) 201, .builtin "_frozen_importlib.BuiltinImporter.exec_module#opaque"⟩, ⟨PyData.keyHash P (ucs [103,101,116,95,99,111,100,101]), .str (ucs [103,101,116,95,99,111,100,101]) 202, .builtin "_frozen_importlib.BuiltinImporter.get_code#opaque"⟩, ⟨PyData.keyHash P (ucs [103,101,116,95,115,111,117,114,99,101]), .str (ucs [103,101,116,95,115,111,117,114,99,101]) 203, .builtin "_frozen_importlib.BuiltinImporter.get_source#opaque"⟩, ⟨PyData.keyHash P (ucs [105,115,95,112,97,99,107,97,103,101]), .str (ucs [105,115,95,112,97,99,107,97,103,101]) 204, .builtin "_frozen_importlib.BuiltinImporter.is_package#opaque"⟩, ⟨PyData.keyHash P (ucs [108,111,97,100,95,109,111,100,117,108,101]), .str (ucs [108,111,97,100,95,109,111,100,117,108,101]) 205, .builtin "_frozen_importlib.BuiltinImporter.load_module#opaque"⟩, ⟨PyData.keyHash P (ucs [95,95,115,116,97,116,105,99,95,97,116,116,114,105,98,117,116,101,115,95,95]), .str (ucs [95,95,115,116,97,116,105,99,95,97,116,116,114,105,98,117,116,101,115,95,95]) 206, .ref 16⟩, ⟨PyData.keyHash P (ucs [95,95,100,105,99,116,95,95]), .str (ucs [95,95,100,105,99,116,95,95]) 208, .ref 17⟩, ⟨PyData.keyHash P (ucs [95,95,119,101,97,107,114,101,102,95,95]), .str (ucs [95,95,119,101,97,107,114,101,102,95,95]) 210, .ref 18⟩] 14), #[]⟩,
  ⟨.type "type", none, (.cls { name := (ucs [66,117,105,108,116,105,110,73,109,112,111,114,116,101,114]), bases := [.type "object"], mro := [.ref 15, .type "object"], ns := 14, qualname := (ucs [66,117,105,108,116,105,110,73,109,112,111,114,116,101,114]), hasDict := true, slotNames := [], subclasses := [], abstract := false, collection := none, hasDel := false }), #[]⟩,
  ⟨.type "tuple", none, (.seq #[] 0), #[]⟩,
  ⟨.type "getset_descriptor", none, (.fields #[.str (ucs [95,95,100,105,99,116,95,95]) 207, .ref 15, .builtin "function.__dict__", .builtin "function.__dict__#set"]), #[]⟩,
  ⟨.type "getset_descriptor", none, (.fields #[.str (ucs [95,95,119,101,97,107,114,101,102,95,95]) 209, .ref 15, .builtin "ExceptionGroup.__weakref__", .none]), #[]⟩,
  ⟨.none, none, (.seq #[.int (14) 0, .str (ucs [6,195,10,95,95,109,111,100,117,108,101,95,95,6,192,17,95,102,114,111,122,101,110,95,105,109,112,111,114,116,108,105,98,6,196,15,95,95,102,105,114,115,116,108,105,110,101,110,111,95,95,4,193,0,971,6,197,7,95,95,100,111,99,95,95,9,52,95,102,114,111,122,101,110,95,105,109,112,111,114,116,108,105,98,46,66,117,105,108,116,105,110,73,109,112,111,114,116,101,114,46,95,95,100,111,99,95,95,58,115,116,114,35,111,112,97,113,117,101,6,198,7,95,79,82,73,71,73,78,6,194,8,98,117,105,108,116,45,105,110,6,199,9,102,105,110,100,95,115,112,101,99,9,50,95,102,114,111,122,101,110,95,105,109,112,111,114,116,108,105,98,46,66,117,105,108,116,105,110,73,109,112,111,114,116,101,114,46,102,105,110,100,95,115,112,101,99,35,111,112,97,113,117,101,6,200,13,99,114,101,97,116,101,95,109,111,100,117,108,101,9,54,95,102,114,111,122,101,110,95,105,109,112,111,114,116,108,105,98,46,66,117,105,108,116,105,110,73,109,112,111,114,116,101,114,46,99,114,101,97,116,101,95,109,111,100,117,108,101,35,111,112,97,113,117,101,6,201,11,101,120,101,99,95,109,111,100,117,108,101,9,52,95,102,114,111,122,101,110,95,105,109,112,111,114,116,108,105,98,46,66,117,105,108,116,105,110,73,109,112,111,114,116,101,114,46,101,120,101,99,95,109,111,100,117,108,101,35,111,112,97,113,117,101,6,202,8,103,101,116,95,99,111,100,101,9,49,95,102,114,111,122,101,110,95,105,109,112,111,114,116,108,105,98,46,66,117,105,108,116,105,110,73,109,112,111,114,116,101,114,46,103,101,116,95,99,111,100,101,35,111,112,97,113,117,101,6,203,10,103,101,116,95,115,111,117,114,99,101,9,51,95,102,114,111,122,101,110,95,105,109,112,111,114,116,108,105,98,46,66,117,105,108,116,105,110,73,109,112,111,114,116,101,114,46,103,101,116,95,115,111,117,114,99,101,35,111,112,97,113,117,101,6,204,10,105,115,95,112,97,99,107,97,103,101,9,51,95,102,114,111,122,101,110,95,105,109,112,111,114,116,108,105,98,46,66,117,105,108,116,105,110,73,109,112,111,114,116,101,114,46,105,115,95,112,97,99,107,97,103,101,35,111,112,97,113,117,101,6,205,11,108,111,97,100,95,109,111,100,117,108,101,9,52,95,102,114,111,122,101,110,95,105,109,112,111,114,116,108,105,98,46,66,117,105,108,116,105,110,73,109,112,111,114,116,101,114,46,108,111,97,100,95,109,111,100,117,108,101,35,111,112,97,113,117,101,6,206,21,95,95,115,116,97,116,105,99,95,97,116,116,114,105,98,117,116,101,115,95,95,4,0,0,16,6,208,8,95,95,100,105,99,116,95,95,4,0,0,17,6,210,11,95,95,119,101,97,107,114,101,102,95,95,4,0,0,18]) 0, .bool true, .bool true, .str (ucs []) 211, .int (22) 0, .str (ucs [6,233,10,95,95,109,111,100,117,108,101,95,95,6,223,17,95,102,114,111,122,101,110,95,105,109,112,111,114,116,108,105,98,6,234,15,95,95,102,105,114,115,116,108,105,110,101,110,111,95,95,4,224,0,562,6,235,7,95,95,100,111,99,95,95,9,47,95,102,114,111,122,101,110,95,105,109,112,111,114,116,108,105,98,46,77,111,100,117,108,101,83,112,101,99,46,95,95,100,111,99,95,95,58,115,116,114,35,111,112,97,113,117,101,6,236,8,95,95,105,110,105,116,95,95,9,44,95,102,114,111,122,101,110,95,105,109,112,111,114,116,108,105,98,46,77,111,100,117,108,101,83,112,101,99,46,95,95,105,110,105,116,95,95,35,111,112,97,113,117,101,6,237,8,95,95,114,101,112,114,95,95,9,44,95,102,114,111,122,101,110,95,105,109,112,111,114,116,108,105,98,46,77,111,100,117,108,101,83,112,101,99,46,95,95,114,101,112,114,95,95,35,111,112,97,113,117,101,6,238,6,95,95,101,113,95,95,9,42,95,102,114,111,122,101,110,95,105,109,112,111,114,116,108,105,98,46,77,111,100,117,108,101,83,112,101,99,46,95,95,101,113,95,95,35,111,112,97,113,117,101,6,239,6,99,97,99,104,101,100,9,42,95,102,114,111,122,101,110,95,105,109,112,111,114,116,108,105,98,46,77,111,100,117,108,101,83,112,101,99,46,99,97,99,104,101,100,35,111,112,97,113,117,101,6,240,6,112,97,114,101,110,116,9,42,95,102,114,111,122,101,110,95,105,109,112,111,114,116,108,105,98,46,77,111,100,117,108,101,83,112,101,99,46,112,97,114,101,110,116,35,111,112,97,113,117,101,6,241,12,104,97,115,95,108,111,99,97,116,105,111,110,9,48,95,102,114,111,122,101,110,95,105,109,112,111,114,116,108,105,98,46,77,111,100,117,108,101,83,112,101,99,46,104,97,115,95,108,111,99,97,116,105,111,110,35,111,112,97,113,117,101,6,242,21,95,95,115,116,97,116,105,99,95,97,116,116,114,105,98,117,116,101,115,95,95,4,0,0,24,6,244,8,95,95,100,105,99,116,95,95,4,0,0,25,6,246,11,95,95,119,101,97,107,114,101,102,95,95,4,0,0,26,6,247,8,95,95,104,97,115,104,95,95,0]) 0, .bool true, .bool true, .str (ucs []) 248] 1), #[]⟩,
  ⟨.type "list", none, (.seq #[] 0), #[]⟩,
  ⟨.type "dict", none, (.dict #[⟨PyData.keyHash P (ucs [110,97,109,101]), .str (ucs [110,97,109,101]) 214, .str (ucs [95,111,112,101,114,97,116,111,114]) 213⟩, ⟨PyData.keyHash P (ucs [108,111,97,100,101,114]), .str (ucs [108,111,97,100,101,114]) 215, .ref 15⟩, ⟨PyData.keyHash P (ucs [111,114,105,103,105,110]), .str (ucs [111,114,105,103,105,110]) 216, .str (ucs [98,117,105,108,116,45,105,110]) 190⟩, ⟨PyData.keyHash P (ucs [108,111,97,100,101,114,95,115,116,97,116,101]), .str (ucs [108,111,97,100,101,114,95,115,116,97,116,101]) 217, .none⟩, ⟨PyData.keyHash P (ucs [115,117,98,109,111,100,117,108,101,95,115,101,97,114,99,104,95,108,111,99,97,116,105,111,110,115]), .str (ucs [115,117,98,109,111,100,117,108,101,95,115,101,97,114,99,104,95,108,111,99,97,116,105,111,110,115]) 218, .none⟩, ⟨PyData.keyHash P (ucs [95,117,110,105,110,105,116,105,97,108,105,122,101,100,95,115,117,98,109,111,100,117,108,101,115]), .str (ucs [95,117,110,105,110,105,116,105,97,108,105,122,101,100,95,115,117,98,109,111,100,117,108,101,115]) 219, .ref 20⟩, ⟨PyData.keyHash P (ucs [95,115,101,116,95,102,105,108,101,97,116,116,114]), .str (ucs [95,115,101,116,95,102,105,108,101,97,116,116,114]) 220, .bool false⟩, ⟨PyData.keyHash P (ucs [95,99,97,99,104,101,100]), .str (ucs [95,99,97,99,104,101,100]) 221, .none⟩, ⟨PyData.keyHash P (ucs [95,105,110,105,116,105,97,108,105,122,105,110,103]), .str (ucs [95,105,110,105,116,105,97,108,105,122,105,110,103]) 249, .bool false⟩] 9), #[]⟩,
  ⟨.type "dict", none, (.dict #[⟨PyData.keyHash P (ucs [95,95,109,111,100,117,108,101,95,95]), .str (ucs [95,95,109,111,100,117,108,101,95,95]) 233, .str (ucs [95,102,114,111,122,101,110,95,105,109,112,111,114,116,108,105,98]) 223⟩, ⟨PyData.keyHash P (ucs [95,95,102,105,114,115,116,108,105,110,101,110,111,95,95]), .str (ucs [95,95,102,105,114,115,116,108,105,110,101,110,111,95,95]) 234, .int (562) 224⟩, ⟨PyData.keyHash P (ucs [95,95,100,111,99,95,95]), .str (ucs [95,95,100,111,99,95,95]) 235, .builtin "_frozen_importlib.ModuleSpec.__doc__:str#opaque"⟩, ⟨PyData.keyHash P (ucs [95,95,105,110,105,116,95,95]), .str (ucs [95,95,105,110,105,116,95,95]) 236, .builtin "_frozen_importlib.ModuleSpec.__init__#opaque"⟩, ⟨PyData.keyHash P (ucs [95,95,114,101,112,114,95,95]), .str (ucs [95,95,114,101,112,114,95,95]) 237, .builtin "_frozen_importlib.ModuleSpec.__repr__#opaque"⟩, ⟨PyData.keyHash P (ucs [95,95,101,113,95,95]), .str (ucs [95,95,101,113,95,95]) 238, .builtin "_frozen_importlib.ModuleSpec.__eq__#opaque"⟩, ⟨PyData.keyHash P (ucs [99,97,99,104,101,100]), .str (ucs [99,97,99,104,101,100]) 239, .builtin "_frozen_importlib.ModuleSpec.cached#opaque"⟩, ⟨PyData.keyHash P (ucs [112,97,114,101,110,116]), .str (ucs [112,97,114,101,110,116]) 240, .builtin "_frozen_importlib.ModuleSpec.parent#opaque"⟩, ⟨PyData.keyHash P (ucs [104,97,115,95,108,111,99,97,116,105,111,110]), .str (ucs [104,97,115,95,108,111,99,97,116,105,111,110]) 241, .builtin "_frozen_importlib.ModuleSpec.has_location#opaque"⟩, ⟨PyData.keyHash P (ucs [95,95,115,116,97,116,105,99,95,97,116,116,114,105,98,117,116,101,115,95,95]), .str (ucs [95,95,115,116,97,116,105,99,95,97,116,116,114,105,98,117,116,101,115,95,95]) 242, .ref 24⟩, ⟨PyData.keyHash P (ucs [95,95,100,105,99,116,95,95]), .str (ucs [95,95,100,105,99,116,95,95]) 244, .ref 25⟩, ⟨PyData.keyHash P (ucs [95,95,119,101,97,107,114,101,102,95,95]), .str (ucs [95,95,119,101,97,107,114,101,102,95,95]) 246, .ref 26⟩, ⟨PyData.keyHash P (ucs [95,95,104,97,115,104,95,95]), .str (ucs [95,95,104,97,115,104,95,95]) 247, .none⟩] 13), #[]⟩,
  ⟨.type "type", none, (.cls { name := (ucs [77,111,100,117,108,101,83,112,101,99]), bases := [.type "object"], mro := [.ref 23, .type "object"], ns := 22, qualname := (ucs [77,111,100,117,108,101,83,112,101,99]), hasDict := true, slotNames := [], subclasses := [], abstract := false, collection := none, hasDel := false }), #[]⟩,
  ⟨.type "tuple", none, (.seq #[.str (ucs [95,99,97,99,104,101,100]) 225, .str (ucs [95,115,101,116,95,102,105,108,101,97,116,116,114]) 226, .str (ucs [95,117,110,105,110,105,116,105,97,108,105,122,101,100,95,115,117,98,109,111,100,117,108,101,115]) 227, .str (ucs [108,111,97,100,101,114]) 228, .str (ucs [108,111,97,100,101,114,95,115,116,97,116,101]) 229, .str (ucs [110,97,109,101]) 230, .str (ucs [111,114,105,103,105,110]) 231, .str (ucs [115,117,98,109,111,100,117,108,101,95,115,101,97,114,99,104,95,108,111,99,97,116,105,111,110,115]) 232] 0), #[]⟩,
  ⟨.type "getset_descriptor", none, (.fields #[.str (ucs [95,95,100,105,99,116,95,95]) 243, .ref 23, .builtin "function.__dict__", .builtin "function.__dict__#set"]), #[]⟩,
  ⟨.type "getset_descriptor", none, (.fields #[.str (ucs [95,95,119,101,97,107,114,101,102,95,95]) 245, .ref 23, .builtin "ExceptionGroup.__weakref__", .none]), #[]⟩,
  ⟨.ref 23, (some 21), .plain, #[]⟩,
  ⟨.none, none, (.seq #[.int (12) 0, .str (ucs [6,254,8,95,95,110,97,109,101,95,95,6,253,9,95,111,112,101,114,97,116,111,114,6,255,7,95,95,100,111,99,95,95,9,28,95,111,112,101,114,97,116,111,114,46,95,95,100,111,99,95,95,58,115,116,114,35,111,112,97,113,117,101,6,257,11,95,95,112,97,99,107,97,103,101,95,95,6,256,0,6,258,10,95,95,108,111,97,100,101,114,95,95,4,0,0,15,6,259,8,95,95,115,112,101,99,95,95,4,0,0,27,6,260,5,116,114,117,116,104,9,15,95,111,112,101,114,97,116,111,114,46,116,114,117,116,104,6,261,8,99,111,110,116,97,105,110,115,9,18,95,111,112,101,114,97,116,111,114,46,99,111,110,116,97,105,110,115,6,262,7,105,110,100,101,120,79,102,9,17,95,111,112,101,114,97,116,111,114,46,105,110,100,101,120,79,102,6,263,7,99,111,117,110,116,79,102,9,17,95,111,112,101,114,97,116,111,114,46,99,111,117,110,116,79,102,6,264,3,105,115,95,9,13,95,111,112,101,114,97,116,111,114,46,105,115,95,6,265,6,105,115,95,110,111,116,9,16,95,111,112,101,114,97,116,111,114,46,105,115,95,110,111,116,6,266,5,105,110,100,101,120,9,15,95,111,112,101,114,97,116,111,114,46,105,110,100,101,120,6,267,3,97,100,100,9,13,95,111,112,101,114,97,116,111,114,46,97,100,100,6,268,3,115,117,98,9,13,95,111,112,101,114,97,116,111,114,46,115,117,98,6,269,3,109,117,108,9,13,95,111,112,101,114,97,116,111,114,46,109,117,108,6,270,6,109,97,116,109,117,108,9,16,95,111,112,101,114,97,116,111,114,46,109,97,116,109,117,108,6,271,8,102,108,111,111,114,100,105,118,9,18,95,111,112,101,114,97,116,111,114,46,102,108,111,111,114,100,105,118,6,272,7,116,114,117,101,100,105,118,9,17,95,111,112,101,114,97,116,111,114,46,116,114,117,101,100,105,118,6,273,3,109,111,100,9,13,95,111,112,101,114,97,116,111,114,46,109,111,100,6,274,3,110,101,103,9,13,95,111,112,101,114,97,116,111,114,46,110,101,103,6,275,3,112,111,115,9,13,95,111,112,101,114,97,116,111,114,46,112,111,115,6,276,3,97,98,115,9,13,95,111,112,101,114,97,116,111,114,46,97,98,115,6,277,3,105,110,118,9,13,95,111,112,101,114,97,116,111,114,46,105,110,118,6,278,6,105,110,118,101,114,116,9,16,95,111,112,101,114,97,116,111,114,46,105,110,118,101,114,116,6,279,6,108,115,104,105,102,116,9,16,95,111,112,101,114,97,116,111,114,46,108,115,104,105,102,116,6,280,6,114,115,104,105,102,116,9,16,95,111,112,101,114,97,116,111,114,46,114,115,104,105,102,116,6,281,4,110,111,116,95,9,14,95,111,112,101,114,97,116,111,114,46,110,111,116,95,6,282,4,97,110,100,95,9,14,95,111,112,101,114,97,116,111,114,46,97,110,100,95,6,283,3,120,111,114,9,13,95,111,112,101,114,97,116,111,114,46,120,111,114,6,284,3,111,114,95,9,13,95,111,112,101,114,97,116,111,114,46,111,114,95,6,285,4,105,97,100,100,9,14,95,111,112,101,114,97,116,111,114,46,105,97,100,100,6,286,4,105,115,117,98,9,14,95,111,112,101,114,97,116,111,114,46,105,115,117,98,6,287,4,105,109,117,108,9,14,95,111,112,101,114,97,116,111,114,46,105,109,117,108,6,288,7,105,109,97,116,109,117,108,9,17,95,111,112,101,114,97,116,111,114,46,105,109,97,116,109,117,108,6,289,9,105,102,108,111,111,114,100,105,118,9,19,95,111,112,101,114,97,116,111,114,46,105,102,108,111,111,114,100,105,118,6,290,8,105,116,114,117,101,100,105,118,9,18,95,111,112,101,114,97,116,111,114,46,105,116,114,117,101,100,105,118,6,291,4,105,109,111,100,9,14,95,111,112,101,114,97,116,111,114,46,105,109,111,100,6,292,7,105,108,115,104,105,102,116,9,17,95,111,112,101,114,97,116,111,114,46,105,108,115,104,105,102,116,6,293,7,105,114,115,104,105,102,116,9,17,95,111,112,101,114,97,116,111,114,46,105,114,115,104,105,102,116,6,294,4,105,97,110,100,9,14,95,111,112,101,114,97,116,111,114,46,105,97,110,100,6,295,4,105,120,111,114,9,14,95,111,112,101,114,97,116,111,114,46,105,120,111,114,6,296,3,105,111,114,9,13,95,111,112,101,114,97,116,111,114,46,105,111,114,6,297,6,99,111,110,99,97,116,9,16,95,111,112,101,114,97,116,111,114,46,99,111,110,99,97,116,6,298,7,105,99,111,110,99,97,116,9,17,95,111,112,101,114,97,116,111,114,46,105,99,111,110,99,97,116,6,299,7,103,101,116,105,116,101,109,9,17,95,111,112,101,114,97,116,111,114,46,103,101,116,105,116,101,109,6,300,7,115,101,116,105,116,101,109,9,17,95,111,112,101,114,97,116,111,114,46,115,101,116,105,116,101,109,6,301,7,100,101,108,105,116,101,109,9,17,95,111,112,101,114,97,116,111,114,46,100,101,108,105,116,101,109,6,302,3,112,111,119,9,13,95,111,112,101,114,97,116,111,114,46,112,111,119,6,303,4,105,112,111,119,9,14,95,111,112,101,114,97,116,111,114,46,105,112,111,119,6,304,2,101,113,9,12,95,111,112,101,114,97,116,111,114,46,101,113,6,305,2,110,101,9,12,95,111,112,101,114,97,116,111,114,46,110,101,6,306,2,108,116,9,12,95,111,112,101,114,97,116,111,114,46,108,116,6,307,2,108,101,9,12,95,111,112,101,114,97,116,111,114,46,108,101,6,308,2,103,116,9,12,95,111,112,101,114,97,116,111,114,46,103,116,6,309,2,103,101,9,12,95,111,112,101,114,97,116,111,114,46,103,101,6,310,15,95,99,111,109,112,97,114,101,95,100,105,103,101,115,116,9,25,95,111,112,101,114,97,116,111,114,46,95,99,111,109,112,97,114,101,95,100,105,103,101,115,116,6,311,11,108,101,110,103,116,104,95,104,105,110,116,9,21,95,111,112,101,114,97,116,111,114,46,108,101,110,103,116,104,95,104,105,110,116,6,312,4,99,97,108,108,9,14,95,111,112,101,114,97,116,111,114,46,99,97,108,108,6,313,10,97,116,116,114,103,101,116,116,101,114,8,19,111,112,101,114,97,116,111,114,46,97,116,116,114,103,101,116,116,101,114,6,314,10,105,116,101,109,103,101,116,116,101,114,8,19,111,112,101,114,97,116,111,114,46,105,116,101,109,103,101,116,116,101,114,6,315,12,109,101,116,104,111,100,99,97,108,108,101,114,8,21,111,112,101,114,97,116,111,114,46,109,101,116,104,111,100,99,97,108,108,101,114]) 0, .bool true, .bool false, .str (ucs [95,111,112,101,114,97,116,111,114]) 317] 0), #[]⟩,
  ⟨.type "tuple", none, (.seq #[] 0), #[]⟩,
  ⟨.none, none, (.fields #[.int (2) 0, .int (0) 0, .ref 38, .int (6) 0, .int (0) 0, .ref 45, .int (11) 0, .int (0) 0, .ref 53, .int (13) 0, .int (0) 0, .ref 60, .int (17) 0, .int (0) 0, .ref 68, .int (208) 0, .int (0) 0, .ref 326, .int (212) 0, .int (0) 0, .ref 331]), #[]⟩,
  ⟨.type "code", none, (.fields #[.str (ucs [60,109,111,100,117,108,101,62]) 339, .str (ucs [60,109,111,100,117,108,101,62]) 340, .str (ucs [47,99,108,97,105,109,47,99,117,116,46,112,121]) 341, .int (1) 0, .int (0) 0, .int (0) 0, .int (0) 0, .int (0) 0, .ref 29, .bool false, .int (338) 0, .ref 30, .none, .none, .none, .none, .int (342) 0, .int (1) 0, .str (ucs [47,99,108,97,105,109,47,99,117,116,46,112,121]) 343]), #[]⟩,
  ⟨.type "frame", none, .plain, #[(some (.ref 31)), (some (.ref 3)), (some (.ref 3)), none, (some (.str (ucs [95,95,109,97,105,110,95,95]) 164)), none, (some (.ref 0))]⟩,
  ⟨.type "tuple", none, (.seq #[] 0), #[]⟩,
  ⟨.none, none, (.fields #[]), #[]⟩,
  ⟨.type "tuple", none, (.seq #[.str (ucs [107]) 347] 0), #[]⟩,
  ⟨.type "tuple", none, (.seq #[] 0), #[]⟩,
  ⟨.none, none, (.func { fnD (nth (body0) 1) (ucs [95,119,97,108,108]) [] .none .none .none none .none .none with globals := 0 }), #[]⟩,
  ⟨.type "code", none, (.fields #[.str (ucs [95,119,97,108,108]) 344, .str (ucs [95,119,97,108,108]) 345, .str (ucs [47,99,108,97,105,109,47,99,117,116,46,112,121]) 346, .int (2) 0, .int (1) 0, .int (0) 0, .int (0) 0, .int (3) 0, .ref 33, .bool true, .int (338) 0, .ref 34, .none, .ref 35, .ref 36, .ref 37, .int (348) 0, .int (2) 0, .str (ucs [47,99,108,97,105,109,47,99,117,116,46,112,121]) 349]), #[]⟩,
  ⟨.type "function", none, (.func (fnD (nth (body0) 1) (ucs [95,119,97,108,108]) [] .none .none (.str (ucs [95,95,109,97,105,110,95,95]) 164) none (.ref 38) .none)), #[]⟩,
  ⟨.type "tuple", none, (.seq #[] 0), #[]⟩,
  ⟨.none, none, (.fields #[]), #[]⟩,
  ⟨.type "tuple", none, (.seq #[.str (ucs [118,97,108]) 356] 0), #[]⟩,
  ⟨.type "tuple", none, (.seq #[] 0), #[]⟩,
  ⟨.none, none, (.func { fnD (nth (body0) 3) (ucs [95,98,105,116,99,111,117,110,116]) [] .none .none .none none .none .none with globals := 0 }), #[]⟩,
  ⟨.type "code", none, (.fields #[.str (ucs [95,98,105,116,99,111,117,110,116]) 353, .str (ucs [95,98,105,116,99,111,117,110,116]) 354, .str (ucs [47,99,108,97,105,109,47,99,117,116,46,112,121]) 355, .int (6) 0, .int (1) 0, .int (0) 0, .int (0) 0, .int (3) 0, .ref 40, .bool true, .int (338) 0, .ref 41, .none, .ref 42, .ref 43, .ref 44, .int (357) 0, .int (6) 0, .str (ucs [47,99,108,97,105,109,47,99,117,116,46,112,121]) 358]), #[]⟩,
  ⟨.type "function", none, (.func (fnD (nth (body0) 3) (ucs [95,98,105,116,99,111,117,110,116]) [] .none .none (.str (ucs [112,121,114,115,105,115,116,101,110,116,46,95,112,118,101,99,116,111,114]) 351) none (.ref 45) .none)), #[]⟩,
  ⟨.type "frame", none, (.dict #[⟨PyData.keyHash P (ucs [118,97,108]), .str (ucs [118,97,108]) 365, .int (31) 363⟩] 1), #[]⟩,
  ⟨.type "tuple", none, (.seq #[] 0), #[]⟩,
  ⟨.none, none, (.fields #[]), #[]⟩,
  ⟨.type "tuple", none, (.seq #[.str (ucs [118]) 373, .str (ucs [111,116,104,101,114]) 374, .str (ucs [111,112,101,114,97,116,111,114]) 375] 0), #[]⟩,
  ⟨.type "tuple", none, (.seq #[] 0), #[]⟩,
  ⟨.none, none, (.func { fnD (nth (body0) 7) (ucs [99,111,109,112,97,114,101,95,112,118,101,99,116,111,114]) [] .none .none .none none .none .none with globals := 0 }), #[]⟩,
  ⟨.type "code", none, (.fields #[.str (ucs [99,111,109,112,97,114,101,95,112,118,101,99,116,111,114]) 370, .str (ucs [99,111,109,112,97,114,101,95,112,118,101,99,116,111,114]) 371, .str (ucs [47,99,108,97,105,109,47,99,117,116,46,112,121]) 372, .int (11) 0, .int (3) 0, .int (0) 0, .int (0) 0, .int (3) 0, .ref 48, .bool true, .int (338) 0, .ref 49, .none, .ref 50, .ref 51, .ref 52, .int (376) 0, .int (11) 0, .str (ucs [47,99,108,97,105,109,47,99,117,116,46,112,121]) 377]), #[]⟩,
  ⟨.type "function", none, (.func (fnD (nth (body0) 7) (ucs [99,111,109,112,97,114,101,95,112,118,101,99,116,111,114]) [] .none .none (.str (ucs [112,121,114,115,105,115,116,101,110,116,46,95,112,118,101,99,116,111,114]) 351) none (.ref 53) .none)), #[]⟩,
  ⟨.type "tuple", none, (.seq #[] 0), #[]⟩,
  ⟨.none, none, (.fields #[]), #[]⟩,
  ⟨.type "tuple", none, (.seq #[.str (ucs [105,110,100,101,120]) 382, .str (ucs [115,116,111,112]) 383] 0), #[]⟩,
  ⟨.type "tuple", none, (.seq #[] 0), #[]⟩,
  ⟨.none, none, (.func { fnD (nth (body0) 8) (ucs [95,105,110,100,101,120,95,111,114,95,115,108,105,99,101]) [] .none .none .none none .none .none with globals := 0 }), #[]⟩,
  ⟨.type "code", none, (.fields #[.str (ucs [95,105,110,100,101,120,95,111,114,95,115,108,105,99,101]) 379, .str (ucs [95,105,110,100,101,120,95,111,114,95,115,108,105,99,101]) 380, .str (ucs [47,99,108,97,105,109,47,99,117,116,46,112,121]) 381, .int (13) 0, .int (2) 0, .int (0) 0, .int (0) 0, .int (3) 0, .ref 55, .bool true, .int (338) 0, .ref 56, .none, .ref 57, .ref 58, .ref 59, .int (384) 0, .int (13) 0, .str (ucs [47,99,108,97,105,109,47,99,117,116,46,112,121]) 385]), #[]⟩,
  ⟨.type "function", none, (.func (fnD (nth (body0) 8) (ucs [95,105,110,100,101,120,95,111,114,95,115,108,105,99,101]) [] .none .none (.str (ucs [112,121,114,115,105,115,116,101,110,116,46,95,112,118,101,99,116,111,114]) 351) none (.ref 60) .none)), #[]⟩,
  ⟨.type "tuple", none, (.seq #[.type "object"] 0), #[]⟩,
  ⟨.type "builtin_function_or_method", none, (.fields #[.builtin "type.__prepare__", .type "type"]), #[]⟩,
  ⟨.type "dict", none, (.dict #[⟨PyData.keyHash P (ucs [95,95,109,111,100,117,108,101,95,95]), .str (ucs [95,95,109,111,100,117,108,101,95,95]) 394, .str (ucs [112,121,114,115,105,115,116,101,110,116,46,95,112,118,101,99,116,111,114]) 351⟩, ⟨PyData.keyHash P (ucs [95,95,113,117,97,108,110,97,109,101,95,95]), .str (ucs [95,95,113,117,97,108,110,97,109,101,95,95]) 396, .str (ucs [80,121,116,104,111,110,80,86,101,99,116,111,114]) 395⟩, ⟨PyData.keyHash P (ucs [95,95,102,105,114,115,116,108,105,110,101,110,111,95,95]), .str (ucs [95,95,102,105,114,115,116,108,105,110,101,110,111,95,95]) 398, .int (17) 397⟩, ⟨PyData.keyHash P (ucs [95,95,115,108,111,116,115,95,95]), .str (ucs [95,95,115,108,111,116,115,95,95]) 405, .ref 70⟩, ⟨PyData.keyHash P (ucs [95,95,110,101,119,95,95]), .str (ucs [95,95,110,101,119,95,95]) 418, .ref 78⟩, ⟨PyData.keyHash P (ucs [95,95,108,101,110,95,95]), .str (ucs [95,95,108,101,110,95,95]) 425, .ref 85⟩, ⟨PyData.keyHash P (ucs [95,95,103,101,116,105,116,101,109,95,95]), .str (ucs [95,95,103,101,116,105,116,101,109,95,95]) 433, .ref 92⟩, ⟨PyData.keyHash P (ucs [95,95,97,100,100,95,95]), .str (ucs [95,95,97,100,100,95,95]) 441, .ref 99⟩, ⟨PyData.keyHash P (ucs [95,95,114,101,112,114,95,95]), .str (ucs [95,95,114,101,112,114,95,95]) 448, .ref 106⟩, ⟨PyData.keyHash P (ucs [95,95,115,116,114,95,95]), .str (ucs [95,95,115,116,114,95,95]) 455, .ref 113⟩, ⟨PyData.keyHash P (ucs [95,95,105,116,101,114,95,95]), .str (ucs [95,95,105,116,101,114,95,95]) 462, .ref 120⟩, ⟨PyData.keyHash P (ucs [95,95,110,101,95,95]), .str (ucs [95,95,110,101,95,95]) 470, .ref 127⟩, ⟨PyData.keyHash P (ucs [95,95,101,113,95,95]), .str (ucs [95,95,101,113,95,95]) 478, .ref 134⟩, ⟨PyData.keyHash P (ucs [95,95,103,116,95,95]), .str (ucs [95,95,103,116,95,95]) 486, .ref 141⟩, ⟨PyData.keyHash P (ucs [95,95,108,116,95,95]), .str (ucs [95,95,108,116,95,95]) 494, .ref 148⟩, ⟨PyData.keyHash P (ucs [95,95,103,101,95,95]), .str (ucs [95,95,103,101,95,95]) 502, .ref 155⟩, ⟨PyData.keyHash P (ucs [95,95,108,101,95,95]), .str (ucs [95,95,108,101,95,95]) 510, .ref 162⟩, ⟨PyData.keyHash P (ucs [95,95,109,117,108,95,95]), .str (ucs [95,95,109,117,108,95,95]) 518, .ref 169⟩, ⟨PyData.keyHash P (ucs [95,95,114,109,117,108,95,95]), .str (ucs [95,95,114,109,117,108,95,95]) 519, .ref 169⟩, ⟨PyData.keyHash P (ucs [95,102,105,108,108,95,108,105,115,116]), .str (ucs [95,102,105,108,108,95,108,105,115,116]) 530, .ref 176⟩, ⟨PyData.keyHash P (ucs [116,111,108,105,115,116]), .str (ucs [116,111,108,105,115,116]) 538, .ref 183⟩, ⟨PyData.keyHash P (ucs [95,116,111,116,117,112,108,101]), .str (ucs [95,116,111,116,117,112,108,101]) 545, .ref 190⟩, ⟨PyData.keyHash P (ucs [115,101,116]), .str (ucs [115,101,116]) 555, .ref 197⟩, ⟨PyData.keyHash P (ucs [95,100,111,95,115,101,116]), .str (ucs [95,100,111,95,115,101,116]) 568, .ref 204⟩, ⟨PyData.keyHash P (ucs [95,110,111,100,101,95,102,111,114]), .str (ucs [95,110,111,100,101,95,102,111,114]) 590, .ref 213⟩, ⟨PyData.keyHash P (ucs [95,99,114,101,97,116,101,95,110,101,119,95,114,111,111,116]), .str (ucs [95,99,114,101,97,116,101,95,110,101,119,95,114,111,111,116]) 599, .ref 221⟩, ⟨PyData.keyHash P (ucs [97,112,112,101,110,100]), .str (ucs [97,112,112,101,110,100]) 610, .ref 228⟩, ⟨PyData.keyHash P (ucs [95,110,101,119,95,112,97,116,104]), .str (ucs [95,110,101,119,95,112,97,116,104]) 619, .ref 235⟩, ⟨PyData.keyHash P (ucs [95,109,117,116,97,116,105,110,103,95,105,110,115,101,114,116,95,116,97,105,108]), .str (ucs [95,109,117,116,97,116,105,110,103,95,105,110,115,101,114,116,95,116,97,105,108]) 626, .ref 242⟩, ⟨PyData.keyHash P (ucs [95,109,117,116,97,116,105,110,103,95,102,105,108,108,95,116,97,105,108]), .str (ucs [95,109,117,116,97,116,105,110,103,95,102,105,108,108,95,116,97,105,108]) 638, .ref 249⟩, ⟨PyData.keyHash P (ucs [95,109,117,116,97,116,105,110,103,95,101,120,116,101,110,100]), .str (ucs [95,109,117,116,97,116,105,110,103,95,101,120,116,101,110,100]) 648, .ref 256⟩, ⟨PyData.keyHash P (ucs [101,120,116,101,110,100]), .str (ucs [101,120,116,101,110,100]) 658, .ref 263⟩, ⟨PyData.keyHash P (ucs [95,112,117,115,104,95,116,97,105,108]), .str (ucs [95,112,117,115,104,95,116,97,105,108]) 670, .ref 270⟩, ⟨PyData.keyHash P (ucs [105,110,100,101,120]), .str (ucs [105,110,100,101,120]) 680, .ref 277⟩, ⟨PyData.keyHash P (ucs [99,111,117,110,116]), .str (ucs [99,111,117,110,116]) 688, .ref 284⟩, ⟨PyData.keyHash P (ucs [100,101,108,101,116,101]), .str (ucs [100,101,108,101,116,101]) 698, .ref 292⟩, ⟨PyData.keyHash P (ucs [114,101,109,111,118,101]), .str (ucs [114,101,109,111,118,101]) 706, .ref 299⟩, ⟨PyData.keyHash P (ucs [95,95,115,116,97,116,105,99,95,97,116,116,114,105,98,117,116,101,115,95,95]), .str (ucs [95,95,115,116,97,116,105,99,95,97,116,116,114,105,98,117,116,101,115,95,95]) 712, .ref 300⟩, ⟨PyData.keyHash P (ucs [95,95,99,108,97,115,115,99,101,108,108,95,95]), .str (ucs [95,95,99,108,97,115,115,99,101,108,108,95,95]) 713, .ref 65⟩] 39), #[]⟩,
  ⟨.type "cell", none, (.cell (some (.ref 303))), #[]⟩,
  ⟨.type "tuple", none, (.seq #[] 0), #[]⟩,
  ⟨.none, none, (.fields #[.int (20) 0, .int (4) 0, .ref 77, .int (29) 0, .int (4) 0, .ref 84, .int (32) 0, .int (4) 0, .ref 91, .int (41) 0, .int (4) 0, .ref 98, .int (44) 0, .int (4) 0, .ref 105, .int (47) 0, .int (4) 0, .ref 112, .int (50) 0, .int (4) 0, .ref 119, .int (53) 0, .int (4) 0, .ref 126, .int (56) 0, .int (4) 0, .ref 133, .int (59) 0, .int (4) 0, .ref 140, .int (62) 0, .int (4) 0, .ref 147, .int (65) 0, .int (4) 0, .ref 154, .int (68) 0, .int (4) 0, .ref 161, .int (71) 0, .int (4) 0, .ref 168, .int (79) 0, .int (4) 0, .ref 175, .int (87) 0, .int (4) 0, .ref 182, .int (93) 0, .int (4) 0, .ref 189, .int (96) 0, .int (4) 0, .ref 196, .int (111) 0, .int (4) 0, .ref 203, .int (121) 0, .int (4) 0, .ref 210, .int (131) 0, .int (4) 0, .ref 220, .int (140) 0, .int (4) 0, .ref 227, .int (148) 0, .int (4) 0, .ref 234, .int (153) 0, .int (4) 0, .ref 241, .int (157) 0, .int (4) 0, .ref 248, .int (165) 0, .int (4) 0, .ref 255, .int (174) 0, .int (4) 0, .ref 262, .int (182) 0, .int (4) 0, .ref 269, .int (194) 0, .int (4) 0, .ref 276, .int (197) 0, .int (4) 0, .ref 283, .int (200) 0, .int (4) 0, .ref 291, .int (205) 0, .int (4) 0, .ref 298]), #[]⟩,
  ⟨.type "code", none, (.fields #[.str (ucs [80,121,116,104,111,110,80,86,101,99,116,111,114]) 389, .str (ucs [80,121,116,104,111,110,80,86,101,99,116,111,114]) 390, .str (ucs [47,99,108,97,105,109,47,99,117,116,46,112,121]) 391, .int (17) 0, .int (0) 0, .int (0) 0, .int (0) 0, .int (0) 0, .ref 66, .bool false, .int (338) 0, .ref 67, .none, .none, .none, .none, .int (392) 0, .int (17) 0, .str (ucs [47,99,108,97,105,109,47,99,117,116,46,112,121]) 393]), #[]⟩,
  ⟨.type "frame", none, .plain, #[(some (.ref 68)), (some (.ref 3)), (some (.ref 64)), none, (some (.str (ucs [112,121,114,115,105,115,116,101,110,116,46,95,112,118,101,99,116,111,114]) 351)), none, (some (.ref 0))]⟩,
  ⟨.type "tuple", none, (.seq #[.str (ucs [95,99,111,117,110,116]) 399, .str (ucs [95,115,104,105,102,116]) 400, .str (ucs [95,114,111,111,116]) 401, .str (ucs [95,116,97,105,108]) 402, .str (ucs [95,116,97,105,108,95,111,102,102,115,101,116]) 403, .str (ucs [95,95,119,101,97,107,114,101,102,95,95]) 404] 0), #[]⟩,
  ⟨.type "tuple", none, (.seq #[.ref 65] 0), #[]⟩,
  ⟨.type "tuple", none, (.seq #[.str (ucs [95,95,99,108,97,115,115,95,95]) 409] 0), #[]⟩,
  ⟨.none, none, (.fields #[]), #[]⟩,
  ⟨.type "tuple", none, (.seq #[.str (ucs [99,108,115]) 410, .str (ucs [99,111,117,110,116]) 411, .str (ucs [115,104,105,102,116]) 412, .str (ucs [114,111,111,116]) 413, .str (ucs [116,97,105,108]) 414, .str (ucs [115,101,108,102]) 415] 0), #[]⟩,
  ⟨.type "tuple", none, (.seq #[] 0), #[]⟩,
  ⟨.none, none, (.func { fnD (nth clsBody 1) (ucs [80,121,116,104,111,110,80,86,101,99,116,111,114,46,95,95,110,101,119,95,95]) [] .none .none .none none .none .none with globals := 0 }), #[]⟩,
  ⟨.type "code", none, (.fields #[.str (ucs [95,95,110,101,119,95,95]) 406, .str (ucs [80,121,116,104,111,110,80,86,101,99,116,111,114,46,95,95,110,101,119,95,95]) 407, .str (ucs [47,99,108,97,105,109,47,99,117,116,46,112,121]) 408, .int (20) 0, .int (5) 0, .int (0) 0, .int (0) 0, .int (3) 0, .ref 72, .bool true, .int (338) 0, .ref 73, .none, .ref 74, .ref 75, .ref 76, .int (416) 0, .int (20) 0, .str (ucs [47,99,108,97,105,109,47,99,117,116,46,112,121]) 417]), #[]⟩,
  ⟨.type "function", none, (.func (fnD (nth clsBody 1) (ucs [80,121,116,104,111,110,80,86,101,99,116,111,114,46,95,95,110,101,119,95,95]) [((ucs [95,95,99,108,97,115,115,95,95]), 65)] .none .none (.str (ucs [112,121,114,115,105,115,116,101,110,116,46,95,112,118,101,99,116,111,114]) 351) none (.ref 77) (.ref 71))), #[]⟩,
  ⟨.type "tuple", none, (.seq #[] 0), #[]⟩,
  ⟨.none, none, (.fields #[]), #[]⟩,
  ⟨.type "tuple", none, (.seq #[.str (ucs [115,101,108,102]) 422] 0), #[]⟩,
  ⟨.type "tuple", none, (.seq #[] 0), #[]⟩,
  ⟨.none, none, (.func { fnD (nth clsBody 2) (ucs [80,121,116,104,111,110,80,86,101,99,116,111,114,46,95,95,108,101,110,95,95]) [] .none .none .none none .none .none with globals := 0 }), #[]⟩,
  ⟨.type "code", none, (.fields #[.str (ucs [95,95,108,101,110,95,95]) 419, .str (ucs [80,121,116,104,111,110,80,86,101,99,116,111,114,46,95,95,108,101,110,95,95]) 420, .str (ucs [47,99,108,97,105,109,47,99,117,116,46,112,121]) 421, .int (29) 0, .int (1) 0, .int (0) 0, .int (0) 0, .int (3) 0, .ref 79, .bool true, .int (338) 0, .ref 80, .none, .ref 81, .ref 82, .ref 83, .int (423) 0, .int (29) 0, .str (ucs [47,99,108,97,105,109,47,99,117,116,46,112,121]) 424]), #[]⟩,
  ⟨.type "function", none, (.func (fnD (nth clsBody 2) (ucs [80,121,116,104,111,110,80,86,101,99,116,111,114,46,95,95,108,101,110,95,95]) [] .none .none (.str (ucs [112,121,114,115,105,115,116,101,110,116,46,95,112,118,101,99,116,111,114]) 351) none (.ref 84) .none)), #[]⟩,
  ⟨.type "tuple", none, (.seq #[] 0), #[]⟩,
  ⟨.none, none, (.fields #[]), #[]⟩,
  ⟨.type "tuple", none, (.seq #[.str (ucs [115,101,108,102]) 429, .str (ucs [105,110,100,101,120]) 430] 0), #[]⟩,
  ⟨.type "tuple", none, (.seq #[] 0), #[]⟩,
  ⟨.none, none, (.func { fnD (nth clsBody 3) (ucs [80,121,116,104,111,110,80,86,101,99,116,111,114,46,95,95,103,101,116,105,116,101,109,95,95]) [] .none .none .none none .none .none with globals := 0 }), #[]⟩,
  ⟨.type "code", none, (.fields #[.str (ucs [95,95,103,101,116,105,116,101,109,95,95]) 426, .str (ucs [80,121,116,104,111,110,80,86,101,99,116,111,114,46,95,95,103,101,116,105,116,101,109,95,95]) 427, .str (ucs [47,99,108,97,105,109,47,99,117,116,46,112,121]) 428, .int (32) 0, .int (2) 0, .int (0) 0, .int (0) 0, .int (3) 0, .ref 86, .bool true, .int (338) 0, .ref 87, .none, .ref 88, .ref 89, .ref 90, .int (431) 0, .int (32) 0, .str (ucs [47,99,108,97,105,109,47,99,117,116,46,112,121]) 432]), #[]⟩,
  ⟨.type "function", none, (.func (fnD (nth clsBody 3) (ucs [80,121,116,104,111,110,80,86,101,99,116,111,114,46,95,95,103,101,116,105,116,101,109,95,95]) [] .none .none (.str (ucs [112,121,114,115,105,115,116,101,110,116,46,95,112,118,101,99,116,111,114]) 351) none (.ref 91) .none)), #[]⟩,
  ⟨.type "tuple", none, (.seq #[] 0), #[]⟩,
  ⟨.none, none, (.fields #[]), #[]⟩,
  ⟨.type "tuple", none, (.seq #[.str (ucs [115,101,108,102]) 437, .str (ucs [111,116,104,101,114]) 438] 0), #[]⟩,
  ⟨.type "tuple", none, (.seq #[] 0), #[]⟩,
  ⟨.none, none, (.func { fnD (nth clsBody 4) (ucs [80,121,116,104,111,110,80,86,101,99,116,111,114,46,95,95,97,100,100,95,95]) [] .none .none .none none .none .none with globals := 0 }), #[]⟩,
  ⟨.type "code", none, (.fields #[.str (ucs [95,95,97,100,100,95,95]) 434, .str (ucs [80,121,116,104,111,110,80,86,101,99,116,111,114,46,95,95,97,100,100,95,95]) 435, .str (ucs [47,99,108,97,105,109,47,99,117,116,46,112,121]) 436, .int (41) 0, .int (2) 0, .int (0) 0, .int (0) 0, .int (3) 0, .ref 93, .bool true, .int (338) 0, .ref 94, .none, .ref 95, .ref 96, .ref 97, .int (439) 0, .int (41) 0, .str (ucs [47,99,108,97,105,109,47,99,117,116,46,112,121]) 440]), #[]⟩,
  ⟨.type "function", none, (.func (fnD (nth clsBody 4) (ucs [80,121,116,104,111,110,80,86,101,99,116,111,114,46,95,95,97,100,100,95,95]) [] .none .none (.str (ucs [112,121,114,115,105,115,116,101,110,116,46,95,112,118,101,99,116,111,114]) 351) none (.ref 98) .none)), #[]⟩,
  ⟨.type "tuple", none, (.seq #[] 0), #[]⟩,
  ⟨.none, none, (.fields #[]), #[]⟩,
  ⟨.type "tuple", none, (.seq #[.str (ucs [115,101,108,102]) 445] 0), #[]⟩,
  ⟨.type "tuple", none, (.seq #[] 0), #[]⟩,
  ⟨.none, none, (.func { fnD (nth clsBody 5) (ucs [80,121,116,104,111,110,80,86,101,99,116,111,114,46,95,95,114,101,112,114,95,95]) [] .none .none .none none .none .none with globals := 0 }), #[]⟩,
  ⟨.type "code", none, (.fields #[.str (ucs [95,95,114,101,112,114,95,95]) 442, .str (ucs [80,121,116,104,111,110,80,86,101,99,116,111,114,46,95,95,114,101,112,114,95,95]) 443, .str (ucs [47,99,108,97,105,109,47,99,117,116,46,112,121]) 444, .int (44) 0, .int (1) 0, .int (0) 0, .int (0) 0, .int (3) 0, .ref 100, .bool true, .int (338) 0, .ref 101, .none, .ref 102, .ref 103, .ref 104, .int (446) 0, .int (44) 0, .str (ucs [47,99,108,97,105,109,47,99,117,116,46,112,121]) 447]), #[]⟩,
  ⟨.type "function", none, (.func (fnD (nth clsBody 5) (ucs [80,121,116,104,111,110,80,86,101,99,116,111,114,46,95,95,114,101,112,114,95,95]) [] .none .none (.str (ucs [112,121,114,115,105,115,116,101,110,116,46,95,112,118,101,99,116,111,114]) 351) none (.ref 105) .none)), #[]⟩,
  ⟨.type "tuple", none, (.seq #[] 0), #[]⟩,
  ⟨.none, none, (.fields #[]), #[]⟩,
  ⟨.type "tuple", none, (.seq #[.str (ucs [115,101,108,102]) 452] 0), #[]⟩,
  ⟨.type "tuple", none, (.seq #[] 0), #[]⟩,
  ⟨.none, none, (.func { fnD (nth clsBody 6) (ucs [80,121,116,104,111,110,80,86,101,99,116,111,114,46,95,95,115,116,114,95,95]) [] .none .none .none none .none .none with globals := 0 }), #[]⟩,
  ⟨.type "code", none, (.fields #[.str (ucs [95,95,115,116,114,95,95]) 449, .str (ucs [80,121,116,104,111,110,80,86,101,99,116,111,114,46,95,95,115,116,114,95,95]) 450, .str (ucs [47,99,108,97,105,109,47,99,117,116,46,112,121]) 451, .int (47) 0, .int (1) 0, .int (0) 0, .int (0) 0, .int (3) 0, .ref 107, .bool true, .int (338) 0, .ref 108, .none, .ref 109, .ref 110, .ref 111, .int (453) 0, .int (47) 0, .str (ucs [47,99,108,97,105,109,47,99,117,116,46,112,121]) 454]), #[]⟩,
  ⟨.type "function", none, (.func (fnD (nth clsBody 6) (ucs [80,121,116,104,111,110,80,86,101,99,116,111,114,46,95,95,115,116,114,95,95]) [] .none .none (.str (ucs [112,121,114,115,105,115,116,101,110,116,46,95,112,118,101,99,116,111,114]) 351) none (.ref 112) .none)), #[]⟩,
  ⟨.type "tuple", none, (.seq #[] 0), #[]⟩,
  ⟨.none, none, (.fields #[]), #[]⟩,
  ⟨.type "tuple", none, (.seq #[.str (ucs [115,101,108,102]) 459] 0), #[]⟩,
  ⟨.type "tuple", none, (.seq #[] 0), #[]⟩,
  ⟨.none, none, (.func { fnD (nth clsBody 7) (ucs [80,121,116,104,111,110,80,86,101,99,116,111,114,46,95,95,105,116,101,114,95,95]) [] .none .none .none none .none .none with globals := 0 }), #[]⟩,
  ⟨.type "code", none, (.fields #[.str (ucs [95,95,105,116,101,114,95,95]) 456, .str (ucs [80,121,116,104,111,110,80,86,101,99,116,111,114,46,95,95,105,116,101,114,95,95]) 457, .str (ucs [47,99,108,97,105,109,47,99,117,116,46,112,121]) 458, .int (50) 0, .int (1) 0, .int (0) 0, .int (0) 0, .int (3) 0, .ref 114, .bool true, .int (338) 0, .ref 115, .none, .ref 116, .ref 117, .ref 118, .int (460) 0, .int (50) 0, .str (ucs [47,99,108,97,105,109,47,99,117,116,46,112,121]) 461]), #[]⟩,
  ⟨.type "function", none, (.func (fnD (nth clsBody 7) (ucs [80,121,116,104,111,110,80,86,101,99,116,111,114,46,95,95,105,116,101,114,95,95]) [] .none .none (.str (ucs [112,121,114,115,105,115,116,101,110,116,46,95,112,118,101,99,116,111,114]) 351) none (.ref 119) .none)), #[]⟩,
  ⟨.type "tuple", none, (.seq #[] 0), #[]⟩,
  ⟨.none, none, (.fields #[]), #[]⟩,
  ⟨.type "tuple", none, (.seq #[.str (ucs [115,101,108,102]) 466, .str (ucs [111,116,104,101,114]) 467] 0), #[]⟩,
  ⟨.type "tuple", none, (.seq #[] 0), #[]⟩,
  ⟨.none, none, (.func { fnD (nth clsBody 8) (ucs [80,121,116,104,111,110,80,86,101,99,116,111,114,46,95,95,110,101,95,95]) [] .none .none .none none .none .none with globals := 0 }), #[]⟩,
  ⟨.type "code", none, (.fields #[.str (ucs [95,95,110,101,95,95]) 463, .str (ucs [80,121,116,104,111,110,80,86,101,99,116,111,114,46,95,95,110,101,95,95]) 464, .str (ucs [47,99,108,97,105,109,47,99,117,116,46,112,121]) 465, .int (53) 0, .int (2) 0, .int (0) 0, .int (0) 0, .int (3) 0, .ref 121, .bool true, .int (338) 0, .ref 122, .none, .ref 123, .ref 124, .ref 125, .int (468) 0, .int (53) 0, .str (ucs [47,99,108,97,105,109,47,99,117,116,46,112,121]) 469]), #[]⟩,
  ⟨.type "function", none, (.func (fnD (nth clsBody 8) (ucs [80,121,116,104,111,110,80,86,101,99,116,111,114,46,95,95,110,101,95,95]) [] .none .none (.str (ucs [112,121,114,115,105,115,116,101,110,116,46,95,112,118,101,99,116,111,114]) 351) none (.ref 126) .none)), #[]⟩,
  ⟨.type "tuple", none, (.seq #[] 0), #[]⟩,
  ⟨.none, none, (.fields #[]), #[]⟩,
  ⟨.type "tuple", none, (.seq #[.str (ucs [115,101,108,102]) 474, .str (ucs [111,116,104,101,114]) 475] 0), #[]⟩,
  ⟨.type "tuple", none, (.seq #[] 0), #[]⟩,
  ⟨.none, none, (.func { fnD (nth clsBody 9) (ucs [80,121,116,104,111,110,80,86,101,99,116,111,114,46,95,95,101,113,95,95]) [] .none .none .none none .none .none with globals := 0 }), #[]⟩,
  ⟨.type "code", none, (.fields #[.str (ucs [95,95,101,113,95,95]) 471, .str (ucs [80,121,116,104,111,110,80,86,101,99,116,111,114,46,95,95,101,113,95,95]) 472, .str (ucs [47,99,108,97,105,109,47,99,117,116,46,112,121]) 473, .int (56) 0, .int (2) 0, .int (0) 0, .int (0) 0, .int (3) 0, .ref 128, .bool true, .int (338) 0, .ref 129, .none, .ref 130, .ref 131, .ref 132, .int (476) 0, .int (56) 0, .str (ucs [47,99,108,97,105,109,47,99,117,116,46,112,121]) 477]), #[]⟩,
  ⟨.type "function", none, (.func (fnD (nth clsBody 9) (ucs [80,121,116,104,111,110,80,86,101,99,116,111,114,46,95,95,101,113,95,95]) [] .none .none (.str (ucs [112,121,114,115,105,115,116,101,110,116,46,95,112,118,101,99,116,111,114]) 351) none (.ref 133) .none)), #[]⟩,
  ⟨.type "tuple", none, (.seq #[] 0), #[]⟩,
  ⟨.none, none, (.fields #[]), #[]⟩,
  ⟨.type "tuple", none, (.seq #[.str (ucs [115,101,108,102]) 482, .str (ucs [111,116,104,101,114]) 483] 0), #[]⟩,
  ⟨.type "tuple", none, (.seq #[] 0), #[]⟩,
  ⟨.none, none, (.func { fnD (nth clsBody 10) (ucs [80,121,116,104,111,110,80,86,101,99,116,111,114,46,95,95,103,116,95,95]) [] .none .none .none none .none .none with globals := 0 }), #[]⟩,
  ⟨.type "code", none, (.fields #[.str (ucs [95,95,103,116,95,95]) 479, .str (ucs [80,121,116,104,111,110,80,86,101,99,116,111,114,46,95,95,103,116,95,95]) 480, .str (ucs [47,99,108,97,105,109,47,99,117,116,46,112,121]) 481, .int (59) 0, .int (2) 0, .int (0) 0, .int (0) 0, .int (3) 0, .ref 135, .bool true, .int (338) 0, .ref 136, .none, .ref 137, .ref 138, .ref 139, .int (484) 0, .int (59) 0, .str (ucs [47,99,108,97,105,109,47,99,117,116,46,112,121]) 485]), #[]⟩,
  ⟨.type "function", none, (.func (fnD (nth clsBody 10) (ucs [80,121,116,104,111,110,80,86,101,99,116,111,114,46,95,95,103,116,95,95]) [] .none .none (.str (ucs [112,121,114,115,105,115,116,101,110,116,46,95,112,118,101,99,116,111,114]) 351) none (.ref 140) .none)), #[]⟩,
  ⟨.type "tuple", none, (.seq #[] 0), #[]⟩,
  ⟨.none, none, (.fields #[]), #[]⟩,
  ⟨.type "tuple", none, (.seq #[.str (ucs [115,101,108,102]) 490, .str (ucs [111,116,104,101,114]) 491] 0), #[]⟩,
  ⟨.type "tuple", none, (.seq #[] 0), #[]⟩,
  ⟨.none, none, (.func { fnD (nth clsBody 11) (ucs [80,121,116,104,111,110,80,86,101,99,116,111,114,46,95,95,108,116,95,95]) [] .none .none .none none .none .none with globals := 0 }), #[]⟩,
  ⟨.type "code", none, (.fields #[.str (ucs [95,95,108,116,95,95]) 487, .str (ucs [80,121,116,104,111,110,80,86,101,99,116,111,114,46,95,95,108,116,95,95]) 488, .str (ucs [47,99,108,97,105,109,47,99,117,116,46,112,121]) 489, .int (62) 0, .int (2) 0, .int (0) 0, .int (0) 0, .int (3) 0, .ref 142, .bool true, .int (338) 0, .ref 143, .none, .ref 144, .ref 145, .ref 146, .int (492) 0, .int (62) 0, .str (ucs [47,99,108,97,105,109,47,99,117,116,46,112,121]) 493]), #[]⟩,
  ⟨.type "function", none, (.func (fnD (nth clsBody 11) (ucs [80,121,116,104,111,110,80,86,101,99,116,111,114,46,95,95,108,116,95,95]) [] .none .none (.str (ucs [112,121,114,115,105,115,116,101,110,116,46,95,112,118,101,99,116,111,114]) 351) none (.ref 147) .none)), #[]⟩,
  ⟨.type "tuple", none, (.seq #[] 0), #[]⟩,
  ⟨.none, none, (.fields #[]), #[]⟩,
  ⟨.type "tuple", none, (.seq #[.str (ucs [115,101,108,102]) 498, .str (ucs [111,116,104,101,114]) 499] 0), #[]⟩,
  ⟨.type "tuple", none, (.seq #[] 0), #[]⟩,
  ⟨.none, none, (.func { fnD (nth clsBody 12) (ucs [80,121,116,104,111,110,80,86,101,99,116,111,114,46,95,95,103,101,95,95]) [] .none .none .none none .none .none with globals := 0 }), #[]⟩,
  ⟨.type "code", none, (.fields #[.str (ucs [95,95,103,101,95,95]) 495, .str (ucs [80,121,116,104,111,110,80,86,101,99,116,111,114,46,95,95,103,101,95,95]) 496, .str (ucs [47,99,108,97,105,109,47,99,117,116,46,112,121]) 497, .int (65) 0, .int (2) 0, .int (0) 0, .int (0) 0, .int (3) 0, .ref 149, .bool true, .int (338) 0, .ref 150, .none, .ref 151, .ref 152, .ref 153, .int (500) 0, .int (65) 0, .str (ucs [47,99,108,97,105,109,47,99,117,116,46,112,121]) 501]), #[]⟩,
  ⟨.type "function", none, (.func (fnD (nth clsBody 12) (ucs [80,121,116,104,111,110,80,86,101,99,116,111,114,46,95,95,103,101,95,95]) [] .none .none (.str (ucs [112,121,114,115,105,115,116,101,110,116,46,95,112,118,101,99,116,111,114]) 351) none (.ref 154) .none)), #[]⟩,
  ⟨.type "tuple", none, (.seq #[] 0), #[]⟩,
  ⟨.none, none, (.fields #[]), #[]⟩,
  ⟨.type "tuple", none, (.seq #[.str (ucs [115,101,108,102]) 506, .str (ucs [111,116,104,101,114]) 507] 0), #[]⟩,
  ⟨.type "tuple", none, (.seq #[] 0), #[]⟩,
  ⟨.none, none, (.func { fnD (nth clsBody 13) (ucs [80,121,116,104,111,110,80,86,101,99,116,111,114,46,95,95,108,101,95,95]) [] .none .none .none none .none .none with globals := 0 }), #[]⟩,
  ⟨.type "code", none, (.fields #[.str (ucs [95,95,108,101,95,95]) 503, .str (ucs [80,121,116,104,111,110,80,86,101,99,116,111,114,46,95,95,108,101,95,95]) 504, .str (ucs [47,99,108,97,105,109,47,99,117,116,46,112,121]) 505, .int (68) 0, .int (2) 0, .int (0) 0, .int (0) 0, .int (3) 0, .ref 156, .bool true, .int (338) 0, .ref 157, .none, .ref 158, .ref 159, .ref 160, .int (508) 0, .int (68) 0, .str (ucs [47,99,108,97,105,109,47,99,117,116,46,112,121]) 509]), #[]⟩,
  ⟨.type "function", none, (.func (fnD (nth clsBody 13) (ucs [80,121,116,104,111,110,80,86,101,99,116,111,114,46,95,95,108,101,95,95]) [] .none .none (.str (ucs [112,121,114,115,105,115,116,101,110,116,46,95,112,118,101,99,116,111,114]) 351) none (.ref 161) .none)), #[]⟩,
  ⟨.type "tuple", none, (.seq #[] 0), #[]⟩,
  ⟨.none, none, (.fields #[]), #[]⟩,
  ⟨.type "tuple", none, (.seq #[.str (ucs [115,101,108,102]) 514, .str (ucs [116,105,109,101,115]) 515] 0), #[]⟩,
  ⟨.type "tuple", none, (.seq #[] 0), #[]⟩,
  ⟨.none, none, (.func { fnD (nth clsBody 14) (ucs [80,121,116,104,111,110,80,86,101,99,116,111,114,46,95,95,109,117,108,95,95]) [] .none .none .none none .none .none with globals := 0 }), #[]⟩,
  ⟨.type "code", none, (.fields #[.str (ucs [95,95,109,117,108,95,95]) 511, .str (ucs [80,121,116,104,111,110,80,86,101,99,116,111,114,46,95,95,109,117,108,95,95]) 512, .str (ucs [47,99,108,97,105,109,47,99,117,116,46,112,121]) 513, .int (71) 0, .int (2) 0, .int (0) 0, .int (0) 0, .int (3) 0, .ref 163, .bool true, .int (338) 0, .ref 164, .none, .ref 165, .ref 166, .ref 167, .int (516) 0, .int (71) 0, .str (ucs [47,99,108,97,105,109,47,99,117,116,46,112,121]) 517]), #[]⟩,
  ⟨.type "function", none, (.func (fnD (nth clsBody 14) (ucs [80,121,116,104,111,110,80,86,101,99,116,111,114,46,95,95,109,117,108,95,95]) [] .none .none (.str (ucs [112,121,114,115,105,115,116,101,110,116,46,95,112,118,101,99,116,111,114]) 351) none (.ref 168) .none)), #[]⟩,
  ⟨.type "tuple", none, (.seq #[] 0), #[]⟩,
  ⟨.none, none, (.fields #[]), #[]⟩,
  ⟨.type "tuple", none, (.seq #[.str (ucs [115,101,108,102]) 523, .str (ucs [110,111,100,101]) 524, .str (ucs [115,104,105,102,116]) 525, .str (ucs [116,104,101,95,108,105,115,116]) 526, .str (ucs [110]) 527] 0), #[]⟩,
  ⟨.type "tuple", none, (.seq #[] 0), #[]⟩,
  ⟨.none, none, (.func { fnD (nth clsBody 16) (ucs [80,121,116,104,111,110,80,86,101,99,116,111,114,46,95,102,105,108,108,95,108,105,115,116]) [] .none .none .none none .none .none with globals := 0 }), #[]⟩,
  ⟨.type "code", none, (.fields #[.str (ucs [95,102,105,108,108,95,108,105,115,116]) 520, .str (ucs [80,121,116,104,111,110,80,86,101,99,116,111,114,46,95,102,105,108,108,95,108,105,115,116]) 521, .str (ucs [47,99,108,97,105,109,47,99,117,116,46,112,121]) 522, .int (79) 0, .int (4) 0, .int (0) 0, .int (0) 0, .int (3) 0, .ref 170, .bool true, .int (338) 0, .ref 171, .none, .ref 172, .ref 173, .ref 174, .int (528) 0, .int (79) 0, .str (ucs [47,99,108,97,105,109,47,99,117,116,46,112,121]) 529]), #[]⟩,
  ⟨.type "function", none, (.func (fnD (nth clsBody 16) (ucs [80,121,116,104,111,110,80,86,101,99,116,111,114,46,95,102,105,108,108,95,108,105,115,116]) [] .none .none (.str (ucs [112,121,114,115,105,115,116,101,110,116,46,95,112,118,101,99,116,111,114]) 351) none (.ref 175) .none)), #[]⟩,
  ⟨.type "tuple", none, (.seq #[] 0), #[]⟩,
  ⟨.none, none, (.fields #[]), #[]⟩,
  ⟨.type "tuple", none, (.seq #[.str (ucs [115,101,108,102]) 534, .str (ucs [116,104,101,95,108,105,115,116]) 535] 0), #[]⟩,
  ⟨.type "tuple", none, (.seq #[] 0), #[]⟩,
  ⟨.none, none, (.func { fnD (nth clsBody 17) (ucs [80,121,116,104,111,110,80,86,101,99,116,111,114,46,116,111,108,105,115,116]) [] .none .none .none none .none .none with globals := 0 }), #[]⟩,
  ⟨.type "code", none, (.fields #[.str (ucs [116,111,108,105,115,116]) 531, .str (ucs [80,121,116,104,111,110,80,86,101,99,116,111,114,46,116,111,108,105,115,116]) 532, .str (ucs [47,99,108,97,105,109,47,99,117,116,46,112,121]) 533, .int (87) 0, .int (1) 0, .int (0) 0, .int (0) 0, .int (3) 0, .ref 177, .bool true, .int (338) 0, .ref 178, .none, .ref 179, .ref 180, .ref 181, .int (536) 0, .int (87) 0, .str (ucs [47,99,108,97,105,109,47,99,117,116,46,112,121]) 537]), #[]⟩,
  ⟨.type "function", none, (.func (fnD (nth clsBody 17) (ucs [80,121,116,104,111,110,80,86,101,99,116,111,114,46,116,111,108,105,115,116]) [] .none .none (.str (ucs [112,121,114,115,105,115,116,101,110,116,46,95,112,118,101,99,116,111,114]) 351) none (.ref 182) .none)), #[]⟩,
  ⟨.type "tuple", none, (.seq #[] 0), #[]⟩,
  ⟨.none, none, (.fields #[]), #[]⟩,
  ⟨.type "tuple", none, (.seq #[.str (ucs [115,101,108,102]) 542] 0), #[]⟩,
  ⟨.type "tuple", none, (.seq #[] 0), #[]⟩,
  ⟨.none, none, (.func { fnD (nth clsBody 18) (ucs [80,121,116,104,111,110,80,86,101,99,116,111,114,46,95,116,111,116,117,112,108,101]) [] .none .none .none none .none .none with globals := 0 }), #[]⟩,
  ⟨.type "code", none, (.fields #[.str (ucs [95,116,111,116,117,112,108,101]) 539, .str (ucs [80,121,116,104,111,110,80,86,101,99,116,111,114,46,95,116,111,116,117,112,108,101]) 540, .str (ucs [47,99,108,97,105,109,47,99,117,116,46,112,121]) 541, .int (93) 0, .int (1) 0, .int (0) 0, .int (0) 0, .int (3) 0, .ref 184, .bool true, .int (338) 0, .ref 185, .none, .ref 186, .ref 187, .ref 188, .int (543) 0, .int (93) 0, .str (ucs [47,99,108,97,105,109,47,99,117,116,46,112,121]) 544]), #[]⟩,
  ⟨.type "function", none, (.func (fnD (nth clsBody 18) (ucs [80,121,116,104,111,110,80,86,101,99,116,111,114,46,95,116,111,116,117,112,108,101]) [] .none .none (.str (ucs [112,121,114,115,105,115,116,101,110,116,46,95,112,118,101,99,116,111,114]) 351) none (.ref 189) .none)), #[]⟩,
  ⟨.type "tuple", none, (.seq #[] 0), #[]⟩,
  ⟨.none, none, (.fields #[]), #[]⟩,
  ⟨.type "tuple", none, (.seq #[.str (ucs [115,101,108,102]) 549, .str (ucs [105]) 550, .str (ucs [118,97,108]) 551, .str (ucs [110,101,119,95,116,97,105,108]) 552] 0), #[]⟩,
  ⟨.type "tuple", none, (.seq #[] 0), #[]⟩,
  ⟨.none, none, (.func { fnD (nth clsBody 19) (ucs [80,121,116,104,111,110,80,86,101,99,116,111,114,46,115,101,116]) [] .none .none .none none .none .none with globals := 0 }), #[]⟩,
  ⟨.type "code", none, (.fields #[.str (ucs [115,101,116]) 546, .str (ucs [80,121,116,104,111,110,80,86,101,99,116,111,114,46,115,101,116]) 547, .str (ucs [47,99,108,97,105,109,47,99,117,116,46,112,121]) 548, .int (96) 0, .int (3) 0, .int (0) 0, .int (0) 0, .int (3) 0, .ref 191, .bool true, .int (338) 0, .ref 192, .none, .ref 193, .ref 194, .ref 195, .int (553) 0, .int (96) 0, .str (ucs [47,99,108,97,105,109,47,99,117,116,46,112,121]) 554]), #[]⟩,
  ⟨.type "function", none, (.func (fnD (nth clsBody 19) (ucs [80,121,116,104,111,110,80,86,101,99,116,111,114,46,115,101,116]) [] .none .none (.str (ucs [112,121,114,115,105,115,116,101,110,116,46,95,112,118,101,99,116,111,114]) 351) none (.ref 196) .none)), #[]⟩,
  ⟨.type "tuple", none, (.seq #[] 0), #[]⟩,
  ⟨.none, none, (.fields #[]), #[]⟩,
  ⟨.type "tuple", none, (.seq #[.str (ucs [115,101,108,102]) 559, .str (ucs [108,101,118,101,108]) 560, .str (ucs [110,111,100,101]) 561, .str (ucs [105]) 562, .str (ucs [118,97,108]) 563, .str (ucs [114,101,116]) 564, .str (ucs [115,117,98,95,105,110,100,101,120]) 565] 0), #[]⟩,
  ⟨.type "tuple", none, (.seq #[] 0), #[]⟩,
  ⟨.none, none, (.func { fnD (nth clsBody 20) (ucs [80,121,116,104,111,110,80,86,101,99,116,111,114,46,95,100,111,95,115,101,116]) [] .none .none .none none .none .none with globals := 0 }), #[]⟩,
  ⟨.type "code", none, (.fields #[.str (ucs [95,100,111,95,115,101,116]) 556, .str (ucs [80,121,116,104,111,110,80,86,101,99,116,111,114,46,95,100,111,95,115,101,116]) 557, .str (ucs [47,99,108,97,105,109,47,99,117,116,46,112,121]) 558, .int (111) 0, .int (5) 0, .int (0) 0, .int (0) 0, .int (3) 0, .ref 198, .bool true, .int (338) 0, .ref 199, .none, .ref 200, .ref 201, .ref 202, .int (566) 0, .int (111) 0, .str (ucs [47,99,108,97,105,109,47,99,117,116,46,112,121]) 567]), #[]⟩,
  ⟨.type "function", none, (.func (fnD (nth clsBody 20) (ucs [80,121,116,104,111,110,80,86,101,99,116,111,114,46,95,100,111,95,115,101,116]) [] .none .none (.str (ucs [112,121,114,115,105,115,116,101,110,116,46,95,112,118,101,99,116,111,114]) 351) none (.ref 203) .none)), #[]⟩,
  ⟨.type "tuple", none, (.seq #[] 0), #[]⟩,
  ⟨.none, none, (.fields #[]), #[]⟩,
  ⟨.type "tuple", none, (.seq #[.str (ucs [112,118,101,99,116,111,114,95,108,105,107,101]) 572, .str (ucs [105]) 573, .str (ucs [110,111,100,101]) 574, .str (ucs [108,101,118,101,108]) 575] 0), #[]⟩,
  ⟨.type "tuple", none, (.seq #[] 0), #[]⟩,
  ⟨.none, none, (.func { fnD (nth clsBody 21) (ucs [80,121,116,104,111,110,80,86,101,99,116,111,114,46,95,110,111,100,101,95,102,111,114]) [] .none .none .none none .none .none with globals := 0 }), #[]⟩,
  ⟨.type "code", none, (.fields #[.str (ucs [95,110,111,100,101,95,102,111,114]) 569, .str (ucs [80,121,116,104,111,110,80,86,101,99,116,111,114,46,95,110,111,100,101,95,102,111,114]) 570, .str (ucs [47,99,108,97,105,109,47,99,117,116,46,112,121]) 571, .int (120) 0, .int (2) 0, .int (0) 0, .int (0) 0, .int (3) 0, .ref 205, .bool true, .int (338) 0, .ref 206, .none, .ref 207, .ref 208, .ref 209, .int (576) 0, .int (120) 0, .str (ucs [47,99,108,97,105,109,47,99,117,116,46,112,121]) 577]), #[]⟩,
  ⟨.type "function", none, (.func (fnD (nth clsBody 21) (ucs [80,121,116,104,111,110,80,86,101,99,116,111,114,46,95,110,111,100,101,95,102,111,114]) [] .none .none (.str (ucs [112,121,114,115,105,115,116,101,110,116,46,95,112,118,101,99,116,111,114]) 351) (some 214) (.ref 210) .none)), #[]⟩,
  ⟨.type "dict", none, (.dict #[⟨PyData.keyHash P (ucs [95,95,109,111,100,117,108,101,95,95]), .str (ucs [95,95,109,111,100,117,108,101,95,95]) 579, .str (ucs [112,121,114,115,105,115,116,101,110,116,46,95,112,118,101,99,116,111,114]) 351⟩, ⟨PyData.keyHash P (ucs [95,95,110,97,109,101,95,95]), .str (ucs [95,95,110,97,109,101,95,95]) 582, .str (ucs [95,110,111,100,101,95,102,111,114]) 581⟩, ⟨PyData.keyHash P (ucs [95,95,113,117,97,108,110,97,109,101,95,95]), .str (ucs [95,95,113,117,97,108,110,97,109,101,95,95]) 585, .str (ucs [80,121,116,104,111,110,80,86,101,99,116,111,114,46,95,110,111,100,101,95,102,111,114]) 584⟩, ⟨PyData.keyHash P (ucs [95,95,100,111,99,95,95]), .str (ucs [95,95,100,111,99,95,95]) 587, .none⟩, ⟨PyData.keyHash P (ucs [95,95,97,110,110,111,116,97,116,105,111,110,115,95,95]), .str (ucs [95,95,97,110,110,111,116,97,116,105,111,110,115,95,95]) 589, .ref 214⟩] 5), #[]⟩,
  ⟨.type "staticmethod", (some 212), (.fields #[.ref 211, .bool false]), #[]⟩,
  ⟨.type "dict", none, (.dict #[] 0), #[]⟩,
  ⟨.type "tuple", none, (.seq #[] 0), #[]⟩,
  ⟨.none, none, (.fields #[]), #[]⟩,
  ⟨.type "tuple", none, (.seq #[.str (ucs [115,101,108,102]) 594, .str (ucs [110,101,119,95,115,104,105,102,116]) 595, .str (ucs [110,101,119,95,114,111,111,116]) 596] 0), #[]⟩,
  ⟨.type "tuple", none, (.seq #[] 0), #[]⟩,
  ⟨.none, none, (.func { fnD (nth clsBody 22) (ucs [80,121,116,104,111,110,80,86,101,99,116,111,114,46,95,99,114,101,97,116,101,95,110,101,119,95,114,111,111,116]) [] .none .none .none none .none .none with globals := 0 }), #[]⟩,
  ⟨.type "code", none, (.fields #[.str (ucs [95,99,114,101,97,116,101,95,110,101,119,95,114,111,111,116]) 591, .str (ucs [80,121,116,104,111,110,80,86,101,99,116,111,114,46,95,99,114,101,97,116,101,95,110,101,119,95,114,111,111,116]) 592, .str (ucs [47,99,108,97,105,109,47,99,117,116,46,112,121]) 593, .int (131) 0, .int (1) 0, .int (0) 0, .int (0) 0, .int (3) 0, .ref 215, .bool true, .int (338) 0, .ref 216, .none, .ref 217, .ref 218, .ref 219, .int (597) 0, .int (131) 0, .str (ucs [47,99,108,97,105,109,47,99,117,116,46,112,121]) 598]), #[]⟩,
  ⟨.type "function", none, (.func (fnD (nth clsBody 22) (ucs [80,121,116,104,111,110,80,86,101,99,116,111,114,46,95,99,114,101,97,116,101,95,110,101,119,95,114,111,111,116]) [] .none .none (.str (ucs [112,121,114,115,105,115,116,101,110,116,46,95,112,118,101,99,116,111,114]) 351) none (.ref 220) .none)), #[]⟩,
  ⟨.type "tuple", none, (.seq #[] 0), #[]⟩,
  ⟨.none, none, (.fields #[]), #[]⟩,
  ⟨.type "tuple", none, (.seq #[.str (ucs [115,101,108,102]) 603, .str (ucs [118,97,108]) 604, .str (ucs [110,101,119,95,116,97,105,108]) 605, .str (ucs [110,101,119,95,114,111,111,116]) 606, .str (ucs [110,101,119,95,115,104,105,102,116]) 607] 0), #[]⟩,
  ⟨.type "tuple", none, (.seq #[] 0), #[]⟩,
  ⟨.none, none, (.func { fnD (nth clsBody 23) (ucs [80,121,116,104,111,110,80,86,101,99,116,111,114,46,97,112,112,101,110,100]) [] .none .none .none none .none .none with globals := 0 }), #[]⟩,
  ⟨.type "code", none, (.fields #[.str (ucs [97,112,112,101,110,100]) 600, .str (ucs [80,121,116,104,111,110,80,86,101,99,116,111,114,46,97,112,112,101,110,100]) 601, .str (ucs [47,99,108,97,105,109,47,99,117,116,46,112,121]) 602, .int (140) 0, .int (2) 0, .int (0) 0, .int (0) 0, .int (3) 0, .ref 222, .bool true, .int (338) 0, .ref 223, .none, .ref 224, .ref 225, .ref 226, .int (608) 0, .int (140) 0, .str (ucs [47,99,108,97,105,109,47,99,117,116,46,112,121]) 609]), #[]⟩,
  ⟨.type "function", none, (.func (fnD (nth clsBody 23) (ucs [80,121,116,104,111,110,80,86,101,99,116,111,114,46,97,112,112,101,110,100]) [] .none .none (.str (ucs [112,121,114,115,105,115,116,101,110,116,46,95,112,118,101,99,116,111,114]) 351) none (.ref 227) .none)), #[]⟩,
  ⟨.type "tuple", none, (.seq #[] 0), #[]⟩,
  ⟨.none, none, (.fields #[]), #[]⟩,
  ⟨.type "tuple", none, (.seq #[.str (ucs [115,101,108,102]) 614, .str (ucs [108,101,118,101,108]) 615, .str (ucs [110,111,100,101]) 616] 0), #[]⟩,
  ⟨.type "tuple", none, (.seq #[] 0), #[]⟩,
  ⟨.none, none, (.func { fnD (nth clsBody 24) (ucs [80,121,116,104,111,110,80,86,101,99,116,111,114,46,95,110,101,119,95,112,97,116,104]) [] .none .none .none none .none .none with globals := 0 }), #[]⟩,
  ⟨.type "code", none, (.fields #[.str (ucs [95,110,101,119,95,112,97,116,104]) 611, .str (ucs [80,121,116,104,111,110,80,86,101,99,116,111,114,46,95,110,101,119,95,112,97,116,104]) 612, .str (ucs [47,99,108,97,105,109,47,99,117,116,46,112,121]) 613, .int (148) 0, .int (3) 0, .int (0) 0, .int (0) 0, .int (3) 0, .ref 229, .bool true, .int (338) 0, .ref 230, .none, .ref 231, .ref 232, .ref 233, .int (617) 0, .int (148) 0, .str (ucs [47,99,108,97,105,109,47,99,117,116,46,112,121]) 618]), #[]⟩,
  ⟨.type "function", none, (.func (fnD (nth clsBody 24) (ucs [80,121,116,104,111,110,80,86,101,99,116,111,114,46,95,110,101,119,95,112,97,116,104]) [] .none .none (.str (ucs [112,121,114,115,105,115,116,101,110,116,46,95,112,118,101,99,116,111,114]) 351) none (.ref 234) .none)), #[]⟩,
  ⟨.type "tuple", none, (.seq #[] 0), #[]⟩,
  ⟨.none, none, (.fields #[]), #[]⟩,
  ⟨.type "tuple", none, (.seq #[.str (ucs [115,101,108,102]) 623] 0), #[]⟩,
  ⟨.type "tuple", none, (.seq #[] 0), #[]⟩,
  ⟨.none, none, (.func { fnD (nth clsBody 25) (ucs [80,121,116,104,111,110,80,86,101,99,116,111,114,46,95,109,117,116,97,116,105,110,103,95,105,110,115,101,114,116,95,116,97,105,108]) [] .none .none .none none .none .none with globals := 0 }), #[]⟩,
  ⟨.type "code", none, (.fields #[.str (ucs [95,109,117,116,97,116,105,110,103,95,105,110,115,101,114,116,95,116,97,105,108]) 620, .str (ucs [80,121,116,104,111,110,80,86,101,99,116,111,114,46,95,109,117,116,97,116,105,110,103,95,105,110,115,101,114,116,95,116,97,105,108]) 621, .str (ucs [47,99,108,97,105,109,47,99,117,116,46,112,121]) 622, .int (153) 0, .int (1) 0, .int (0) 0, .int (0) 0, .int (3) 0, .ref 236, .bool true, .int (338) 0, .ref 237, .none, .ref 238, .ref 239, .ref 240, .int (624) 0, .int (153) 0, .str (ucs [47,99,108,97,105,109,47,99,117,116,46,112,121]) 625]), #[]⟩,
  ⟨.type "function", none, (.func (fnD (nth clsBody 25) (ucs [80,121,116,104,111,110,80,86,101,99,116,111,114,46,95,109,117,116,97,116,105,110,103,95,105,110,115,101,114,116,95,116,97,105,108]) [] .none .none (.str (ucs [112,121,114,115,105,115,116,101,110,116,46,95,112,118,101,99,116,111,114]) 351) none (.ref 241) .none)), #[]⟩,
  ⟨.type "tuple", none, (.seq #[] 0), #[]⟩,
  ⟨.none, none, (.fields #[]), #[]⟩,
  ⟨.type "tuple", none, (.seq #[.str (ucs [115,101,108,102]) 630, .str (ucs [111,102,102,115,101,116]) 631, .str (ucs [115,101,113,117,101,110,99,101]) 632, .str (ucs [109,97,120,95,100,101,108,116,97,95,108,101,110]) 633, .str (ucs [100,101,108,116,97]) 634, .str (ucs [100,101,108,116,97,95,108,101,110]) 635] 0), #[]⟩,
  ⟨.type "tuple", none, (.seq #[] 0), #[]⟩,
  ⟨.none, none, (.func { fnD (nth clsBody 26) (ucs [80,121,116,104,111,110,80,86,101,99,116,111,114,46,95,109,117,116,97,116,105,110,103,95,102,105,108,108,95,116,97,105,108]) [] .none .none .none none .none .none with globals := 0 }), #[]⟩,
  ⟨.type "code", none, (.fields #[.str (ucs [95,109,117,116,97,116,105,110,103,95,102,105,108,108,95,116,97,105,108]) 627, .str (ucs [80,121,116,104,111,110,80,86,101,99,116,111,114,46,95,109,117,116,97,116,105,110,103,95,102,105,108,108,95,116,97,105,108]) 628, .str (ucs [47,99,108,97,105,109,47,99,117,116,46,112,121]) 629, .int (157) 0, .int (3) 0, .int (0) 0, .int (0) 0, .int (3) 0, .ref 243, .bool true, .int (338) 0, .ref 244, .none, .ref 245, .ref 246, .ref 247, .int (636) 0, .int (157) 0, .str (ucs [47,99,108,97,105,109,47,99,117,116,46,112,121]) 637]), #[]⟩,
  ⟨.type "function", none, (.func (fnD (nth clsBody 26) (ucs [80,121,116,104,111,110,80,86,101,99,116,111,114,46,95,109,117,116,97,116,105,110,103,95,102,105,108,108,95,116,97,105,108]) [] .none .none (.str (ucs [112,121,114,115,105,115,116,101,110,116,46,95,112,118,101,99,116,111,114]) 351) none (.ref 248) .none)), #[]⟩,
  ⟨.type "tuple", none, (.seq #[] 0), #[]⟩,
  ⟨.none, none, (.fields #[]), #[]⟩,
  ⟨.type "tuple", none, (.seq #[.str (ucs [115,101,108,102]) 642, .str (ucs [115,101,113,117,101,110,99,101]) 643, .str (ucs [111,102,102,115,101,116]) 644, .str (ucs [115,101,113,117,101,110,99,101,95,108,101,110]) 645] 0), #[]⟩,
  ⟨.type "tuple", none, (.seq #[] 0), #[]⟩,
  ⟨.none, none, (.func { fnD (nth clsBody 27) (ucs [80,121,116,104,111,110,80,86,101,99,116,111,114,46,95,109,117,116,97,116,105,110,103,95,101,120,116,101,110,100]) [] .none .none .none none .none .none with globals := 0 }), #[]⟩,
  ⟨.type "code", none, (.fields #[.str (ucs [95,109,117,116,97,116,105,110,103,95,101,120,116,101,110,100]) 639, .str (ucs [80,121,116,104,111,110,80,86,101,99,116,111,114,46,95,109,117,116,97,116,105,110,103,95,101,120,116,101,110,100]) 640, .str (ucs [47,99,108,97,105,109,47,99,117,116,46,112,121]) 641, .int (165) 0, .int (2) 0, .int (0) 0, .int (0) 0, .int (3) 0, .ref 250, .bool true, .int (338) 0, .ref 251, .none, .ref 252, .ref 253, .ref 254, .int (646) 0, .int (165) 0, .str (ucs [47,99,108,97,105,109,47,99,117,116,46,112,121]) 647]), #[]⟩,
  ⟨.type "function", none, (.func (fnD (nth clsBody 27) (ucs [80,121,116,104,111,110,80,86,101,99,116,111,114,46,95,109,117,116,97,116,105,110,103,95,101,120,116,101,110,100]) [] .none .none (.str (ucs [112,121,114,115,105,115,116,101,110,116,46,95,112,118,101,99,116,111,114]) 351) none (.ref 255) .none)), #[]⟩,
  ⟨.type "tuple", none, (.seq #[] 0), #[]⟩,
  ⟨.none, none, (.fields #[]), #[]⟩,
  ⟨.type "tuple", none, (.seq #[.str (ucs [115,101,108,102]) 652, .str (ucs [111,98,106]) 653, .str (ucs [108]) 654, .str (ucs [110,101,119,95,118,101,99,116,111,114]) 655] 0), #[]⟩,
  ⟨.type "tuple", none, (.seq #[] 0), #[]⟩,
  ⟨.none, none, (.func { fnD (nth clsBody 28) (ucs [80,121,116,104,111,110,80,86,101,99,116,111,114,46,101,120,116,101,110,100]) [] .none .none .none none .none .none with globals := 0 }), #[]⟩,
  ⟨.type "code", none, (.fields #[.str (ucs [101,120,116,101,110,100]) 649, .str (ucs [80,121,116,104,111,110,80,86,101,99,116,111,114,46,101,120,116,101,110,100]) 650, .str (ucs [47,99,108,97,105,109,47,99,117,116,46,112,121]) 651, .int (174) 0, .int (2) 0, .int (0) 0, .int (0) 0, .int (3) 0, .ref 257, .bool true, .int (338) 0, .ref 258, .none, .ref 259, .ref 260, .ref 261, .int (656) 0, .int (174) 0, .str (ucs [47,99,108,97,105,109,47,99,117,116,46,112,121]) 657]), #[]⟩,
  ⟨.type "function", none, (.func (fnD (nth clsBody 28) (ucs [80,121,116,104,111,110,80,86,101,99,116,111,114,46,101,120,116,101,110,100]) [] .none .none (.str (ucs [112,121,114,115,105,115,116,101,110,116,46,95,112,118,101,99,116,111,114]) 351) none (.ref 262) .none)), #[]⟩,
  ⟨.type "tuple", none, (.seq #[] 0), #[]⟩,
  ⟨.none, none, (.fields #[]), #[]⟩,
  ⟨.type "tuple", none, (.seq #[.str (ucs [115,101,108,102]) 662, .str (ucs [108,101,118,101,108]) 663, .str (ucs [112,97,114,101,110,116]) 664, .str (ucs [116,97,105,108,95,110,111,100,101]) 665, .str (ucs [114,101,116]) 666, .str (ucs [115,117,98,95,105,110,100,101,120]) 667] 0), #[]⟩,
  ⟨.type "tuple", none, (.seq #[] 0), #[]⟩,
  ⟨.none, none, (.func { fnD (nth clsBody 29) (ucs [80,121,116,104,111,110,80,86,101,99,116,111,114,46,95,112,117,115,104,95,116,97,105,108]) [] .none .none .none none .none .none with globals := 0 }), #[]⟩,
  ⟨.type "code", none, (.fields #[.str (ucs [95,112,117,115,104,95,116,97,105,108]) 659, .str (ucs [80,121,116,104,111,110,80,86,101,99,116,111,114,46,95,112,117,115,104,95,116,97,105,108]) 660, .str (ucs [47,99,108,97,105,109,47,99,117,116,46,112,121]) 661, .int (182) 0, .int (4) 0, .int (0) 0, .int (0) 0, .int (3) 0, .ref 264, .bool true, .int (338) 0, .ref 265, .none, .ref 266, .ref 267, .ref 268, .int (668) 0, .int (182) 0, .str (ucs [47,99,108,97,105,109,47,99,117,116,46,112,121]) 669]), #[]⟩,
  ⟨.type "function", none, (.func (fnD (nth clsBody 29) (ucs [80,121,116,104,111,110,80,86,101,99,116,111,114,46,95,112,117,115,104,95,116,97,105,108]) [] .none .none (.str (ucs [112,121,114,115,105,115,116,101,110,116,46,95,112,118,101,99,116,111,114]) 351) none (.ref 269) .none)), #[]⟩,
  ⟨.type "tuple", none, (.seq #[] 0), #[]⟩,
  ⟨.none, none, (.fields #[]), #[]⟩,
  ⟨.type "tuple", none, (.seq #[.str (ucs [115,101,108,102]) 674, .str (ucs [118,97,108,117,101]) 675, .str (ucs [97,114,103,115]) 676, .str (ucs [107,119,97,114,103,115]) 677] 0), #[]⟩,
  ⟨.type "tuple", none, (.seq #[] 0), #[]⟩,
  ⟨.none, none, (.func { fnD (nth clsBody 30) (ucs [80,121,116,104,111,110,80,86,101,99,116,111,114,46,105,110,100,101,120]) [] .none .none .none none .none .none with globals := 0 }), #[]⟩,
  ⟨.type "code", none, (.fields #[.str (ucs [105,110,100,101,120]) 671, .str (ucs [80,121,116,104,111,110,80,86,101,99,116,111,114,46,105,110,100,101,120]) 672, .str (ucs [47,99,108,97,105,109,47,99,117,116,46,112,121]) 673, .int (194) 0, .int (2) 0, .int (0) 0, .int (0) 0, .int (15) 0, .ref 271, .bool true, .int (338) 0, .ref 272, .none, .ref 273, .ref 274, .ref 275, .int (678) 0, .int (194) 0, .str (ucs [47,99,108,97,105,109,47,99,117,116,46,112,121]) 679]), #[]⟩,
  ⟨.type "function", none, (.func (fnD (nth clsBody 30) (ucs [80,121,116,104,111,110,80,86,101,99,116,111,114,46,105,110,100,101,120]) [] .none .none (.str (ucs [112,121,114,115,105,115,116,101,110,116,46,95,112,118,101,99,116,111,114]) 351) none (.ref 276) .none)), #[]⟩,
  ⟨.type "tuple", none, (.seq #[] 0), #[]⟩,
  ⟨.none, none, (.fields #[]), #[]⟩,
  ⟨.type "tuple", none, (.seq #[.str (ucs [115,101,108,102]) 684, .str (ucs [118,97,108,117,101]) 685] 0), #[]⟩,
  ⟨.type "tuple", none, (.seq #[] 0), #[]⟩,
  ⟨.none, none, (.func { fnD (nth clsBody 31) (ucs [80,121,116,104,111,110,80,86,101,99,116,111,114,46,99,111,117,110,116]) [] .none .none .none none .none .none with globals := 0 }), #[]⟩,
  ⟨.type "code", none, (.fields #[.str (ucs [99,111,117,110,116]) 681, .str (ucs [80,121,116,104,111,110,80,86,101,99,116,111,114,46,99,111,117,110,116]) 682, .str (ucs [47,99,108,97,105,109,47,99,117,116,46,112,121]) 683, .int (197) 0, .int (2) 0, .int (0) 0, .int (0) 0, .int (3) 0, .ref 278, .bool true, .int (338) 0, .ref 279, .none, .ref 280, .ref 281, .ref 282, .int (686) 0, .int (197) 0, .str (ucs [47,99,108,97,105,109,47,99,117,116,46,112,121]) 687]), #[]⟩,
  ⟨.type "function", none, (.func (fnD (nth clsBody 31) (ucs [80,121,116,104,111,110,80,86,101,99,116,111,114,46,99,111,117,110,116]) [] .none .none (.str (ucs [112,121,114,115,105,115,116,101,110,116,46,95,112,118,101,99,116,111,114]) 351) none (.ref 283) .none)), #[]⟩,
  ⟨.type "tuple", none, (.seq #[.none] 0), #[]⟩,
  ⟨.type "tuple", none, (.seq #[] 0), #[]⟩,
  ⟨.none, none, (.fields #[]), #[]⟩,
  ⟨.type "tuple", none, (.seq #[.str (ucs [115,101,108,102]) 692, .str (ucs [105,110,100,101,120]) 693, .str (ucs [115,116,111,112]) 694, .str (ucs [108]) 695] 0), #[]⟩,
  ⟨.type "tuple", none, (.seq #[] 0), #[]⟩,
  ⟨.none, none, (.func { fnD (nth clsBody 32) (ucs [80,121,116,104,111,110,80,86,101,99,116,111,114,46,100,101,108,101,116,101]) [] .none .none .none none .none .none with globals := 0 }), #[]⟩,
  ⟨.type "code", none, (.fields #[.str (ucs [100,101,108,101,116,101]) 689, .str (ucs [80,121,116,104,111,110,80,86,101,99,116,111,114,46,100,101,108,101,116,101]) 690, .str (ucs [47,99,108,97,105,109,47,99,117,116,46,112,121]) 691, .int (200) 0, .int (3) 0, .int (0) 0, .int (0) 0, .int (3) 0, .ref 286, .bool true, .int (338) 0, .ref 287, .none, .ref 288, .ref 289, .ref 290, .int (696) 0, .int (200) 0, .str (ucs [47,99,108,97,105,109,47,99,117,116,46,112,121]) 697]), #[]⟩,
  ⟨.type "function", none, (.func (fnD (nth clsBody 32) (ucs [80,121,116,104,111,110,80,86,101,99,116,111,114,46,100,101,108,101,116,101]) [] (.ref 285) .none (.str (ucs [112,121,114,115,105,115,116,101,110,116,46,95,112,118,101,99,116,111,114]) 351) none (.ref 291) .none)), #[]⟩,
  ⟨.type "tuple", none, (.seq #[] 0), #[]⟩,
  ⟨.none, none, (.fields #[]), #[]⟩,
  ⟨.type "tuple", none, (.seq #[.str (ucs [115,101,108,102]) 702, .str (ucs [118,97,108,117,101]) 703] 0), #[]⟩,
  ⟨.type "tuple", none, (.seq #[] 0), #[]⟩,
  ⟨.none, none, (.func { fnD (nth clsBody 33) (ucs [80,121,116,104,111,110,80,86,101,99,116,111,114,46,114,101,109,111,118,101]) [] .none .none .none none .none .none with globals := 0 }), #[]⟩,
  ⟨.type "code", none, (.fields #[.str (ucs [114,101,109,111,118,101]) 699, .str (ucs [80,121,116,104,111,110,80,86,101,99,116,111,114,46,114,101,109,111,118,101]) 700, .str (ucs [47,99,108,97,105,109,47,99,117,116,46,112,121]) 701, .int (205) 0, .int (2) 0, .int (0) 0, .int (0) 0, .int (3) 0, .ref 293, .bool true, .int (338) 0, .ref 294, .none, .ref 295, .ref 296, .ref 297, .int (704) 0, .int (205) 0, .str (ucs [47,99,108,97,105,109,47,99,117,116,46,112,121]) 705]), #[]⟩,
  ⟨.type "function", none, (.func (fnD (nth clsBody 33) (ucs [80,121,116,104,111,110,80,86,101,99,116,111,114,46,114,101,109,111,118,101]) [] .none .none (.str (ucs [112,121,114,115,105,115,116,101,110,116,46,95,112,118,101,99,116,111,114]) 351) none (.ref 298) .none)), #[]⟩,
  ⟨.type "tuple", none, (.seq #[.str (ucs [95,99,111,117,110,116]) 707, .str (ucs [95,114,111,111,116]) 708, .str (ucs [95,115,104,105,102,116]) 709, .str (ucs [95,116,97,105,108]) 710, .str (ucs [95,116,97,105,108,95,111,102,102,115,101,116]) 711] 0), #[]⟩,
  ⟨.type "list", none, (.seq #[.str (ucs [95,99,111,117,110,116]) 399, .str (ucs [95,115,104,105,102,116]) 400, .str (ucs [95,114,111,111,116]) 401, .str (ucs [95,116,97,105,108]) 402, .str (ucs [95,116,97,105,108,95,111,102,102,115,101,116]) 403, .str (ucs [95,95,119,101,97,107,114,101,102,95,95]) 404] 1), #[]⟩,
  ⟨.type "dict", none, (.dict #[⟨PyData.keyHash P (ucs [95,95,109,111,100,117,108,101,95,95]), .str (ucs [95,95,109,111,100,117,108,101,95,95]) 394, .str (ucs [112,121,114,115,105,115,116,101,110,116,46,95,112,118,101,99,116,111,114]) 351⟩, ⟨PyData.keyHash P (ucs [95,95,102,105,114,115,116,108,105,110,101,110,111,95,95]), .str (ucs [95,95,102,105,114,115,116,108,105,110,101,110,111,95,95]) 398, .int (17) 397⟩, ⟨PyData.keyHash P (ucs [95,95,115,108,111,116,115,95,95]), .str (ucs [95,95,115,108,111,116,115,95,95]) 405, .ref 70⟩, ⟨PyData.keyHash P (ucs [95,95,110,101,119,95,95]), .str (ucs [95,95,110,101,119,95,95]) 418, .ref 304⟩, ⟨PyData.keyHash P (ucs [95,95,108,101,110,95,95]), .str (ucs [95,95,108,101,110,95,95]) 425, .ref 85⟩, ⟨PyData.keyHash P (ucs [95,95,103,101,116,105,116,101,109,95,95]), .str (ucs [95,95,103,101,116,105,116,101,109,95,95]) 433, .ref 92⟩, ⟨PyData.keyHash P (ucs [95,95,97,100,100,95,95]), .str (ucs [95,95,97,100,100,95,95]) 441, .ref 99⟩, ⟨PyData.keyHash P (ucs [95,95,114,101,112,114,95,95]), .str (ucs [95,95,114,101,112,114,95,95]) 448, .ref 106⟩, ⟨PyData.keyHash P (ucs [95,95,115,116,114,95,95]), .str (ucs [95,95,115,116,114,95,95]) 455, .ref 113⟩, ⟨PyData.keyHash P (ucs [95,95,105,116,101,114,95,95]), .str (ucs [95,95,105,116,101,114,95,95]) 462, .ref 120⟩, ⟨PyData.keyHash P (ucs [95,95,110,101,95,95]), .str (ucs [95,95,110,101,95,95]) 470, .ref 127⟩, ⟨PyData.keyHash P (ucs [95,95,101,113,95,95]), .str (ucs [95,95,101,113,95,95]) 478, .ref 134⟩, ⟨PyData.keyHash P (ucs [95,95,103,116,95,95]), .str (ucs [95,95,103,116,95,95]) 486, .ref 141⟩, ⟨PyData.keyHash P (ucs [95,95,108,116,95,95]), .str (ucs [95,95,108,116,95,95]) 494, .ref 148⟩, ⟨PyData.keyHash P (ucs [95,95,103,101,95,95]), .str (ucs [95,95,103,101,95,95]) 502, .ref 155⟩, ⟨PyData.keyHash P (ucs [95,95,108,101,95,95]), .str (ucs [95,95,108,101,95,95]) 510, .ref 162⟩, ⟨PyData.keyHash P (ucs [95,95,109,117,108,95,95]), .str (ucs [95,95,109,117,108,95,95]) 518, .ref 169⟩, ⟨PyData.keyHash P (ucs [95,95,114,109,117,108,95,95]), .str (ucs [95,95,114,109,117,108,95,95]) 519, .ref 169⟩, ⟨PyData.keyHash P (ucs [95,102,105,108,108,95,108,105,115,116]), .str (ucs [95,102,105,108,108,95,108,105,115,116]) 530, .ref 176⟩, ⟨PyData.keyHash P (ucs [116,111,108,105,115,116]), .str (ucs [116,111,108,105,115,116]) 538, .ref 183⟩, ⟨PyData.keyHash P (ucs [95,116,111,116,117,112,108,101]), .str (ucs [95,116,111,116,117,112,108,101]) 545, .ref 190⟩, ⟨PyData.keyHash P (ucs [115,101,116]), .str (ucs [115,101,116]) 555, .ref 197⟩, ⟨PyData.keyHash P (ucs [95,100,111,95,115,101,116]), .str (ucs [95,100,111,95,115,101,116]) 568, .ref 204⟩, ⟨PyData.keyHash P (ucs [95,110,111,100,101,95,102,111,114]), .str (ucs [95,110,111,100,101,95,102,111,114]) 590, .ref 213⟩, ⟨PyData.keyHash P (ucs [95,99,114,101,97,116,101,95,110,101,119,95,114,111,111,116]), .str (ucs [95,99,114,101,97,116,101,95,110,101,119,95,114,111,111,116]) 599, .ref 221⟩, ⟨PyData.keyHash P (ucs [97,112,112,101,110,100]), .str (ucs [97,112,112,101,110,100]) 610, .ref 228⟩, ⟨PyData.keyHash P (ucs [95,110,101,119,95,112,97,116,104]), .str (ucs [95,110,101,119,95,112,97,116,104]) 619, .ref 235⟩, ⟨PyData.keyHash P (ucs [95,109,117,116,97,116,105,110,103,95,105,110,115,101,114,116,95,116,97,105,108]), .str (ucs [95,109,117,116,97,116,105,110,103,95,105,110,115,101,114,116,95,116,97,105,108]) 626, .ref 242⟩, ⟨PyData.keyHash P (ucs [95,109,117,116,97,116,105,110,103,95,102,105,108,108,95,116,97,105,108]), .str (ucs [95,109,117,116,97,116,105,110,103,95,102,105,108,108,95,116,97,105,108]) 638, .ref 249⟩, ⟨PyData.keyHash P (ucs [95,109,117,116,97,116,105,110,103,95,101,120,116,101,110,100]), .str (ucs [95,109,117,116,97,116,105,110,103,95,101,120,116,101,110,100]) 648, .ref 256⟩, ⟨PyData.keyHash P (ucs [101,120,116,101,110,100]), .str (ucs [101,120,116,101,110,100]) 658, .ref 263⟩, ⟨PyData.keyHash P (ucs [95,112,117,115,104,95,116,97,105,108]), .str (ucs [95,112,117,115,104,95,116,97,105,108]) 670, .ref 270⟩, ⟨PyData.keyHash P (ucs [105,110,100,101,120]), .str (ucs [105,110,100,101,120]) 680, .ref 277⟩, ⟨PyData.keyHash P (ucs [99,111,117,110,116]), .str (ucs [99,111,117,110,116]) 688, .ref 284⟩, ⟨PyData.keyHash P (ucs [100,101,108,101,116,101]), .str (ucs [100,101,108,101,116,101]) 698, .ref 292⟩, ⟨PyData.keyHash P (ucs [114,101,109,111,118,101]), .str (ucs [114,101,109,111,118,101]) 706, .ref 299⟩, ⟨PyData.keyHash P (ucs [95,95,115,116,97,116,105,99,95,97,116,116,114,105,98,117,116,101,115,95,95]), .str (ucs [95,95,115,116,97,116,105,99,95,97,116,116,114,105,98,117,116,101,115,95,95]) 712, .ref 300⟩, ⟨PyData.keyHash P (ucs [95,99,111,117,110,116]), .str (ucs [95,99,111,117,110,116]) 716, .ref 305⟩, ⟨PyData.keyHash P (ucs [95,114,111,111,116]), .str (ucs [95,114,111,111,116]) 718, .ref 306⟩, ⟨PyData.keyHash P (ucs [95,115,104,105,102,116]), .str (ucs [95,115,104,105,102,116]) 720, .ref 307⟩, ⟨PyData.keyHash P (ucs [95,116,97,105,108]), .str (ucs [95,116,97,105,108]) 722, .ref 308⟩, ⟨PyData.keyHash P (ucs [95,116,97,105,108,95,111,102,102,115,101,116]), .str (ucs [95,116,97,105,108,95,111,102,102,115,101,116]) 724, .ref 309⟩, ⟨PyData.keyHash P (ucs [95,95,119,101,97,107,114,101,102,95,95]), .str (ucs [95,95,119,101,97,107,114,101,102,95,95]) 726, .ref 310⟩, ⟨PyData.keyHash P (ucs [95,95,100,111,99,95,95]), .str (ucs [95,95,100,111,99,95,95]) 727, .none⟩, ⟨PyData.keyHash P (ucs [95,95,104,97,115,104,95,95]), .str (ucs [95,95,104,97,115,104,95,95]) 728, .none⟩] 10), #[]⟩,
  ⟨.type "type", none, (.cls { name := (ucs [80,121,116,104,111,110,80,86,101,99,116,111,114]), bases := [.type "object"], mro := [.ref 303, .type "object"], ns := 302, qualname := (ucs [80,121,116,104,111,110,80,86,101,99,116,111,114]), hasDict := false, slotNames := [(ucs [95,99,111,117,110,116]), (ucs [95,114,111,111,116]), (ucs [95,115,104,105,102,116]), (ucs [95,116,97,105,108]), (ucs [95,116,97,105,108,95,111,102,102,115,101,116])], subclasses := [], abstract := false, collection := none, hasDel := false }), #[(some (.ref 62)), none, (some (.str (ucs [80,121,116,104,111,110,80,86,101,99,116,111,114]) 387)), (some (.str (ucs [80,121,116,104,111,110,80,86,101,99,116,111,114]) 395)), (some .none), (some (.bool true))]⟩,
  ⟨.type "staticmethod", none, (.fields #[.ref 78]), #[]⟩,
  ⟨.type "member_descriptor", none, (.fields #[.str (ucs [95,99,111,117,110,116]) 715, .ref 303, .builtin "proto.slot", .builtin "proto.slot#set", .int (4) 0]), #[]⟩,
  ⟨.type "member_descriptor", none, (.fields #[.str (ucs [95,114,111,111,116]) 717, .ref 303, .builtin "proto.slot", .builtin "proto.slot#set", .int (3) 0]), #[]⟩,
  ⟨.type "member_descriptor", none, (.fields #[.str (ucs [95,115,104,105,102,116]) 719, .ref 303, .builtin "proto.slot", .builtin "proto.slot#set", .int (2) 0]), #[]⟩,
  ⟨.type "member_descriptor", none, (.fields #[.str (ucs [95,116,97,105,108]) 721, .ref 303, .builtin "proto.slot", .builtin "proto.slot#set", .int (1) 0]), #[]⟩,
  ⟨.type "member_descriptor", none, (.fields #[.str (ucs [95,116,97,105,108,95,111,102,102,115,101,116]) 723, .ref 303, .builtin "proto.slot", .builtin "proto.slot#set", .int (0) 0]), #[]⟩,
  ⟨.type "getset_descriptor", none, (.fields #[.str (ucs [95,95,119,101,97,107,114,101,102,95,95]) 725, .ref 303, .builtin "ExceptionGroup.__weakref__", .none]), #[]⟩,
  ⟨.type "super", none, (.fields #[.ref 303, .ref 303, .ref 303]), #[]⟩,
  ⟨.type "builtin_function_or_method", none, (.fields #[.builtin "object.__init_subclass__", .ref 303]), #[]⟩,
  ⟨.type "list", none, (.seq #[] 0), #[]⟩,
  ⟨.type "list", none, (.seq #[] 0), #[]⟩,
  ⟨.type "frame", none, (.dict #[⟨PyData.keyHash P (ucs [99,108,115]), .str (ucs [99,108,115]) 733, .ref 303⟩, ⟨PyData.keyHash P (ucs [99,111,117,110,116]), .str (ucs [99,111,117,110,116]) 734, .int (0) 731⟩, ⟨PyData.keyHash P (ucs [115,104,105,102,116]), .str (ucs [115,104,105,102,116]) 735, .int (5) 368⟩, ⟨PyData.keyHash P (ucs [114,111,111,116]), .str (ucs [114,111,111,116]) 736, .ref 313⟩, ⟨PyData.keyHash P (ucs [116,97,105,108]), .str (ucs [116,97,105,108]) 737, .ref 314⟩, ⟨PyData.keyHash P (ucs [115,101,108,102]), .str (ucs [115,101,108,102]) 739, .ref 318⟩] 6), #[]⟩,
  ⟨.type "super", none, (.fields #[.ref 303, .ref 303, .ref 303]), #[]⟩,
  ⟨.type "dict", none, (.dict #[] 0), #[]⟩,
  ⟨.ref 303, (some 317), .plain, #[(some (.int (0) 731)), (some (.ref 313)), (some (.int (5) 368)), (some (.ref 314)), (some (.int (0) 748))]⟩,
  ⟨.type "tuple", none, (.seq #[] 0), #[]⟩,
  ⟨.type "tuple", none, (.seq #[.ref 319] 0), #[]⟩,
  ⟨.type "tuple", none, (.seq #[] 0), #[]⟩,
  ⟨.none, none, (.fields #[]), #[]⟩,
  ⟨.type "tuple", none, (.seq #[.str (ucs [105,116,101,114,97,98,108,101]) 754] 0), #[]⟩,
  ⟨.type "tuple", none, (.seq #[] 0), #[]⟩,
  ⟨.none, none, (.func { fnD (nth (body0) 11) (ucs [112,121,116,104,111,110,95,112,118,101,99,116,111,114]) [] .none .none .none none .none .none with globals := 0 }), #[]⟩,
  ⟨.type "code", none, (.fields #[.str (ucs [112,121,116,104,111,110,95,112,118,101,99,116,111,114]) 751, .str (ucs [112,121,116,104,111,110,95,112,118,101,99,116,111,114]) 752, .str (ucs [47,99,108,97,105,109,47,99,117,116,46,112,121]) 753, .int (208) 0, .int (1) 0, .int (0) 0, .int (0) 0, .int (3) 0, .ref 321, .bool true, .int (338) 0, .ref 322, .none, .ref 323, .ref 324, .ref 325, .int (755) 0, .int (208) 0, .str (ucs [47,99,108,97,105,109,47,99,117,116,46,112,121]) 756]), #[]⟩,
  ⟨.type "function", none, (.func (fnD (nth (body0) 11) (ucs [112,121,116,104,111,110,95,112,118,101,99,116,111,114]) [] (.ref 320) .none (.str (ucs [112,121,114,115,105,115,116,101,110,116,46,95,112,118,101,99,116,111,114]) 351) none (.ref 326) .none)), #[]⟩,
  ⟨.type "tuple", none, (.seq #[] 0), #[]⟩,
  ⟨.none, none, (.fields #[]), #[]⟩,
  ⟨.none, none, (.func { fnD (nth (body0) 14) (ucs [108,97,119]) [] .none .none .none none .none .none with globals := 0 }), #[]⟩,
  ⟨.type "code", none, (.fields #[.str (ucs [108,97,119]) 761, .str (ucs [108,97,119]) 762, .str (ucs [47,99,108,97,105,109,47,99,117,116,46,112,121]) 763, .int (212) 0, .int (1) 0, .int (0) 0, .int (0) 0, .int (3) 0, .ref 328, .bool true, .int (338) 0, .ref 329, .none, .none, .none, .ref 330, .int (764) 0, .int (212) 0, .str (ucs [47,99,108,97,105,109,47,99,117,116,46,112,121]) 765]), #[]⟩,
  ⟨.type "function", none, (.func (fnD (nth (body0) 14) (ucs [108,97,119]) [] .none .none (.str (ucs [108,97,119,95,109,100,48,48,50,48,95,48,49]) 759) none (.ref 331) .none)), #[]⟩], {}⟩
open PySem.W.Fast in
theorem open_k (w : World) : (fencedOpening treeTable prog w 4634).map (fun s => (s.heap, s.gens, s.drawn, s.toks)) = some (H0 w.params, #[], {}, 338) := by
  have k : ((tw10274390034422433532 tw14364793385576792824 (opening prog) w 4634 (tw1435165496053646825 (opening prog)).1 (tw1435165496053646825 (opening prog)).2).bind (tw14289696077712309145 prog)).map (fun s => (s.heap, s.gens, s.drawn, s.toks)) = some (H0 w.params, #[], {}, 338) := by kernel_rfl!
  rw [← te10274390034422433532, ← te14364793385576792824, ← te1435165496053646825, ← te14289696077712309145] at k
  exact k
theorem size_k (w : World) : ((H0 w.params).isNs mainGlobals && (#[] : Array GenState).size == 0, (H0 w.params).objs.size, (H0 w.params).nsMap mainGlobals "__annotations__") = (true, 29, some (.ref 6)) := by kernel_rfl!
theorem run_k (w : World) (os : OsState) : ((toT ⟨H0 w.params, #[], {}, 338, os⟩).bind fun S => (topT prog w 29 (some (.ref 6)) 4634 S (topStub prog)).map (·.abs)) = some ⟨H1 w.params, #[], {}, 767, os⟩ := by kernel_rfl!
theorem look1 (w : World) (os : OsState) : (staticsOk (importedModules prog.main.body) (H0 w.params) (H1 w.params) && namesBound prog (H1 w.params) && gensDone ⟨H1 w.params, #[], {}, 767, os⟩ && laidKept (H0 w.params) (H1 w.params)) = true := by kernel_rfl!
theorem look2 (w : World) (os : OsState) : openSeen qv loose (importedModules prog.main.body) Xt true ⟨H1 w.params, #[], {}, 767, os⟩ = openGood qv loose := by kernel_rfl!
theorem look3 (w : World) (os : OsState) : hook.obs ⟨H1 w.params, #[], {}, 767, os⟩ = hook.val w := by kernel_rfl!
theorem left : LeftO prog qv loose Xt hook.obs hook.val 4634 :=
  LeftO.of_pieces (M := 4634) open_k size_k (fun w os => by
    obtain ⟨S, e1, e2⟩ := Option.bind_eq_some_iff.mp (run_k w os)
    obtain ⟨r, e3, e4⟩ := Option.map_eq_some_iff.mp e2
    have h := topT_of e3
    rw [toT_abs e1] at h
    exact h.trans (congrArg some e4)) (by decide) fun w => funext fun os => by
    rw [look1 w os, look2 w os, look3 w os]
end
/-! addresses -/
abbrev C : Nat := 303
abbrev NB : Nat := 328
abbrev fNew : Nat := 78
abbrev fLen : Nat := 85
abbrev fGetitem : Nat := 92
abbrev fFill : Nat := 176
abbrev fTolist : Nat := 183
abbrev fSet : Nat := 197
abbrev fDoSet : Nat := 204
abbrev fNodeFor : Nat := 211
abbrev fNewRoot : Nat := 221
abbrev fAppend : Nat := 228
abbrev fInsTail : Nat := 242
abbrev fFillTail : Nat := 249
abbrev fMutExt : Nat := 256
abbrev fExtend : Nat := 263
abbrev fPush : Nat := 270
abbrev fDelete : Nat := 292
abbrev aEmpty : Nat := 318
abbrev fPvector : Nat := 327
abbrev fIndexOr : Nat := 61
abbrev sCount : Nat := 305
abbrev sRoot : Nat := 306
abbrev sShift : Nat := 307
abbrev sTail : Nat := 308
abbrev sOff : Nat := 309

abbrev Sub (h h' : Heap) : Prop := ∀ b o, h.get? b = some o → h'.get? b = some o
theorem ltS {h : Heap} {a : Nat} {o : Obj} (e : h.get? a = some o) : a < h.objs.size := Heap.lt_size e
/-- the ground: the written part and the namespaces -/
structure Gr (w : World) (mg mb : Str → Option Value) (h : Heap) : Prop where
  X : (K w.params).In h
  g : h.Ns mainGlobals mg
  b : h.Ns builtinsNs mb
  lim : h.NoLimit
  bt : ∀ x : Str, x ≠ "__name__" → mb x = bootBuiltins x
theorem kLow : ∀ P, ((K P).all fun p => Nat.blt p.1 NB) = true := fun P => by kernel_rfl!
theorem lookup_mem {K : Frag} {a : Nat} {o : Obj} (e : K.lookup a = some o) : (a, o) ∈ K := by
  induction K with
  | nil => cases e
  | cons p r ih =>
    obtain ⟨b, x⟩ := p
    simp only [List.lookup] at e
    split at e
    · rename_i q; cases e; rw [beq_iff_eq.mp q]; exact .head _
    · exact .tail _ (ih e)
theorem Gr.low {w : World} {mg mb : Str → Option Value} {h h' : Heap} (G : Gr w mg mb h) (k : ∀ b o, b < NB → h.get? b = some o → h'.get? b = some o) : Gr w mg mb h' where
  X := fun a o e => k a o (Nat.le_of_ble_eq_true (List.all_eq_true.mp (kLow w.params) _ (lookup_mem e))) (G.X a o e)
  g := let ⟨o, es, ep, ho, r⟩ := G.g; ⟨o, es, ep, k _ _ (by decide) ho, r⟩
  b := let ⟨o, es, ep, ho, r⟩ := G.b; ⟨o, es, ep, k _ _ (by decide) ho, r⟩
  lim := G.lim.at fun o ho => k _ _ (by decide) ho
  bt := G.bt
theorem Gr.sub {w : World} {mg mb : Str → Option Value} {h h' : Heap} (G : Gr w mg mb h) (k : Sub h h') : Gr w mg mb h' := G.low fun b o _ e => k b o e
theorem Gr.size {w : World} {mg mb : Str → Option Value} {h : Heap} (G : Gr w mg mb h) : NB ≤ h.objs.size :=
  Heap.lt_size (G.X fPvector _ (by rfl))
theorem Gr.ofTop {w : World} {mg mb : Str → Option Value} {p : Program} {ls : List Str} {h : Heap} (X : (K w.params).In h) (T : TopRead p ls mg mb h) : Gr w mg mb h := ⟨X, T.g, T.b, T.nolimit, T.builtins⟩

/-- a frame: what is known for good (P), the names (m), what is one's own and may turn (own) -/
structure Fm (w : World) (mg mb : Str → Option Value) (P : Nat → Obj → Prop) (L : Nat) (h : Heap) (m : Str → Option Value) (own : List (Nat × Obj)) : Prop where
  G : Gr w mg mb h
  ns : h.Ns L m
  lo : NB ≤ L
  off : ∀ a o, P a o → a ≠ L
  keep : ∀ a o, P a o → h.get? a = some o
  own : ∀ p ∈ own, h.get? p.1 = some p.2 ∧ p.1 ≠ L ∧ NB ≤ p.1 ∧ ∀ o', ¬ P p.1 o'

section
variable {w : World} {mg mb : Str → Option Value} {P P' : Nat → Obj → Prop} {L : Nat} {h h' : Heap} {m m' : Str → Option Value} {own : List (Nat × Obj)} {a : Nat} {o o' : Obj}
theorem Fm.ltL (F : Fm w mg mb P L h m own) : L < h.objs.size := F.ns.lt
theorem Fm.set (F : Fm w mg mb P L h m own) (hn : h'.Ns L m') (hs : Heap.SameBut L h h') : Fm w mg mb P L h' m' own where
  G := F.G.low fun b o l e => (hs.2 b (Nat.ne_of_lt (Nat.lt_of_lt_of_le l F.lo))).trans e
  ns := hn
  lo := F.lo
  off := F.off
  keep := fun a o p => (hs.2 a (F.off a o p)).trans (F.keep a o p)
  own := fun p hp => let ⟨a1, a2, a3⟩ := F.own p hp; ⟨(hs.2 p.1 a2).trans a1, a2, a3⟩
theorem Fm.alloc (F : Fm w mg mb P L h m own) (o : Obj) (hf : o.isFreed = false := by rfl) : Fm w mg mb P L (h.push o) m ((h.objs.size, o) :: own) where
  G := F.G.sub fun b o e => Heap.get?_push_of_some _ e
  ns := let ⟨o, es, ep, ho, r⟩ := F.ns; ⟨o, es, ep, Heap.get?_push_of_some _ ho, r⟩
  lo := F.lo
  off := F.off
  keep := fun a o p => Heap.get?_push_of_some _ (F.keep a o p)
  own := fun p hp => by
    rcases List.mem_cons.mp hp with rfl | hp
    · exact ⟨Heap.get?_push_size _ hf, Nat.ne_of_gt F.ltL, F.G.size, fun o' q => absurd (Heap.lt_size (F.keep _ _ q)) (Nat.lt_irrefl _)⟩
    · exact let ⟨a1, a2⟩ := F.own p hp; ⟨Heap.get?_push_of_some _ a1, a2⟩
/-- one more known -/
abbrev Add (P : Nat → Obj → Prop) (a : Nat) (o : Obj) : Nat → Obj → Prop := fun b x => P b x ∨ (b = a ∧ x = o)
theorem Fm.freeze (F : Fm w mg mb P L h m ((a, o) :: own)) (hne : ∀ p ∈ own, p.1 ≠ a) : Fm w mg mb (Add P a o) L h m own where
  G := F.G
  ns := F.ns
  lo := F.lo
  off := fun b x q => q.elim (F.off b x) fun e => e.1 ▸ (F.own _ (.head _)).2.1
  keep := fun b x q => q.elim (F.keep b x) fun e => by rw [e.1, e.2]; exact (F.own _ (.head _)).1
  own := fun p hp => let ⟨a1, a2, a3, a4⟩ := F.own p (.tail _ hp); ⟨a1, a2, a3, fun o' q => q.elim (a4 o') fun e => hne p hp e.1⟩
theorem Fm.drop (F : Fm w mg mb P L h m own) {own' : List (Nat × Obj)} (hs : ∀ p ∈ own', p ∈ own) : Fm w mg mb P L h m own' :=
  ⟨F.G, F.ns, F.lo, F.off, F.keep, fun p hp => F.own p (hs p hp)⟩
/-- an own thing turned -/
theorem Fm.upd (F : Fm w mg mb P L h m ((a, o) :: own)) {f : Obj → Obj} (e : f o = o') (hf : o'.isFreed = false) (hne : ∀ p ∈ own, p.1 ≠ a) : Fm w mg mb P L (h.update a f) m ((a, o') :: own) where
  G := F.G.low fun b x l q => (Heap.get?_update_ne _ _ _ _ (Nat.ne_of_lt (Nat.lt_of_lt_of_le l (F.own _ (.head _)).2.2.1))).trans q
  ns := let ⟨x, es, ep, ho, r⟩ := F.ns; ⟨x, es, ep, (Heap.get?_update_ne _ _ _ _ (Ne.symm (F.own _ (.head _)).2.1)).trans ho, r⟩
  lo := F.lo
  off := F.off
  keep := fun b x q => (Heap.get?_update_ne _ _ _ _ fun z => (F.own _ (.head _)).2.2.2 x (by subst z; exact q)).trans (F.keep b x q)
  own := fun p hp => by
    rcases List.mem_cons.mp hp with rfl | hp
    · exact ⟨e ▸ Heap.get?_update_self _ (F.own _ (.head _)).1 (e ▸ hf), (F.own _ (.head _)).2⟩
    · exact let ⟨a1, a2⟩ := F.own p (.tail _ hp); ⟨(Heap.get?_update_ne _ _ _ _ (hne p hp)).trans a1, a2⟩
/-- an own thing turned, told by what stays -/
theorem Fm.turn (F : Fm w mg mb P L h m ((a, o) :: own)) (hs : Heap.SameBut a h h') (ho : h'.get? a = some o') (hne : ∀ p ∈ own, p.1 ≠ a) : Fm w mg mb P L h' m ((a, o') :: own) where
  G := F.G.low fun b x l q => (hs.2 b (Nat.ne_of_lt (Nat.lt_of_lt_of_le l (F.own _ (.head _)).2.2.1))).trans q
  ns := let ⟨x, es, ep, hx, r⟩ := F.ns; ⟨x, es, ep, (hs.2 L (Ne.symm (F.own _ (.head _)).2.1)).trans hx, r⟩
  lo := F.lo
  off := F.off
  keep := fun b x q => (hs.2 b fun z => (F.own _ (.head _)).2.2.2 x (by subst z; exact q)).trans (F.keep b x q)
  own := fun p hp => by
    rcases List.mem_cons.mp hp with rfl | hp
    · exact ⟨ho, (F.own _ (.head _)).2⟩
    · exact let ⟨a1, a2⟩ := F.own p (.tail _ hp); ⟨(hs.2 p.1 (hne p hp)).trans a1, a2⟩
/-- something made at the heap's end -/
theorem Fm.made (F : Fm w mg mb P L h m own) (k : Sub h h') (ho : h'.get? h.objs.size = some o) : Fm w mg mb P L h' m ((h.objs.size, o) :: own) where
  G := F.G.sub k
  ns := let ⟨x, es, ep, hx, r⟩ := F.ns; ⟨x, es, ep, k _ _ hx, r⟩
  lo := F.lo
  off := F.off
  keep := fun a o p => k _ _ (F.keep a o p)
  own := fun p hp => by
    rcases List.mem_cons.mp hp with rfl | hp
    · exact ⟨ho, Nat.ne_of_gt F.ltL, F.G.size, fun o' q => absurd (Heap.lt_size (F.keep _ _ q)) (Nat.lt_irrefl _)⟩
    · exact let ⟨a1, a2⟩ := F.own p hp; ⟨k _ _ a1, a2⟩
theorem Fm.madeAt (F : Fm w mg mb P L h m own) (k : Sub h h') (ho : h'.get? a = some o) (la : h.objs.size ≤ a) : Fm w mg mb P L h' m ((a, o) :: own) where
  G := F.G.sub k
  ns := let ⟨x, es, ep, hx, r⟩ := F.ns; ⟨x, es, ep, k _ _ hx, r⟩
  lo := F.lo
  off := F.off
  keep := fun a o p => k _ _ (F.keep a o p)
  own := fun p hp => by
    rcases List.mem_cons.mp hp with rfl | hp
    · exact ⟨ho, Nat.ne_of_gt (Nat.lt_of_lt_of_le F.ltL la), Nat.le_trans F.G.size la, fun o' q => absurd (Heap.lt_size (F.keep _ _ q)) (Nat.not_lt.mpr la)⟩
    · exact let ⟨a1, a2⟩ := F.own p hp; ⟨k _ _ a1, a2⟩
theorem Fm.apart (F : Fm w mg mb P L h m own) (la : h.objs.size ≤ a) : ∀ p ∈ own, p.1 ≠ a := fun p hp e => absurd (Heap.lt_size (F.own p hp).1) (by rw [e]; exact Nat.not_lt.mpr la)
theorem Fm.above (F : Fm w mg mb P L h m own) (la : h.objs.size ≤ a) : L < a := Nat.lt_of_lt_of_le F.ltL la
theorem Fm.fresh (F : Fm w mg mb P L h m own) : L < h.objs.size ∧ ∀ p ∈ own, p.1 ≠ h.objs.size := ⟨F.ltL, fun p hp e => absurd (Heap.lt_size (F.own p hp).1) (by rw [e]; exact Nat.lt_irrefl _)⟩
theorem Fm.kept (F : Fm w mg mb P L h m own) (k : Sub h h') : Fm w mg mb P L h' m own :=
  ⟨F.G.sub k, let ⟨x, es, ep, hx, r⟩ := F.ns; ⟨x, es, ep, k _ _ hx, r⟩, F.lo, F.off, fun a o p => k _ _ (F.keep a o p), fun p hp => let ⟨a1, a2⟩ := F.own p hp; ⟨k _ _ a1, a2⟩⟩
theorem Fm.get (F : Fm w mg mb P L h m own) (q : P a o) : h.get? a = some o := F.keep a o q
theorem Fm.ownAt (F : Fm w mg mb P L h m own) (q : (a, o) ∈ own) : h.get? a = some o := (F.own _ q).1
/-- what a call hands on: more is known, all of it stands, what is new lies above -/
structure Ge (P P' : Nat → Obj → Prop) (h h' : Heap) : Prop where
  mono : ∀ a o, P a o → P' a o
  new : ∀ a o, P' a o → P a o ∨ h.objs.size ≤ a
  at_ : ∀ a o, P' a o → h'.get? a = some o
/-- behind a call that keeps all -/
theorem Fm.behind (F : Fm w mg mb P L h m own) (k : Sub h h') (g : Ge P P' h h') : Fm w mg mb P' L h' m own where
  G := F.G.sub k
  ns := let ⟨x, es, ep, ho, r⟩ := F.ns; ⟨x, es, ep, k _ _ ho, r⟩
  lo := F.lo
  off := fun a o q => (g.new a o q).elim (F.off a o) fun l => Nat.ne_of_gt (Nat.lt_of_lt_of_le F.ltL l)
  keep := g.at_
  own := fun p hp => let ⟨a1, a2, a3, a4⟩ := F.own p hp; ⟨k _ _ a1, a2, a3, fun o' q => (g.new _ o' q).elim (a4 o') fun l => absurd (Heap.lt_size a1) (Nat.not_lt.mpr l)⟩
end

/-! lists -/
abbrev listObj (xs : List Value) (n : Nat) : Obj := { cls := .type "list", data := .seq xs.toArray n }
abbrev PL (P : Nat → Obj → Prop) (l : Nat) (xs : List Value) : Prop := ∃ n, P l (listObj xs n)
theorem PL.isList {P : Nat → Obj → Prop} {h : Heap} {l : Nat} {xs : List Value} (x : PL P l xs) (k : ∀ a o, P a o → h.get? a = some o) : h.IsList l xs.toArray := let ⟨n, q⟩ := x; ⟨_, k _ _ q, rfl, n, rfl⟩
theorem isList_at {h : Heap} {l : Nat} {xs : List Value} {n : Nat} (e : h.get? l = some (listObj xs n)) : h.IsList l xs.toArray := ⟨_, e, rfl, n, rfl⟩

/-! the vectors -/
abbrev vecObj (d : Nat) (c : Int) (tc : Tok) (r : Nat) (sh : Int) (ts : Tok) (t : Nat) (f : Int) (tf : Tok) : Obj :=
  ⟨.ref C, some d, .plain, #[some (.int c tc), some (.ref r), some (.int sh ts), some (.ref t), some (.int f tf)]⟩
def Leaves (P : Nat → Obj → Prop) : List Nat → List (List Value) → Prop
  | [], [] => True
  | a :: as, l :: ls => PL P a l ∧ l.length = 32 ∧ Leaves P as ls
  | _, _ => False
theorem Leaves.mono {P P' : Nat → Obj → Prop} (k : ∀ a o, P a o → P' a o) : ∀ {as : List Nat} {ls : List (List Value)}, Leaves P as ls → Leaves P' as ls
  | [], [], _ => trivial
  | _ :: _, _ :: _, ⟨⟨n, q⟩, e, r⟩ => ⟨⟨n, k _ _ q⟩, e, Leaves.mono k r⟩
  | [], _ :: _, h => h.elim
  | _ :: _, [], h => h.elim
/-- a vector's make: its parts, told -/
structure VecOf (P : Nat → Obj → Prop) (d r : Nat) (as : List Nat) (ls : List (List Value)) : Prop where
  dict : P d (dictOf [] 0)
  root : PL P r (as.map .ref)
  leaves : Leaves P as ls
theorem VecOf.mono {P P' : Nat → Obj → Prop} (k : ∀ a o, P a o → P' a o) {d r : Nat} {as : List Nat} {ls : List (List Value)} (x : VecOf P d r as ls) : VecOf P' d r as ls :=
  ⟨k _ _ x.dict, let ⟨n, q⟩ := x.root; ⟨n, k _ _ q⟩, x.leaves.mono k⟩
def Vec (P : Nat → Obj → Prop) (v : Nat) (xs : List Value) : Prop := ∃ (d r t : Nat) (tc ts tf : Tok) (as : List Nat) (ls : List (List Value)) (tl : List Value),
  P v (vecObj d xs.length tc r 5 ts t (xs.length - tl.length : Nat) tf) ∧ VecOf P d r as ls ∧ PL P t tl ∧ tl.length ≤ 32 ∧ xs = ls.flatten ++ tl
theorem Vec.mono {P P' : Nat → Obj → Prop} (k : ∀ a o, P a o → P' a o) {v : Nat} {xs : List Value} (x : Vec P v xs) : Vec P' v xs :=
  let ⟨d, r, t, tc, ts, tf, as, ls, tl, a1, a2, ⟨n, a3⟩, a4, a5⟩ := x
  ⟨d, r, t, tc, ts, tf, as, ls, tl, k _ _ a1, a2.mono k, ⟨n, k _ _ a3⟩, a4, a5⟩

/-! the steps -/
section
variable {w : World} {mg mb : Str → Option Value} {P P' : Nat → Obj → Prop} {L a : Nat} {m m' : Str → Option Value} {own : List (Nat × Obj)} {A : Around} {E : Value → Shared → Prop} {s : Shared} {env : Env}
theorem nmL {M : Model} {x : Str} {pos : Pos} {v : Value} {Q : Value → Shared → Prop} (F : Fm w mg mb P L s.heap m own) (hv : m x = some v) (h : Q v s)
    (hL : env.locals = L := by rfl) (hk : env.scope.kind = .function := by rfl) (hl : env.kindOf x = some .local := by rfl) (hd : (x == ("__debug__" : Str)) = false := by decide) :
    wpAny M A (eval (.Name x pos) env) Q E s := wpAny_Name (wpAny_loadName_local hk hl (by rw [hL]; exact F.ns) hv h) hd
theorem lnL {M : Model} {x : Str} {v : Value} {Q : Value → Shared → Prop} (F : Fm w mg mb P L s.heap m own) (hv : m x = some v) (h : Q v s)
    (hL : env.locals = L := by rfl) (hk : env.scope.kind = .function := by rfl) (hl : env.kindOf x = some .local := by rfl) :
    wpAny M A (loadName env x) Q E s := wpAny_loadName_local hk hl (by rw [hL]; exact F.ns) hv h
theorem nmG {M : Model} {x : Str} {pos : Pos} {v : Value} {Q : Value → Shared → Prop} (F : Fm w mg mb P L s.heap m own) (hv : nsIn (K w.params) mainGlobals x = some (some v)) (h : Q v s)
    (hG : env.globals = mainGlobals := by rfl) (hk : env.scope.kind = .function := by rfl) (hl : env.kindOf x = some .globalImplicit := by rfl) (hd : (x == ("__debug__" : Str)) = false := by decide) :
    wpAny M A (eval (.Name x pos) env) Q E s :=
  Calls.Name_function_global hk hl (Calls.loadGlobal_global (env := env) (by rw [hG]; exact F.G.g) (mg_of F.G.X F.G.g hv) h) hd
theorem nmB {M : Model} {x : Str} {pos : Pos} {v : Value} {Q : Value → Shared → Prop} (F : Fm w mg mb P L s.heap m own) (hm : nsIn (K w.params) mainGlobals x = some none) (hv : bootBuiltins x = some v) (hn : x ≠ "__name__") (h : Q v s)
    (hG : env.globals = mainGlobals := by rfl) (hB : env.builtins = builtinsNs := by rfl) (hk : env.scope.kind = .function := by rfl) (hl : env.kindOf x = some .globalImplicit := by rfl) (hd : (x == ("__debug__" : Str)) = false := by decide) :
    wpAny M A (eval (.Name x pos) env) Q E s :=
  Calls.Name_function_global hk hl (Calls.loadGlobal_builtin (env := env) (by rw [hG]; exact F.G.g) (mg_none_of F.G.X F.G.g hm) (by rw [hB]; exact F.G.b) ((F.G.bt x hn).trans hv) h) hd
theorem stL {M : Model} {x : Str} {v : Value} {Q : Unit → Shared → Prop} (F : Fm w mg mb P L s.heap m own)
    (h : ∀ h', Fm w mg mb P L h' (fun y => if y = x then some v else m y) own → Q () { s with heap := h', toks := s.toks + 1 })
    (hL : env.locals = L := by rfl) (hk : env.scope.kind = .function := by rfl) (hl : env.kindOf x = some .local := by rfl) :
    wpAny M A (storeName env x v) Q E s := by
  subst hL
  exact wpAny_storeName_local hl F.ns (fun h' hn hs => h h' (F.set hn hs)) (by rw [hk]; rfl)
theorem newL {M : Model} {vs : List Value} {Q : Value → Shared → Prop} (F : Fm w mg mb P L s.heap m own)
    (h : ∀ l h', Fm w mg mb P L h' m ((l, listObj vs 0) :: own) → L < l → (∀ p ∈ own, p.1 ≠ l) → Q (.ref l) { s with heap := h' }) (hsz : vs.length ≤ sizeLine := by size_fits) :
    wpAny M A (newList vs) Q E s :=
  wpAny_newObj_type (h _ _ (F.alloc _) F.ltL fun p hp e => absurd (Heap.lt_size (F.own p hp).1) (by rw [e]; exact Nat.lt_irrefl _)) (by show vs.toArray.size ≤ sizeLine; rw [List.size_toArray]; exact hsz)
theorem newT {M : Model} {vs : List Value} {Q : Value → Shared → Prop} (F : Fm w mg mb P L s.heap m own)
    (h : ∀ l h', Fm w mg mb P L h' m ((l, { cls := .type "tuple", data := .seq vs.toArray }) :: own) → L < l → (∀ p ∈ own, p.1 ≠ l) → Q (.ref l) { s with heap := h' }) (hsz : vs.length ≤ sizeLine := by size_fits) :
    wpAny M A (newTuple vs) Q E s :=
  wpAny_newObj_type (h _ _ (F.alloc _) F.ltL fun p hp e => absurd (Heap.lt_size (F.own p hp).1) (by rw [e]; exact Nat.lt_irrefl _)) (by show vs.toArray.size ≤ sizeLine; rw [List.size_toArray]; exact hsz)
end

/-! the text's own class: fields and methods -/
theorem kc_plain (P : Params) (nm : Str) : plainGet (K P) C nm = true := by
  unfold plainGet
  rw [show findIn (K P) (.ref C) "__getattribute__" = some (some (.builtin "object.__getattribute__")) by kernel_rfl!, show findIn (K P) (.ref C) "__getattr__" = some none by kernel_rfl!]
  rfl
theorem kc_cls (P : Params) : isClsIn (K P) C = true := by kernel_rfl!
theorem ga {w : World} {mg mb : Str → Option Value} {A : Around} {E Q : Value → Shared → Prop} {s : Shared} {x d p : Nat} {sl : Array (Option Value)} {name : Str} {i : Nat} {v : Value} {ex : Bool}
    (G : Gr w mg mb s.heap) (hx : s.heap.get? x = some ⟨.ref C, some d, .plain, sl⟩) (hd : s.heap.get? d = some (dictOf [] 0)) (ha : findIn (K w.params) (.ref C) name = some (some (.ref p)))
    (hn : specialIn (K w.params) (.ref p) "__get__" = some (some (.builtin "member_descriptor.__get__"))) (ht : takesIn (K w.params) (.ref p) = some true) (hp : slotIn (K w.params) p C = some i)
    (hv : (sl[i]?).join = some v) (hh : handedIn v = true) (h : Q v { s with toks := s.toks + 1 }) : wpAny (model prog w) A (getAttr (.ref x) name ex) Q E s :=
  have I : InstAt s.heap x ⟨.ref C, some d, .plain, sl⟩ C (some (dictOf [] 0)) := ⟨hx, rfl, rfl, hd⟩
  get_bind G.X I (plainGet_of (kc_plain _ name)).1 (findObj_data (kc_cls _) ha hn ht) (plainGet_of (kc_plain _ name)).2 (wpAny_call (slot_get (s := { s with toks := s.toks + 1 }) G.X I hp hv (handed_on hh h)))
theorem sub0 {own : List (Nat × Obj)} : ∀ p ∈ ([] : List (Nat × Obj)), p ∈ own := fun _ h => nomatch h
theorem sub1 {own r : List (Nat × Obj)} {a : Nat × Obj} (h : a ∈ own) (t : ∀ p ∈ r, p ∈ own) : ∀ p ∈ a :: r, p ∈ own := fun p hp => (List.mem_cons.mp hp).elim (fun e => e ▸ h) (t p)
theorem apart0 {x : Nat} : ∀ p ∈ ([] : List (Nat × Obj)), p.1 ≠ x := fun _ h => nomatch h
theorem apart1 {x b : Nat} {o : Obj} {r : List (Nat × Obj)} (h : b ≠ x) (t : ∀ p ∈ r, p.1 ≠ x) : ∀ p ∈ (b, o) :: r, p.1 ≠ x := fun p hp => (List.mem_cons.mp hp).elim (fun e => e ▸ h) (t p)
theorem apartSub {x : Nat} {own r : List (Nat × Obj)} (n : ∀ p ∈ own, p.1 ≠ x) (s : ∀ p ∈ r, p ∈ own) : ∀ p ∈ r, p.1 ≠ x := fun p hp => n p (s p hp)
theorem after0 {h' : Heap} {l : List Nat} {n : Nat} : ∀ p ∈ ([] : List (Nat × Obj)), h'.get? p.1 = some p.2 ∧ (p.1 ∈ l ∨ n ≤ p.1) := fun _ h => nomatch h
theorem after1 {h' : Heap} {l : List Nat} {n b : Nat} {o : Obj} {r : List (Nat × Obj)} (h : h'.get? b = some o ∧ (b ∈ l ∨ n ≤ b)) (t : ∀ p ∈ r, h'.get? p.1 = some p.2 ∧ (p.1 ∈ l ∨ n ≤ p.1)) : ∀ p ∈ (b, o) :: r, h'.get? p.1 = some p.2 ∧ (p.1 ∈ l ∨ n ≤ p.1) := fun p hp => (List.mem_cons.mp hp).elim (fun e => e ▸ h) (t p)
theorem q12 (L : Nat) : L + 1 ≠ L + 2 := by omega
theorem q13 (L : Nat) : L + 1 ≠ L + 3 := by omega
theorem q23 (L : Nat) : L + 2 ≠ L + 3 := by omega
section
open PySem PySem.W PyProof.Rows PySem.Calls Builtin Builtin.ObjectAttr Builtin.Getset_descriptor
section
variable {prog : Program} {w : World} {A : Around} {R : Result → Shared → Prop} {s : Shared} {K : Frag} {x C : Nat}
theorem slotSet {ox : Obj} {od : Option Obj} {v : Value} {p i : Nat} (X : K.In s.heap) (I : InstAt s.heap x ox C od)
    (hp : slotIn K p C = some i) (hi : i < 1000)
    (h : R (.ok (.ret .none)) { s with heap := s.heap.update x (fun o => { o with slots := (o.slots ++ Array.replicate (i + 1 - o.slots.size) none).setIfInBounds i (some v) }) }) :
    codeAny (model prog w) A (.call (.builtin "member_descriptor.__set__") ⟨[.ref p, .ref x, v], []⟩) R s := by
  obtain ⟨n, tn, owner, behind, tb, d, sl, cd, ho, hc, hm, hb, rfl⟩ := slot_of X hp
  obtain ⟨hh, g, dr, t, os⟩ := s
  have L0 := I.type (M := model prog w)
  have L1 := looks_mroIn (M := model prog w) X hm
  have L2 : Looks (model prog w) hh (Slots.slotNamesOf (.ref C)) cd.slotNames := (looks_clsIn X hc).andThen .now
  have hx := I.at_
  dsimp only at ho hx L0 L1
  have f0 := looks_field (M := model prog w) ho 0 (v := .str n tn) rfl
  have f1 := looks_field (M := model prog w) ho 1 (v := owner) rfl
  have f3 := looks_field (M := model prog w) ho 3 (v := .builtin "proto.slot#set") rfl
  have f4 := looks_field (M := model prog w) ho 4 (v := .int behind tb) rfl
  refine codeAny_call_builtin KF.slot_mset.plain KF.entry_mset (KF.slot_mset.check _ _ _ _ _ _ _ _ ⟨_, ho, rfl⟩ (KF.args_mset _ _ _) ?_)
  unfold Builtin.«member_descriptor.__set__» descrSet descrStoreThrough descrCheckInstance descrNameAndClass isInstance
  have f5 : Looks (model prog w) hh (descrItself (.ref p)) [.ref p] := ((Looks.ld (part := none) ho).andThen .now).andThen (Looks.of_pure (by kernel_rfl))
  repeat lk
  refine ⟨Code.quiet_builtin _ (by decide +kernel), codeAny_builtin KF.entry_slotset ?_⟩
  unfold Builtin.«proto.slot#set» Slots.target
  repeat lk
  rw [if_neg hb]
  refine wpAny_pure (wpAny_bind ?_)
  unfold setSlotAt
  dsimp only
  rw [if_neg (by rw [sizeLine_eq]; omega)]
  exact wpAny_updatePart hx (wpAny_pure h)
end
theorem kc_over (P : Params) : plainOver (K P) C = true := by kernel_rfl!
theorem kc_setattr (P : Params) : findIn (K P) (.ref C) "__setattr__" = some (some (.builtin "object.__setattr__")) := by kernel_rfl!
theorem sa {w : World} {mg mb : Str → Option Value} {P : Nat → Obj → Prop} {L : Nat} {m : Str → Option Value} {own : List (Nat × Obj)} {A : Around} {E : Value → Shared → Prop} {Q : Unit → Shared → Prop} {s : Shared} {x d p : Nat} {sl sl' : Array (Option Value)} {name : Str} {i : Nat} {v : Value}
    (F : Fm w mg mb P L s.heap m ((x, ⟨.ref C, some d, .plain, sl⟩) :: own)) (hne : ∀ p ∈ own, p.1 ≠ x) (hd : s.heap.get? d = some (dictOf [] 0)) (ht : takerIn (K w.params) C name = some (some (.ref p))) (hT : typeIn (K w.params) (.ref p) = some (.type "member_descriptor"))
    (hi : slotIn (K w.params) p C = some i) (hz : i < 1000) (e : (sl ++ Array.replicate (i + 1 - sl.size) none).setIfInBounds i (some v) = sl')
    (h : ∀ h', Fm w mg mb P L h' m ((x, ⟨.ref C, some d, .plain, sl'⟩) :: own) → Q () { s with heap := h', toks := s.toks + 1 }) : wpAny (model prog w) A (setAttr (.ref x) name v) Q E s := by
  have hx := (F.own _ (.head _)).1
  have I : InstAt s.heap x ⟨.ref C, some d, .plain, sl⟩ C (some (dictOf [] 0)) := ⟨hx, rfl, rfl, hd⟩
  refine set_plain F.G.X I (kc_setattr _) (osa_descr (s := { s with toks := s.toks + 1 }) KF.slot_mset F.G.X I (kc_over _) ht hT (slotSet (s := { s with toks := s.toks + 1 }) F.G.X I hi hz ?_))
  exact h _ (F.upd (f := fun o => { o with slots := (o.slots ++ Array.replicate (i + 1 - o.slots.size) none).setIfInBounds i (some v) }) (by rw [← e]) rfl hne)
section
variable {w : World} {mg mb : Str → Option Value} {A : Around} {E Q : Value → Shared → Prop} {s : Shared} {x d : Nat} {c : Int} {tc : Tok} {r : Nat} {sh : Int} {ts : Tok} {t : Nat} {f : Int} {tf : Tok} {ex : Bool}
theorem ga_count (G : Gr w mg mb s.heap) (hx : s.heap.get? x = some (vecObj d c tc r sh ts t f tf)) (hd : s.heap.get? d = some (dictOf [] 0)) (h : Q (.int c tc) { s with toks := s.toks + 1 }) : wpAny (model prog w) A (getAttr (.ref x) "_count" ex) Q E s :=
  ga (p := sCount) (i := 0) G hx hd (by kernel_rfl!) (by kernel_rfl!) (by kernel_rfl!) (by kernel_rfl!) rfl rfl h
theorem ga_root (G : Gr w mg mb s.heap) (hx : s.heap.get? x = some (vecObj d c tc r sh ts t f tf)) (hd : s.heap.get? d = some (dictOf [] 0)) (h : Q (.ref r) { s with toks := s.toks + 1 }) : wpAny (model prog w) A (getAttr (.ref x) "_root" ex) Q E s :=
  ga (p := sRoot) (i := 1) G hx hd (by kernel_rfl!) (by kernel_rfl!) (by kernel_rfl!) (by kernel_rfl!) rfl rfl h
theorem ga_shift (G : Gr w mg mb s.heap) (hx : s.heap.get? x = some (vecObj d c tc r sh ts t f tf)) (hd : s.heap.get? d = some (dictOf [] 0)) (h : Q (.int sh ts) { s with toks := s.toks + 1 }) : wpAny (model prog w) A (getAttr (.ref x) "_shift" ex) Q E s :=
  ga (p := sShift) (i := 2) G hx hd (by kernel_rfl!) (by kernel_rfl!) (by kernel_rfl!) (by kernel_rfl!) rfl rfl h
theorem ga_tail (G : Gr w mg mb s.heap) (hx : s.heap.get? x = some (vecObj d c tc r sh ts t f tf)) (hd : s.heap.get? d = some (dictOf [] 0)) (h : Q (.ref t) { s with toks := s.toks + 1 }) : wpAny (model prog w) A (getAttr (.ref x) "_tail" ex) Q E s :=
  ga (p := sTail) (i := 3) G hx hd (by kernel_rfl!) (by kernel_rfl!) (by kernel_rfl!) (by kernel_rfl!) rfl rfl h
theorem ga_off (G : Gr w mg mb s.heap) (hx : s.heap.get? x = some (vecObj d c tc r sh ts t f tf)) (hd : s.heap.get? d = some (dictOf [] 0)) (h : Q (.int f tf) { s with toks := s.toks + 1 }) : wpAny (model prog w) A (getAttr (.ref x) "_tail_offset" ex) Q E s :=
  ga (p := sOff) (i := 4) G hx hd (by kernel_rfl!) (by kernel_rfl!) (by kernel_rfl!) (by kernel_rfl!) rfl rfl h
end
/-- a method of the class's, looked up at a vector -/
theorem gm {w : World} {mg mb : Str → Option Value} {A : Around} {E : Value → Shared → Prop} {s : Shared} {x d fn : Nat} {sl : Array (Option Value)} {name : Str} {pl : Sem Bool} {Q : Value × List Value → Shared → Prop}
    (G : Gr w mg mb s.heap) (hx : s.heap.get? x = some ⟨.ref C, some d, .plain, sl⟩) (hd : s.heap.get? d = some (dictOf [] 0)) (hf : findIn (K w.params) (.ref C) name = some (some (.ref fn))) (ht : typeIn (K w.params) (.ref fn) = some (.type "function"))
    (h : Q (.ref fn, [.ref x]) s) : wpAny (model prog w) A (getMethod (.ref x) name pl) Q E s :=
  have I : InstAt s.heap x ⟨.ref C, some d, .plain, sl⟩ C (some (dictOf [] 0)) := ⟨hx, rfl, rfl, hd⟩
  method_fn G.X I (plainGet_of (kc_plain _ name)).1 (plainGet_of (kc_plain _ name)).2 hf ht rfl h
end
section
open PySem PySem.W PyProof.Rows PySem.Calls Builtin
section
variable {w : World} {A : Around} {E : Value → Shared → Prop} {R : Result → Shared → Prop} {h : Heap} {g : Array GenState} {d : Drawn} {t : Nat} {os : OsState}
theorem clsAt {h : Heap} (X : (K w.params).In h) : ∃ oc od cd sl, h.get? C = some ⟨oc, od, .cls cd, sl⟩ ∧ cd.abstract = false ∧ cd.hasDel = false ∧ cd.mro = [.ref C, .type "object"] ∧ cd.hasDict = false := ⟨_, _, _, _, X C _ (by rfl), rfl, rfl, rfl, rfl⟩
theorem newObj0 (X : (K w.params).In h) (hq : R (.ok (.ret (.ref (h.objs.size + 1)))) ⟨(h.push emptyDict).push (instObj C h.objs.size), g, d, t, os⟩) :
    codeAny (model prog w) A (.call (.builtin "object.__new__") ⟨[.ref C], []⟩) R ⟨h, g, d, t, os⟩ := by
  have F := PySem.F.objNew
  obtain ⟨oc, od, cd, sl, hC, e1, e2, e3, e4⟩ := clsAt X
  have here : Looks (model prog w) h (Bind.madeHere "object.__new__" (.ref C)) () := Looks.of_peek X (by kernel_rfl!)
  have chk : Looks (model prog w) h (checkBuiltinCall "object.__new__" ⟨[.ref C], []⟩) () := Looks.of_peek X (by kernel_rfl!)
  refine codeAny_call_builtin_code (Code.quiet_builtin _ F.quiet) (chk.at ?_)
  refine codeAny_builtin F.entry ?_
  unfold Builtin.«object.__new__»
  have fin : ∀ A', wpAny (model prog w) A' (do
      let d ← if typeHasDict (.ref C) then some <$> alloc { cls := .type "dict", data := .dict #[] } else pure none
      ret (← newObj (.ref C) .plain d)) (fun fin s' => match fin with | .done f => R (.ok f) s' | .again c' => c'.quiet = true ∧ codeAny (model prog w) A c' R s') (fun e s' => R (.error e) s') ⟨h, g, d, t, os⟩ := by
    intro A'
    show wpAny _ _ ((alloc emptyDict >>= fun x => pure (some x)) >>= _) _ _ _
    refine wpAny_bind (wpAny_bind (wpAny_alloc (wpAny_pure (wpAny_bind ?_))))
    show wpAny _ _ (newObjAsIs _ _ _) _ _ _
    unfold newObjAsIs classHasDel
    refine wpAny_bind (wpAny_alloc (wpAny_bind (wpAny_bind (wpAny_load (Heap.get?_push_of_some _ (Heap.get?_push_of_some _ hC)) (wpAny_pure ?_)))))
    rw [e2]
    refine wpAny_pure (wpAny_pure ?_)
    show R _ _
    rw [Heap.size_push]
    exact hq
  repeat (first | simp only [e1, Bool.false_eq_true, if_false] | exact fin _ | lk)

theorem superCall {Q : Value → Shared → Prop} (X : (K w.params).In h)
    (hq : ∀ h', h'.get? h.objs.size = some { cls := .type "super", dict := none, data := .fields #[.ref C, .ref C, .ref C], slots := #[] } → Sub h h' → Q (.ref h.objs.size) ⟨h', g, d, t, os⟩) :
    wpAny (model prog w) A (call (.type "super") [.ref C, .ref C]) Q E ⟨h, g, d, t, os⟩ := by
  obtain ⟨oc, od, cd, sl, hD, e1, e2, e3, e4⟩ := clsAt X
  refine ks_callType_codesW (Q₁ := fun obj s₁ => obj = .ref h.objs.size ∧ s₁ = ⟨h.push { cls := .type "super", data := .fields #[.none, .none, .none] }, g, d, t, os⟩) PySem.F.ks_called_super (ks_wpAny_checkTypeCall_super hD rfl) PySem.F.ks_entry_super_init
    (ks_code_super_new _ _ ⟨rfl, rfl⟩) fun obj s₁ h₁ => ?_
  obtain ⟨rfl, rfl⟩ := h₁
  have up : ∀ y o, h.get? y = some o → (h.push { cls := .type "super", data := .fields #[.none, .none, .none] }).get? y = some o := fun y o e => Heap.get?_push_of_some _ e
  have hso : (h.push { cls := .type "super", data := .fields #[.none, .none, .none] }).get? h.objs.size = some { cls := .type "super", dict := none, data := .fields #[.none, .none, .none], slots := #[] } := Heap.get?_push_at rfl rfl
  have hD' := up _ _ hD
  have hsub : Looks (model prog w) h (isSubtype (.ref C) (.ref C)) true := Looks.of_peek X (by kernel_rfl!)
  have hsub' := hsub.keeps up
  refine ⟨⟨_, hso, rfl⟩, PySem.F.ks_initArgs_super _ _ _, ?_⟩
  unfold Builtin.«super.__init__» noKeywords
  repeat (first | (with_reducible refine ks_wpAny_isType_cls hD' rfl ?_) | (with_reducible refine Looks.at hsub' ?_) | (with_reducible refine ks_wpAny_super_set3 hso ?_) | wp_step)
  intro h' e k
  exact ⟨rfl, hq h' e fun y o ey => k y o (Nat.ne_of_lt (Heap.lt_size ey)) (up y o ey)⟩

theorem superGa {so : Nat} {tk : Tok} {Q : Fin → Shared → Prop} (X : (K w.params).In h)
    (hso : h.get? so = some { cls := .type "super", dict := none, data := .fields #[.ref C, .ref C, .ref C], slots := #[] }) (hq : Q (.done (.ret (.builtin "object.__new__"))) ⟨h, g, d, t, os⟩) :
    wpAny (model prog w) A (Builtin.«super.__getattribute__» ⟨[.ref so, .str "__new__" tk], []⟩) Q E ⟨h, g, d, t, os⟩ := by
  have hno : Looks (model prog w) h (opaqueClassAbove (.ref C)) none := looks_opaque X (by kernel_rfl!)
  have hC : Looks (model prog w) h (mroOf (.ref C)) [.ref C, .type "object"] := Looks.of_peek X (by kernel_rfl!)
  have hdt : ({ cls := .type "super", dict := none, data := .fields #[.ref C, .ref C, .ref C], slots := #[] } : Obj).data = .fields #[.ref C, .ref C, .ref C] := rfl
  have f0 : (#[.ref C, .ref C, .ref C] : Array Value)[0]? = some (.ref C) := rfl
  have f1 : (#[.ref C, .ref C, .ref C] : Array Value)[1]? = some (.ref C) := rfl
  have f2 : (#[.ref C, .ref C, .ref C] : Array Value)[2]? = some (.ref C) := rfl
  have hl : (([.ref C, .type "object"] : List Value).dropWhile (· != .ref C)).drop 1 = [.type "object"] := by kernel_rfl!
  have own : Looks (model prog w) h (classOwn (.type "object") "__new__") (some (.builtin "object.__new__")) := Looks.of_peek X (by kernel_rfl!)
  have ty : Looks (model prog w) h (typeOf (.builtin "object.__new__")) (.type "builtin_function_or_method") := Looks.of_peek X (by kernel_rfl!)
  have lk : Looks (model prog w) h (typeLookup (.type "builtin_function_or_method") "__get__") none := Looks.of_peek X (by kernel_rfl!)
  unfold Builtin.«super.__getattribute__»
  repeat (first
    | (with_reducible refine wpAny_field hso hdt f0 ?_) | (with_reducible refine wpAny_field hso hdt f1 ?_) | (with_reducible refine wpAny_field hso hdt f2 ?_)
    | (with_reducible refine ks_wpAny_notOpaque hno ?_)
    | (with_reducible refine Looks.at hC ?_; rw [hl])
    | (with_reducible refine Looks.at own ?_) | (with_reducible refine Looks.at ty ?_) | (with_reducible refine Looks.at lk ?_)
    | wp_step
    | dsimp only)
  all_goals exact hq

theorem superGm {so : Nat} {pl : Sem Bool} {Q : Value × List Value → Shared → Prop} (X : (K w.params).In h)
    (hso : h.get? so = some { cls := .type "super", dict := none, data := .fields #[.ref C, .ref C, .ref C], slots := #[] }) (hq : Q (.builtin "object.__new__", []) ⟨h, g, d, t + 1, os⟩) :
    wpAny (model prog w) A (getMethod (.ref so) "__new__" pl) Q E ⟨h, g, d, t, os⟩ := by
  have hlk := PySem.F.ks_slot_super_ga.lookup
  have hcan := PySem.F.ks_canon_super_ga
  have hT : ∀ t', (⟨h, g, d, t', os⟩ : Shared).TypeIs (.ref so) "super" := fun _ => ⟨_, hso, rfl⟩
  unfold getMethod
  refine wpAny_bind (wpAny_specialOf (hT _) hlk ?_)
  show wpAny _ _ (if (Manifest.canonical "super.__getattribute__" != "object.__getattribute__") = true then _ else _) _ _ _
  rw [if_pos hcan]
  unfold getAttr getAttrBy
  refine wpAny_bind (wpAny_bind (wpAny_mkText (wpAny_holding (wpAny_bind (wpAny_typeOf (hT _) (wpAny_bind (wpAny_of_eq hlk ?_)))))))
  show wpAny _ _ (getAttrByItsOwn (.ref so) (.str "__new__" t) (.type "super") (.builtin "super.__getattribute__") true false) _ _ _
  unfold getAttrByItsOwn hookBefore callGetattribute boundAndCalled
  refine wpAny_bind (wpAny_of_eq (show (if onTheHeap (.type "super") then typeLookup (.type "super") "__getattr__" else pure none) = pure none from rfl) ?_)
  refine wpAny_bind (wpAny_attempt (wpAny_holding ?_))
  show wpAny _ _ (bindSpecial (.builtin "super.__getattribute__") (.ref so) >>= _) _ _ _
  refine wpAny_bind (wpAny_of_eq (PySem.F.ks_slot_super_ga.bind _) ?_)
  refine wpAny_mono (Q := fun v s' => v = .builtin "object.__new__" ∧ s' = ⟨h, g, d, t + 1, os⟩) (E := fun _ _ => False)
    (wpAny_call_entry PySem.F.ks_slot_super_ga (hT _) PySem.F.ks_entry_super_ga (superGa X hso ⟨_, rfl, rfl, rfl⟩) (PySem.F.ks_gaArgs_super _ _)) (fun v s' hv => ?_) fun _ _ z => z.elim
  obtain ⟨rfl, rfl⟩ := hv
  exact wpAny_pure (wpAny_pure hq)

theorem getNew {ex : Bool} {Q : Value → Shared → Prop} (X : (K w.params).In h) (hq : Q (.ref fNew) ⟨h, g, d, t + 1, os⟩) : wpAny (model prog w) A (getAttr (.ref C) "__new__" ex) Q E ⟨h, g, d, t, os⟩ := by
  refine cls_bind (mc := .type "type") (g := .builtin "staticmethod.__get__") (a := .ref 304) (obj := .none) (tp := .ref C) (s := ⟨h, g, d, t, os⟩) X (by kernel_rfl!) (by kernel_rfl!) (wpAny_call (sm_get (f := .ref fNew) (rest := []) X (by kernel_rfl!) ?_))
  exact handed_on rfl hq

theorem initCall {x dx : Nat} {sl : Array (Option Value)} {rest : List Value} {Q : Value → Shared → Prop} (X : (K w.params).In h) (hx : h.get? x = some ⟨.ref C, some dx, .plain, sl⟩) (hq : Q .none ⟨h, g, d, t, os⟩) :
    wpAny (model prog w) A (call (.builtin "object.__init__") (.ref x :: rest)) Q E ⟨h, g, d, t, os⟩ := by
  have t1 : Looks (model prog w) h (typeOf (.ref x)) (.ref C) := (Looks.ld hx).andThen .now
  have t0 : Looks (model prog w) h (isSubtype (.ref C) (.type "object")) true := Looks.of_peek X (by kernel_rfl!)
  have t2 : Looks (model prog w) h (isInstance (.ref x) (.type "object")) true := t1.andThen t0
  have t3 : Looks (model prog w) h (typeLookup (.ref C) "__init__") (some (.builtin "object.__init__")) := Looks.of_peek X (by kernel_rfl!)
  have made : Looks (model prog w) h (Bind.madeBy (.ref C)) none := Looks.of_peek X (by kernel_rfl!)
  refine wpAny_call (codeAny_call_builtin oi_plain entry_oi (@check_slot (model prog w) _ _ _ "object.__init__" "object" "__init__" (.ref x) rest [] _ oi_kind oi_split t2 (by unfold argsOk; kernel_rfl) ?_))
  unfold Builtin.«object.__init__»
  cases rest with
  | nil => exact wpAny_pure hq
  | cons a r =>
    repeat (first | (with_reducible refine Looks.at t1 ?_) | (with_reducible refine Looks.at t3 ?_) | (with_reducible refine Looks.at made ?_) | lk)
    exact hq

/-- the class called: __new__ first, then object.__init__ (which takes what __new__ took) -/
theorem makeBy {rest : List Value} (X : (K w.params).In h)
    (hn : codeAny (model prog w) (A.under (.builtin "type.__call__" ⟨.ref C :: rest, []⟩)) (.call (.ref fNew) ⟨.ref C :: rest, []⟩)
      (fun r s' => match r with | .ok (.ret v) => ∃ x dx sl, v = .ref x ∧ (K w.params).In s'.heap ∧ s'.heap.get? x = some ⟨.ref C, some dx, .plain, sl⟩ ∧ R (.ok (.ret (.ref x))) s' | .ok _ => False | .error e => R (.error e) s')
      ⟨h, g, d, t + 1, os⟩) :
    codeAny (model prog w) A (.call (.ref C) ⟨rest, []⟩) R ⟨h, g, d, t, os⟩ := by
  obtain ⟨oc, od, cd, sl, hC, e1, e2, e3, e4⟩ := clsAt X
  have call : Looks (model prog w) h (specialOf (.ref C) "__call__") (some (.builtin "type.__call__")) := Looks.of_peek X (by kernel_rfl!)
  have typ : Looks (model prog w) h (isInstance (.ref C) (.type "type")) true := Looks.of_peek X (by kernel_rfl!)
  have made : Looks (model prog w) h (Bind.madeBy (.ref C)) none := Looks.of_peek X (by kernel_rfl!)
  have hm : Looks (model prog w) h (mroOf (.ref C)) [.ref C, .type "object"] := Looks.of_peek X (by kernel_rfl!)
  refine codeAny_of_tree ?_
  show wpAny _ _ (callAny (.ref C) _) _ _ _
  refine nd_load hC ?_
  show wpAny _ _ (callAny.viaDunder (.ref C) _) _ _ _
  unfold callAny.viaDunder
  refine wpAny_bind (call.at ?_)
  dsimp only
  rw [tc_bind]
  refine wpAny_bind (wpAny_pure (wpAny_bind (wpAny_pure ?_)))
  refine wpAny_pure (a := Fin.again (.call (.builtin "type.__call__") ⟨.ref C :: rest, []⟩)) (And.intro rfl ?_)
  refine codeAny_call_builtin_at (Code.quiet_builtin _ (by decide +kernel)) entry_typeCall (check_slot tc_kind tc_split typ (tc_args _ _ _) ?_)
  unfold Builtin.«type.__call__»
  repeat (first | (with_reducible refine getNew X ?_) | (with_reducible refine wpAny_call ?_) | lk)
  refine codeAny_mono hn fun r s' z => ?_
  rcases r with e | (v | _ | _ | _) <;> first | exact z | exact z.elim | skip
  obtain ⟨x, dx, sl', rfl, X', hx, z⟩ := z
  obtain ⟨h', g', d', t', os'⟩ := s'
  dsimp only at X' hx
  have t1 : Looks (model prog w) h' (typeOf (.ref x)) (.ref C) := (Looks.ld hx).andThen .now
  have t0 : Looks (model prog w) h' (isSubtype (.ref C) (.ref C)) true := Looks.of_peek X' (by kernel_rfl!)
  have t3 : Looks (model prog w) h' (typeLookup (.ref C) "__init__") (some (.builtin "object.__init__")) := Looks.of_peek X' (by kernel_rfl!)
  have b1 := oi_bind (.ref x)
  unfold isInstance callSpecial? specialOf
  repeat (first | (with_reducible refine Looks.at t1 ?_) | (with_reducible refine Looks.at t0 ?_) | (with_reducible refine Looks.at t3 ?_) | rw [b1] | ((with_reducible show wpAny _ _ (PySem.call (.builtin "object.__init__") _) _ _ _); refine initCall (rest := rest) X' hx ?_) | lk)
  exact z
end
end
section
open PySem PySem.W PyProof.Rows PySem.Calls Builtin
/-- all that stands in a heap -/
abbrev At (h : Heap) : Nat → Obj → Prop := fun a o => h.get? a = some o
/-- .. but some addresses -/
abbrev AtBut (h : Heap) (S : List Nat) : Nat → Obj → Prop := fun a o => h.get? a = some o ∧ a ∉ S
theorem enterC {w : World} {mg mb : Str → Option Value} {P : Nat → Obj → Prop} {own : List (Nat × Obj)} {A : Around} {s : Shared} {R : Result → Shared → Prop} {f : Nat} {oc : Value} {od : Option Nat} {osl : Array (Option Value)}
    {name qual : Str} {params : Arguments} {body : List Stmt} {scope : Scope} {cl : List (Str × Nat)} {dV kV doc pm cdv ct : Value} {an : Option Nat} {vals : List Value} (binds : List (Str × Value))
    (G : Gr w mg mb s.heap) (hP : ∀ a o, P a o → s.heap.get? a = some o) (hO : ∀ p ∈ own, s.heap.get? p.1 = some p.2 ∧ NB ≤ p.1 ∧ ∀ o', ¬ P p.1 o')
    (ho : (K w.params).lookup f = some ⟨oc, od, .func (fnX name qual params body scope cl dV kV doc pm an cdv ct), osl⟩)
    (hcd : codeIn (K w.params) cdv qual = true) (hroom : A.depth < recursionLimit) (hbind : BindsTo s (fnX name qual params body scope cl dV kV doc pm an cdv ct) ⟨vals, []⟩ binds)
    (hloc : ∀ y ∈ binds, scope.names.lookup y.1 = some .local)
    (h : ∀ L h₁, L = s.heap.objs.size → Fm w mg mb P L h₁ (fun y => binds.reverse.lookup y) own →
      wpAny (model prog w) (A.deeper (envX qual scope L f cdv cl)) (execs body (envX qual scope L f cdv cl))
        (fun fl s' => R (.ok (.ret (match fl with | .ret v => v | _ => .none))) s') (fun _ _ => False) { s with heap := h₁, toks := s.toks + binds.length })
    (hco : scope.isCoroutine = false := by rfl) (hgen : scope.isGenerator = false := by rfl) (hk : scope.kind = .function := by rfl) (hcell : ∀ x ∈ scope.names, x.2 ≠ .cell := by decide) :
    codeAny (model prog w) A (.call (.ref f) ⟨vals, []⟩) R s := by
  refine codeAny_call_def (fd := fnX name qual params body scope cl dV kV doc pm an cdv ct) (binds := binds) hroom (G.X _ _ ho) rfl G.lim (codeRec_of G.X hcd) rfl hbind hcell hloc (fun h₁ hns hk₁ => ?_) hco hgen hk
  refine wpAny_mono (h _ h₁ rfl ⟨G.sub hk₁, hns, G.size, fun a o p e => ?_, fun a o p => hk₁ _ _ (hP a o p), fun p hp => ?_⟩) (fun _ _ q => q) (fun _ _ q => q.elim)
  · exact absurd (Heap.lt_size (hP a o p)) (by rw [e]; exact Nat.lt_irrefl _)
  · obtain ⟨a1, a2, a3⟩ := hO p hp
    exact ⟨hk₁ _ _ a1, Nat.ne_of_lt (Heap.lt_size a1), a2, a3⟩
theorem enter {w : World} {mg mb : Str → Option Value} {P : Nat → Obj → Prop} {own : List (Nat × Obj)} {A : Around} {s : Shared} {Q E : Value → Shared → Prop} {f : Nat} {oc : Value} {od : Option Nat} {osl : Array (Option Value)}
    {name qual : Str} {params : Arguments} {body : List Stmt} {scope : Scope} {cl : List (Str × Nat)} {dV kV doc pm cdv ct : Value} {an : Option Nat} {vals : List Value} (binds : List (Str × Value))
    (G : Gr w mg mb s.heap) (hP : ∀ a o, P a o → s.heap.get? a = some o) (hO : ∀ p ∈ own, s.heap.get? p.1 = some p.2 ∧ NB ≤ p.1 ∧ ∀ o', ¬ P p.1 o')
    (ho : (K w.params).lookup f = some ⟨oc, od, .func (fnX name qual params body scope cl dV kV doc pm an cdv ct), osl⟩)
    (hcd : codeIn (K w.params) cdv qual = true) (hroom : A.depth < recursionLimit) (hbind : BindsTo s (fnX name qual params body scope cl dV kV doc pm an cdv ct) ⟨vals, []⟩ binds)
    (hloc : ∀ y ∈ binds, scope.names.lookup y.1 = some .local)
    (h : ∀ L h₁, L = s.heap.objs.size → Fm w mg mb P L h₁ (fun y => binds.reverse.lookup y) own →
      wpAny (model prog w) (A.deeper (envX qual scope L f cdv cl)) (execs body (envX qual scope L f cdv cl))
        (fun fl s' => Q (match fl with | .ret v => v | _ => .none) s') (fun _ _ => False) { s with heap := h₁, toks := s.toks + binds.length })
    (hco : scope.isCoroutine = false := by rfl) (hgen : scope.isGenerator = false := by rfl) (hk : scope.kind = .function := by rfl) (hcell : ∀ x ∈ scope.names, x.2 ≠ .cell := by decide) :
    wpAny (model prog w) A (call (.ref f) vals) Q E s := wpAny_call (enterC binds G hP hO ho hcd hroom hbind hloc h hco hgen hk hcell)
section
variable {w : World} {mg mb : Str → Option Value} {P P' : Nat → Obj → Prop} {L l b : Nat} {m m' : Str → Option Value} {own : List (Nat × Obj)} {A : Around} {E Q : Value → Shared → Prop} {s : Shared} {xs ys : List Value} {n n2 : Nat}
theorem lenL (hl : s.heap.get? l = some (listObj xs n)) (hz : xs.length < 2 ^ 30) (h : Q (.int xs.length (s.toks + 1)) { s with toks := s.toks + 1 + 1 }) : wpAny (model prog w) A (call (.builtin "len") [.ref l]) Q E s := by
  refine Calls.call_len_list (isList_at hl) (by simp; omega) ?_
  simpa using h
theorem copyL (F : Fm w mg mb P L s.heap m own) (hl : s.heap.get? l = some (listObj xs n)) (hz : xs.length < 2 ^ 20)
    (h : ∀ D c h', Fm w mg mb P L h' m ((D, listObj xs c) :: own) → L < D → (∀ p ∈ own, p.1 ≠ D) → Q (.ref D) { s with heap := h' }) : wpAny (model prog w) A (call (.type "list") [.ref l]) Q E s :=
  call_list_seq l (.inl rfl) hl rfl rfl (fun h' c' hk hD => h _ c' h' (F.made hk hD) F.fresh.1 F.fresh.2) (hsz := by rw [sizeLine_eq, List.size_toArray]; omega)
theorem gm_list {name : Str} {id : String} {pl : Sem Bool} {Q : Value × List Value → Shared → Prop} (hl : s.heap.get? l = some (listObj xs n)) (slot : Slot "list" name id) (hty : typeOf (.builtin id) = pure (.type "method_descriptor"))
    (h : Q (.builtin id, [.ref l]) s) : wpAny (model prog w) A (getMethod (.ref l) name pl) Q E s :=
  getMethod_list_of slot hty (isList_at hl) ⟨_, hl, rfl⟩ h
theorem appendL {x : Value} (F : Fm w mg mb P L s.heap m ((l, listObj xs n) :: own)) (hne : ∀ p ∈ own, p.1 ≠ l) (hz : xs.length < 2 ^ 20)
    (h : ∀ c h', Fm w mg mb P L h' m ((l, listObj (xs ++ [x]) c) :: own) → Q .none { s with heap := h' }) : wpAny (model prog w) A (call (.builtin "list.append") [.ref l, x]) Q E s := by
  refine wpAny_list_append_plain (items := xs.toArray) ⟨n, (F.own _ (.head _)).1⟩ (fun h' ⟨c, e⟩ hs => h c h' (F.turn hs ?_ hne)) (by rw [sizeLine_eq, List.size_toArray]; omega)
  simpa using e
theorem extendL (F : Fm w mg mb P L s.heap m ((l, listObj xs n) :: own)) (hne : ∀ p ∈ own, p.1 ≠ l) (hb : s.heap.get? b = some (listObj ys n2)) (hz : xs.length + ys.length < 2 ^ 20)
    (h : ∀ c h', Fm w mg mb P L h' m ((l, listObj (xs ++ ys) c) :: own) → Q .none { s with heap := h' }) : wpAny (model prog w) A (call (.builtin "list.extend") [.ref l, .ref b]) Q E s := by
  have z := F.own _ (.head _)
  refine call_meets PySem.F.slot_list_extend ⟨_, z.1, rfl⟩ PySem.F.entry_list_extend (PySem.F.args_list_extend_2 _ _) (PySem.AutoSeq1.list_extend_list_list_0 l xs.toArray n b ys.toArray n2 ?_ (by rw [sizeLine_eq, List.size_toArray]; omega) (by rw [sizeLine_eq, List.size_toArray, List.size_toArray]; omega)) ⟨z.1, hb, ?_⟩
  · have : Builtin.List.listTooLong (xs.toArray.size + ys.toArray.size) = false := by
      unfold Builtin.List.listTooLong
      simp [sizeLine_eq]
      omega
    rw [this, Bool.and_false]; decide
  · refine h (if (xs ++ ys).length = xs.length then n else n + 1) _ (F.turn (Heap.SameBut.update ..) ?_ hne)
    refine (Heap.get?_update_self _ z.1 rfl).trans ?_
    simp [Obj.mapSeq]
theorem setL {k : Int} {t : Tok} {v : Value} {Q : Unit → Shared → Prop} (F : Fm w mg mb P L s.heap m ((l, listObj xs n) :: own)) (hne : ∀ p ∈ own, p.1 ≠ l) (h0 : 0 ≤ k) (hk : k.toNat < xs.length) (hz : xs.length < 2 ^ 20)
    (h : ∀ c h', Fm w mg mb P L h' m ((l, listObj (xs.set k.toNat v) c) :: own) → Q () { s with heap := h' }) : wpAny (model prog w) A (setItem (.ref l) (.int k t) v) Q E s := by
  have z := F.own _ (.head _)
  have hl := isList_at z.1
  unfold setItem
  try with_reducible refine wpAny_holding ?_
  first | refine wpAny_bind (wpAny_pure ?_) | skip
  refine wpAny_bind (wpAny_sequenceKey hl.typeIs (by decide) ?_)
  refine wpAny_bind (wpAny_callSpecial?_slot (name := Str.ofString "__setitem__") hl.typeIs slot_list_setitem
    (wpAny_call_entry slot_list_setitem hl.typeIs entry_list_setitem ?_ (args_list_setitem _ _ _)))
  show wpAny _ _ (Builtin.List.listSubscript? (.int k t) >>= _) _ _ s
  refine wpAny_bind (wpAny_listSubscript_int (fitsIndex_of h0 (by omega)) ?_)
  obtain ⟨j, rfl⟩ := Int.eq_ofNat_of_zero_le h0
  have hj : j < xs.toArray.size := by simpa using hk
  have hx' : xs.toArray[j]? = some xs.toArray[j] := Array.getElem?_eq_getElem hj
  show wpAny _ _ ((seqItemAt l j >>= fun r => pure (r.map (j, ·))) >>= _) _ _ s
  refine wpAny_bind (wpAny_bind (wpAny_seqItemAt z.1 rfl (wpAny_pure ?_)))
  rw [hx']
  show wpAny _ _ (setSeqItemAt l j v >>= _) _ _ s
  have fin : (s.heap.update l (Obj.mapSeq (·.setIfInBounds j v))).get? l = some (listObj (xs.set j v) n) := by
    refine (Heap.get?_update_self _ z.1 rfl).trans ?_
    simp [Obj.mapSeq]
  have q := h n _ (F.turn (Heap.SameBut.update ..) fin hne)
  refine wpAny_bind (wpAny_setSeqItemAt z.1 rfl ?_)
  first
    | exact wpAny_bind (wpAny_pure (wpAny_pure ⟨.none, rfl, wpAny_pure q⟩))
    | exact wpAny_pure ⟨.none, rfl, wpAny_pure q⟩
end
end
theorem g_SHIFT (P : Params) : nsIn (K P) mainGlobals "SHIFT" = some (some (.int 5 368)) := by kernel_rfl!
theorem g_MASK (P : Params) : nsIn (K P) mainGlobals "BIT_MASK" = some (some (.int 31 363)) := by kernel_rfl!
theorem g_BF (P : Params) : nsIn (K P) mainGlobals "BRANCH_FACTOR" = some (some (.int 32 360)) := by kernel_rfl!
theorem g_Cls (P : Params) : nsIn (K P) mainGlobals "PythonPVector" = some (some (.ref C)) := by kernel_rfl!
theorem g_Empty (P : Params) : nsIn (K P) mainGlobals "_EMPTY_PVECTOR" = some (some (.ref aEmpty)) := by kernel_rfl!
theorem g_IndexOr (P : Params) : nsIn (K P) mainGlobals "_index_or_slice" = some (some (.ref fIndexOr)) := by kernel_rfl!
theorem g_pvector (P : Params) : nsIn (K P) mainGlobals "pvector" = some (some (.ref fPvector)) := by kernel_rfl!
theorem g_compare (P : Params) : nsIn (K P) mainGlobals "compare_pvector" = some (some (.ref 54)) := by kernel_rfl!
theorem g_eq (P : Params) : nsIn (K P) mainGlobals "eq" = some (some (.builtin "_operator.eq")) := by kernel_rfl!
theorem n_list (P : Params) : nsIn (K P) mainGlobals "list" = some none := by kernel_rfl!
theorem n_len (P : Params) : nsIn (K P) mainGlobals "len" = some none := by kernel_rfl!
theorem n_isinstance (P : Params) : nsIn (K P) mainGlobals "isinstance" = some none := by kernel_rfl!
theorem n_range (P : Params) : nsIn (K P) mainGlobals "range" = some none := by kernel_rfl!
theorem n_super (P : Params) : nsIn (K P) mainGlobals "super" = some none := by kernel_rfl!
theorem n_slice (P : Params) : nsIn (K P) mainGlobals "slice" = some none := by kernel_rfl!
theorem n_int (P : Params) : nsIn (K P) mainGlobals "int" = some none := by kernel_rfl!
theorem n_zip (P : Params) : nsIn (K P) mainGlobals "zip" = some none := by kernel_rfl!
theorem n_IndexError (P : Params) : nsIn (K P) mainGlobals "IndexError" = some none := by kernel_rfl!
theorem n_hasattr (P : Params) : nsIn (K P) mainGlobals "hasattr" = some none := by kernel_rfl!
theorem b_list : bootBuiltins "list" = some (.type "list") := by first | exact PyProof.Rows.boot_list | exact PySem.W.boot_list | kernel_rfl!
theorem b_len : bootBuiltins "len" = some (.builtin "len") := by first | exact PyProof.Rows.boot_len | exact PySem.W.boot_len | kernel_rfl!
theorem b_isinstance : bootBuiltins "isinstance" = some (.builtin "isinstance") := by first | exact PyProof.Rows.boot_isinstance | exact PySem.W.boot_isinstance | kernel_rfl!
theorem b_range : bootBuiltins "range" = some (.type "range") := by first | exact PyProof.Rows.boot_range | exact PySem.W.boot_range | kernel_rfl!
theorem b_super : bootBuiltins "super" = some (.type "super") := by first | exact PyProof.Rows.boot_super | exact PySem.W.boot_super | kernel_rfl!
theorem b_slice : bootBuiltins "slice" = some (.type "slice") := by first | exact PyProof.Rows.boot_slice | exact PySem.W.boot_slice | kernel_rfl!
theorem b_int : bootBuiltins "int" = some (.type "int") := by first | exact PyProof.Rows.boot_int | exact PySem.W.boot_int | kernel_rfl!
theorem b_zip : bootBuiltins "zip" = some (.type "zip") := by first | exact PyProof.Rows.boot_zip | exact PySem.W.boot_zip | kernel_rfl!
theorem b_IndexError : bootBuiltins "IndexError" = some (.type "IndexError") := by first | exact PyProof.Rows.boot_IndexError | exact PySem.W.boot_IndexError | kernel_rfl!
theorem b_hasattr : bootBuiltins "hasattr" = some (.builtin "hasattr") := by first | exact PyProof.Rows.boot_hasattr | exact PySem.W.boot_hasattr | kernel_rfl!
theorem mf_append (P : Params) : findIn (K P) (.ref C) "append" = some (some (.ref fAppend)) := by kernel_rfl!
theorem mt_append (P : Params) : typeIn (K P) (.ref fAppend) = some (.type "function") := by kernel_rfl!
theorem mf_tolist (P : Params) : findIn (K P) (.ref C) "tolist" = some (some (.ref fTolist)) := by kernel_rfl!
theorem mt_tolist (P : Params) : typeIn (K P) (.ref fTolist) = some (.type "function") := by kernel_rfl!
theorem mf_extend (P : Params) : findIn (K P) (.ref C) "extend" = some (some (.ref fExtend)) := by kernel_rfl!
theorem mt_extend (P : Params) : typeIn (K P) (.ref fExtend) = some (.type "function") := by kernel_rfl!
theorem mf_newRoot (P : Params) : findIn (K P) (.ref C) "_create_new_root" = some (some (.ref fNewRoot)) := by kernel_rfl!
theorem mt_newRoot (P : Params) : typeIn (K P) (.ref fNewRoot) = some (.type "function") := by kernel_rfl!
theorem mf_push (P : Params) : findIn (K P) (.ref C) "_push_tail" = some (some (.ref fPush)) := by kernel_rfl!
theorem mt_push (P : Params) : typeIn (K P) (.ref fPush) = some (.type "function") := by kernel_rfl!
theorem mf_insTail (P : Params) : findIn (K P) (.ref C) "_mutating_insert_tail" = some (some (.ref fInsTail)) := by kernel_rfl!
theorem mt_insTail (P : Params) : typeIn (K P) (.ref fInsTail) = some (.type "function") := by kernel_rfl!
theorem mf_fillTail (P : Params) : findIn (K P) (.ref C) "_mutating_fill_tail" = some (some (.ref fFillTail)) := by kernel_rfl!
theorem mt_fillTail (P : Params) : typeIn (K P) (.ref fFillTail) = some (.type "function") := by kernel_rfl!
theorem mf_mutExt (P : Params) : findIn (K P) (.ref C) "_mutating_extend" = some (some (.ref fMutExt)) := by kernel_rfl!
theorem mt_mutExt (P : Params) : typeIn (K P) (.ref fMutExt) = some (.type "function") := by kernel_rfl!
theorem mf_fill (P : Params) : findIn (K P) (.ref C) "_fill_list" = some (some (.ref fFill)) := by kernel_rfl!
theorem mt_fill (P : Params) : typeIn (K P) (.ref fFill) = some (.type "function") := by kernel_rfl!
theorem mf_set (P : Params) : findIn (K P) (.ref C) "set" = some (some (.ref fSet)) := by kernel_rfl!
theorem mt_set (P : Params) : typeIn (K P) (.ref fSet) = some (.type "function") := by kernel_rfl!
theorem mf_doSet (P : Params) : findIn (K P) (.ref C) "_do_set" = some (some (.ref fDoSet)) := by kernel_rfl!
theorem mt_doSet (P : Params) : typeIn (K P) (.ref fDoSet) = some (.type "function") := by kernel_rfl!
theorem mf_delete (P : Params) : findIn (K P) (.ref C) "delete" = some (some (.ref fDelete)) := by kernel_rfl!
theorem mt_delete (P : Params) : typeIn (K P) (.ref fDelete) = some (.type "function") := by kernel_rfl!
section
variable {w : World} {mg mb : Str → Option Value} {P : Nat → Obj → Prop} {L : Nat} {m : Str → Option Value} {own : List (Nat × Obj)} {A : Around} {E Q : Value → Shared → Prop} {s : Shared} {env : Env} {pos : Pos} {f : Value} {first : List Value} {e : Expr} {rest : List Expr}
theorem cwK (F : Fm w mg mb P L s.heap m own) (hk : keepIn (K w.params) f = true)
    (h : wpAny (model prog w) A (spliced (backTo pos (starEach (e :: rest) env))) (fun vs s₁ => (K w.params).In s₁.heap ∧ wpAny (model prog w) A (call f (first ++ vs)) Q E s₁) E s)
    (h1 : starEach (e :: rest) env = (false, eval e env) :: starEach rest env := by rfl) (h2 : ((backTo pos (starEach rest env)).any fun x => x.fst) = false := by rfl) :
    wpAny (model prog w) A (callWith pos f first (backTo pos (starEach (e :: rest) env)) []) Q E s := callWith_K F.G.X hk h h1 h2
theorem cwK0 (F : Fm w mg mb P L s.heap m own) (hk : keepIn (K w.params) f = true) (h : wpAny (model prog w) A (call f (first ++ [])) Q E s) :
    wpAny (model prog w) A (callWith pos f first (backTo pos (starEach [] env)) []) Q E s := callWith_K0 F.G.X hk h
end
local macro_rules | `(tactic| walk_at "keep") => `(tactic| kernel_rfl!)
local macro_rules | `(tactic| walk_at "nm") => `(tactic| first | assumption | rfl | exact if_pos rfl | (refine (if_neg (by decide)).trans ?_; walk_at "nm"))
local macro_rules | `(tactic| walk_at "gl") => `(tactic| with_reducible first | exact g_SHIFT _ | exact g_MASK _ | exact g_BF _ | exact g_Cls _ | exact g_Empty _ | exact g_IndexOr _ | exact g_pvector _ | exact g_compare _ | exact g_eq _)
local macro_rules | `(tactic| walk_at "gn") => `(tactic| with_reducible first | exact n_list _ | exact n_len _ | exact n_isinstance _ | exact n_range _ | exact n_super _ | exact n_slice _ | exact n_int _ | exact n_zip _ | exact n_IndexError _ | exact n_hasattr _)
local macro_rules | `(tactic| walk_at "gb") => `(tactic| with_reducible first | exact b_list | exact b_len | exact b_isinstance | exact b_range | exact b_super | exact b_slice | exact b_int | exact b_zip | exact b_IndexError | exact b_hasattr)
local macro_rules | `(tactic| walk_at "mf") => `(tactic| with_reducible first | exact mf_append _ | exact mf_tolist _ | exact mf_extend _ | exact mf_newRoot _ | exact mf_push _ | exact mf_insTail _ | exact mf_fillTail _ | exact mf_mutExt _ | exact mf_fill _ | exact mf_set _ | exact mf_doSet _ | exact mf_delete _)
local macro_rules | `(tactic| walk_at "mt") => `(tactic| with_reducible first | exact mt_append _ | exact mt_tolist _ | exact mt_extend _ | exact mt_newRoot _ | exact mt_push _ | exact mt_insTail _ | exact mt_fillTail _ | exact mt_mutExt _ | exact mt_fill _ | exact mt_set _ | exact mt_doSet _ | exact mt_delete _)
local macro_rules | `(tactic| walk_at "mem") => `(tactic| first | exact List.mem_cons_self | exact List.mem_cons_of_mem _ List.mem_cons_self | exact List.mem_cons_of_mem _ (List.mem_cons_of_mem _ List.mem_cons_self) | exact List.mem_cons_of_mem _ (List.mem_cons_of_mem _ (List.mem_cons_of_mem _ List.mem_cons_self)) | exact List.Mem.tail _ (List.Mem.tail _ (List.Mem.tail _ (List.Mem.tail _ (List.Mem.head _)))) | exact List.Mem.tail _ (List.Mem.tail _ (List.Mem.tail _ (List.Mem.tail _ (List.Mem.tail _ (List.Mem.head _))))) | exact List.Mem.tail _ (List.Mem.tail _ (List.Mem.tail _ (List.Mem.tail _ (List.Mem.tail _ (List.Mem.tail _ (List.Mem.head _)))))) | exact List.Mem.tail _ (List.Mem.tail _ (List.Mem.tail _ (List.Mem.tail _ (List.Mem.tail _ (List.Mem.tail _ (List.Mem.tail _ (List.Mem.head _))))))))
local macro_rules | `(tactic| walk_at "obj") => `(tactic| first | exact Fm.get (by assumption) (by assumption) | exact Fm.ownAt (by assumption) (by walk_at "mem"))
local macro_rules | `(tactic| walk_at "lt") => `(tactic| first | omega | (simp only [List.length_append, List.length_cons, List.length_nil, List.length_map, List.length_set, List.length_drop, List.length_take] at *; omega))
local macro_rules | `(tactic| walk_at "perm") => `(tactic| repeat (first | exact sub0 | refine sub1 (by walk_at "mem") ?_))
local macro_rules | `(tactic| walk_at "apart") => `(tactic| repeat (first | exact apart0 | refine apart1 (by first | assumption | exact Ne.symm (by assumption) | exact q12 _ | exact q13 _ | exact q23 _ | exact (q12 _).symm | exact (q13 _).symm | exact (q23 _).symm | omega) ?_))
-- one step of the walk that leans on the syntax, the frame and written ints alone
local macro_rules | `(tactic| walk_at "M") => `(tactic| first
  | with_reducible refine wpAny_execs_cons ?_
  | with_reducible refine wpAny_execs_nil ?_
  | with_reducible refine wpAny_Return_some ?_
  | with_reducible refine wpAny_If ?_
  | with_reducible refine wpAny_BinOp ?_
  | with_reducible refine spliced_none ?_
  | with_reducible refine wpAny_truthy_bool ?_
  | with_reducible refine evalPart_some_step ?_
  | with_reducible refine evalPart_none_step ?_
  | with_reducible refine wpAny_Constant_int ?_
  | with_reducible refine add_int ?_
  | with_reducible refine sub_int ?_
  | with_reducible refine eq_int ?_
  | with_reducible refine lt_int ?_
  | with_reducible refine gt_int ?_
  | with_reducible refine ge_int ?_
  | with_reducible refine le_int ?_
  | with_reducible refine and_int ?_
  | with_reducible refine rshift_int (by decide) ?_
  | with_reducible refine lshift_int_small (by decide) (by decide) (by decide) ?_
  | ((with_reducible show wpAny _ _ (eval (Expr.Name _ _) _) _ _ _); first
      | refine nmL (by assumption) (by walk_at "nm") ?_
      | refine nmG (by assumption) (by walk_at "gl") ?_
      | refine nmB (by assumption) (by walk_at "gn") (by walk_at "gb") (by decide) ?_)
  | ((with_reducible show wpAny _ _ (getAttr (Value.ref _) _ _) _ _ _); with_reducible first
      | refine ga_count (Fm.G (by assumption)) (by walk_at "obj") (by walk_at "obj") ?_
      | refine ga_root (Fm.G (by assumption)) (by walk_at "obj") (by walk_at "obj") ?_
      | refine ga_shift (Fm.G (by assumption)) (by walk_at "obj") (by walk_at "obj") ?_
      | refine ga_tail (Fm.G (by assumption)) (by walk_at "obj") (by walk_at "obj") ?_
      | refine ga_off (Fm.G (by assumption)) (by walk_at "obj") (by walk_at "obj") ?_)
  | ((with_reducible show wpAny _ _ (getMethod (Value.ref _) _ _) _ _ _); first
      | refine gm (Fm.G (by assumption)) (by walk_at "obj") (by walk_at "obj") (by walk_at "mf") (by walk_at "mt") ?_
      | ((with_reducible show wpAny _ _ (getMethod (Value.ref _) (Str.ofString "append") _) _ _ _); refine gm_list (by walk_at "obj") PySem.F.slot_list_append PySem.F.type_list_append ?_)
      | ((with_reducible show wpAny _ _ (getMethod (Value.ref _) (Str.ofString "extend") _) _ _ _); refine gm_list (by walk_at "obj") PySem.F.slot_list_extend PySem.F.type_list_extend ?_))
  | ((with_reducible show wpAny _ _ (call (Value.builtin "len") [Value.ref _]) _ _ _); refine lenL (by walk_at "obj") (by walk_at "lt") ?_)
  | ((with_reducible show wpAny _ _ (exec (Stmt.Assign [Expr.Name _ _] _ _) _) _ _ _); refine wpAny_Assign_Name ?_)
  | ((with_reducible show wpAny _ _ (exec (Stmt.Assign [Expr.Subscript _ _ _] _ _) _) _ _ _); refine wpAny_Assign_Subscript ?_)
  | ((with_reducible show wpAny _ _ (exec (Stmt.Assign [Expr.Attribute _ _ _] _ _) _) _ _ _); refine plainObj_wpAny_Assign_Attribute ?_)
  | ((with_reducible show wpAny _ _ (exec (Stmt.Assign [Expr.Tuple _ _ _] _ _) _) _ _ _); refine Assign_Tuple ?_)
  | ((with_reducible show wpAny _ _ (exec (Stmt.Expr _ _) _) _ _ _); refine wpAny_Expr_any ?_)
  | ((with_reducible show wpAny _ _ (spliced _) _ _ _); refine spliced_more ?_)
  | ((with_reducible show wpAny _ _ (eval (Expr.Call (Expr.Attribute _ _ _) _ _ _) _) _ _ _); refine MethodCall_ ?_)
  | ((with_reducible show wpAny _ _ (eval (Expr.Call (Expr.Name _ _) _ _ _) _) _ _ _); refine Call_ ?_)
  | ((with_reducible show wpAny _ _ (eval (Expr.Attribute _ _ _) _) _ _ _); refine Attribute_any_ ?_)
  | ((with_reducible show wpAny _ _ (eval (Expr.Subscript _ (Expr.Slice _ _ none _) _) _) _ _ _); refine wpAny_Subscript_list_slice ?_)
  | ((with_reducible show wpAny _ _ (eval (Expr.Subscript _ _ _) _) _ _ _); refine Subscript_ ?_)
  | ((with_reducible show wpAny _ _ (exec (Stmt.AugAssign (Expr.Attribute _ _ _) _ _ _) _) _ _ _); refine wpAny_AugAssign_AttributeAny ?_)
  | with_reducible refine iadd_int ?_
  | ((with_reducible show wpAny _ _ (PySem.isTrue (Expr.Compare _ [_] [_] _) _ _) _ _ _); refine wpAny_isTrue_Compare1 ?_)
  | ((with_reducible show wpAny _ _ (eval (Expr.Tuple _ _ _) _) _ _ _); refine Tuple_ ?_)
  | ((with_reducible show wpAny _ _ (eval (Expr.List _ _) _) _ _ _); refine List_ ?_)
  | ((with_reducible show wpAny _ _ (callWith _ (Value.type _) [] _ _) _ _ _); refine PyProof.Rows.callWith_type1 ?_)
  | ((with_reducible show wpAny _ _ (callWith _ (Value.builtin _) [] _ _) _ _ _); refine PyProof.Rows.callWith_builtin1 ?_)
  | ((with_reducible show wpAny _ _ (callWith _ (Value.builtin _) _ _ _) _ _ _); first | refine callWith_method1 ?_ | refine callWith_method0 ?_)
  | ((with_reducible show wpAny _ _ (callWith _ (Value.ref _) _ _ _) _ _ _); first | refine cwK (by assumption) (by walk_at "keep") ?_ | refine cwK0 (by assumption) (by walk_at "keep") ?_)
  | ((with_reducible show Frag.In _ _ ∧ _); refine ⟨Gr.X (Fm.G (by assumption)), ?_⟩; (try dsimp only [List.nil_append, List.cons_append]))
  | ((with_reducible show wpAny _ _ (storeName _ _ _) _ _ _); refine stL (by assumption) ?_; intro h' F')
  | ((with_reducible show wpAny _ _ (newList _) _ _ _); refine newL (by assumption) ?_; intro l' h' F' lt' ne')
  | ((with_reducible show wpAny _ _ (newTuple _) _ _ _); refine newT (by assumption) ?_; intro l' h' F' lt' ne')
  | dsimp only)
theorem pushTail {w : World} {mg mb : Str → Option Value} {A : Around} {s : Shared} {Q E : Value → Shared → Prop} {r : Nat} {rs : List Value} {n : Nat} {self t : Value} {tk : Tok}
    (G : Gr w mg mb s.heap) (hd : A.depth < recursionLimit) (hr : s.heap.get? r = some (listObj rs n)) (hz : rs.length < 2 ^ 19)
    (ret : ∀ D c h' tk', Sub s.heap h' → h'.get? D = some (listObj (rs ++ [t]) c) → s.heap.objs.size ≤ D → Q (.ref D) { s with heap := h', toks := tk' }) :
    wpAny (model prog w) A (call (.ref fPush) [self, .int 5 tk, .ref r, t]) Q E s := by
  refine enter (P := At s.heap) (own := []) [("self", self), ("level", .int 5 tk), ("parent", .ref r), ("tail_node", t)] G (fun _ _ h => h) (fun _ h => nomatch h) (by rfl) (by rfl) hd (BindsTo.of_eq (by rfl)) (locs (by rfl)) ?_
  intro L h₁ hL F
  repeat (walk_at "M")
  refine copyL F (F.get hr) (by omega) (fun D c h' F lD ne => ?_)
  repeat (walk_at "M")
  refine ite_pos rfl ?_
  repeat (walk_at "M")
  rename_i h2 F2
  refine appendL F2 ne (by omega) (fun c h' F => ?_)
  repeat (walk_at "M")
  exact ret D _ _ _ (fun b o e => F.keep b o e) (F.ownAt (.head _)) (hL ▸ Nat.le_of_lt lD)
theorem small_root {c : Int} (h0 : 0 ≤ c) (hc : c < 1056) : ¬ (decide ((1 : Int) * 2 ^ Int.toNat 5 < c.fdiv (2 ^ Int.toNat 5)) = true) := by
  rw [show (2 : Int) ^ Int.toNat 5 = 32 from rfl, Int.fdiv_eq_ediv_of_nonneg _ (by decide)]
  simp
  omega
theorem newRoot {w : World} {mg mb : Str → Option Value} {A : Around} {s : Shared} {Q E : Value → Shared → Prop} {v d r t : Nat} {c : Int} {tc : Tok} {ts : Tok} {f : Int} {tf : Tok} {rs : List Value} {n : Nat}
    (G : Gr w mg mb s.heap) (hd : A.depth + 1 < recursionLimit) (hv : s.heap.get? v = some (vecObj d c tc r 5 ts t f tf)) (hdd : s.heap.get? d = some (dictOf [] 0)) (hr : s.heap.get? r = some (listObj rs n)) (hz : rs.length < 2 ^ 19) (h0 : 0 ≤ c) (hc : c < 1056)
    (ret : ∀ T D k ts' h' tk', Sub s.heap h' → h'.get? D = some (listObj (rs ++ [.ref t]) k) → s.heap.objs.size ≤ D → h'.get? T = some { cls := .type "tuple", data := .seq #[.ref D, .int 5 ts'] } → s.heap.objs.size ≤ T → Q (.ref T) { s with heap := h', toks := tk' }) :
    wpAny (model prog w) A (call (.ref fNewRoot) [.ref v]) Q E s := by
  refine enter (P := At s.heap) (own := []) [("self", .ref v)] G (fun _ _ h => h) (fun _ h => nomatch h) (by rfl) (by rfl) (Nat.lt_of_succ_lt hd) (BindsTo.of_eq (by rfl)) (locs (by rfl)) ?_
  intro L h₁ hL F
  repeat (walk_at "M")
  refine ite_neg (small_root h0 hc) ?_
  repeat (walk_at "M")
  rename_i h2 F2
  refine pushTail F2.G hd (F2.get hr) hz (fun D k h' tk' sb hD lD => ?_)
  have F3 := F2.madeAt sb hD lD
  repeat (walk_at "M")
  rename_i T h4 F4 lT ne4
  exact ret T D k ts _ _ (fun b o e => F4.keep b o e) (F4.ownAt (.tail _ (.head _))) (hL ▸ Nat.le_of_lt (F2.above lD)) (F4.ownAt (.head _)) (hL ▸ Nat.le_of_lt lT)
section
variable {w : World} {mg mb : Str → Option Value} {P : Nat → Obj → Prop} {L : Nat} {m : Str → Option Value} {own : List (Nat × Obj)} {A : Around} {E : Value → Shared → Prop} {Q : Unit → Shared → Prop} {s : Shared} {x d : Nat} {sl sl' : Array (Option Value)} {v : Value}
theorem sa_count (F : Fm w mg mb P L s.heap m ((x, ⟨.ref C, some d, .plain, sl⟩) :: own)) (hne : ∀ p ∈ own, p.1 ≠ x) (hd : s.heap.get? d = some (dictOf [] 0)) (e : (sl ++ Array.replicate (0 + 1 - sl.size) none).setIfInBounds 0 (some v) = sl')
    (h : ∀ h', Fm w mg mb P L h' m ((x, ⟨.ref C, some d, .plain, sl'⟩) :: own) → Q () { s with heap := h', toks := s.toks + 1 }) : wpAny (model prog w) A (setAttr (.ref x) "_count" v) Q E s := sa (p := sCount) (i := 0) F hne hd (by kernel_rfl!) (by kernel_rfl!) (by kernel_rfl!) (by decide) e h
theorem sa_root (F : Fm w mg mb P L s.heap m ((x, ⟨.ref C, some d, .plain, sl⟩) :: own)) (hne : ∀ p ∈ own, p.1 ≠ x) (hd : s.heap.get? d = some (dictOf [] 0)) (e : (sl ++ Array.replicate (1 + 1 - sl.size) none).setIfInBounds 1 (some v) = sl')
    (h : ∀ h', Fm w mg mb P L h' m ((x, ⟨.ref C, some d, .plain, sl'⟩) :: own) → Q () { s with heap := h', toks := s.toks + 1 }) : wpAny (model prog w) A (setAttr (.ref x) "_root" v) Q E s := sa (p := sRoot) (i := 1) F hne hd (by kernel_rfl!) (by kernel_rfl!) (by kernel_rfl!) (by decide) e h
theorem sa_shift (F : Fm w mg mb P L s.heap m ((x, ⟨.ref C, some d, .plain, sl⟩) :: own)) (hne : ∀ p ∈ own, p.1 ≠ x) (hd : s.heap.get? d = some (dictOf [] 0)) (e : (sl ++ Array.replicate (2 + 1 - sl.size) none).setIfInBounds 2 (some v) = sl')
    (h : ∀ h', Fm w mg mb P L h' m ((x, ⟨.ref C, some d, .plain, sl'⟩) :: own) → Q () { s with heap := h', toks := s.toks + 1 }) : wpAny (model prog w) A (setAttr (.ref x) "_shift" v) Q E s := sa (p := sShift) (i := 2) F hne hd (by kernel_rfl!) (by kernel_rfl!) (by kernel_rfl!) (by decide) e h
theorem sa_tail (F : Fm w mg mb P L s.heap m ((x, ⟨.ref C, some d, .plain, sl⟩) :: own)) (hne : ∀ p ∈ own, p.1 ≠ x) (hd : s.heap.get? d = some (dictOf [] 0)) (e : (sl ++ Array.replicate (3 + 1 - sl.size) none).setIfInBounds 3 (some v) = sl')
    (h : ∀ h', Fm w mg mb P L h' m ((x, ⟨.ref C, some d, .plain, sl'⟩) :: own) → Q () { s with heap := h', toks := s.toks + 1 }) : wpAny (model prog w) A (setAttr (.ref x) "_tail" v) Q E s := sa (p := sTail) (i := 3) F hne hd (by kernel_rfl!) (by kernel_rfl!) (by kernel_rfl!) (by decide) e h
theorem sa_off (F : Fm w mg mb P L s.heap m ((x, ⟨.ref C, some d, .plain, sl⟩) :: own)) (hne : ∀ p ∈ own, p.1 ≠ x) (hd : s.heap.get? d = some (dictOf [] 0)) (e : (sl ++ Array.replicate (4 + 1 - sl.size) none).setIfInBounds 4 (some v) = sl')
    (h : ∀ h', Fm w mg mb P L h' m ((x, ⟨.ref C, some d, .plain, sl'⟩) :: own) → Q () { s with heap := h', toks := s.toks + 1 }) : wpAny (model prog w) A (setAttr (.ref x) "_tail_offset" v) Q E s := sa (p := sOff) (i := 4) F hne hd (by kernel_rfl!) (by kernel_rfl!) (by kernel_rfl!) (by decide) e h
end
theorem mkVec {w : World} {mg mb : Str → Option Value} {A : Around} {s : Shared} {Q E : Value → Shared → Prop} {r t : Nat} {c sh : Int} {tc ts : Tok} {tl : List Value} {n : Nat}
    (G : Gr w mg mb s.heap) (hd : A.depth + 1 < recursionLimit) (ht : s.heap.get? t = some (listObj tl n)) (hz : tl.length < 2 ^ 20)
    (ret : ∀ v d tf h' tk', Sub s.heap h' → h'.get? v = some (vecObj d c tc r sh ts t (c - tl.length) tf) → h'.get? d = some (dictOf [] 0) → s.heap.objs.size ≤ v → s.heap.objs.size ≤ d → d ≠ v → Q (.ref v) { s with heap := h', toks := tk' }) :
    wpAny (model prog w) A (call (.ref C) [.int c tc, .int sh ts, .ref r, .ref t]) Q E s := by
  obtain ⟨h, g, dr, tk, os⟩ := s
  dsimp only at G ht ret
  refine wpAny_call (makeBy G.X ?_)
  refine enterC (P := At h) (own := []) [("cls", .ref C), ("count", .int c tc), ("shift", .int sh ts), ("root", .ref r), ("tail", .ref t)] G (fun _ _ h => h) (fun _ h => nomatch h) (by rfl) (by rfl) hd (BindsTo.of_eq (by rfl)) (locs (by rfl)) ?_
  intro L h₁ hL F
  repeat (walk_at "M")
  refine superCall F.G.X (fun h2 hso sb => ?_)
  have F2 := F.made sb hso
  refine superGm F2.G.X hso ?_
  repeat (walk_at "M")
  refine wpAny_call (newObj0 F2.G.X ?_)
  have F3 := (F2.alloc emptyDict).alloc (instObj C h2.objs.size)
  rw [Heap.size_push] at F3
  have ne3 : h2.objs.size ≠ h2.objs.size + 1 := by omega
  have l3 : L < h2.objs.size := F2.ltL
  have hne : ∀ p ∈ [(h2.objs.size, emptyDict), (h₁.objs.size, ({ cls := .type "super", dict := none, data := .fields #[.ref C, .ref C, .ref C], slots := #[] } : Obj))], p.1 ≠ h2.objs.size + 1 := by
    have q1 : h₁.objs.size < h2.objs.size := Heap.lt_size (F2.ownAt (.head _))
    intro p hp
    simp only [List.mem_cons, List.not_mem_nil, or_false] at hp
    rcases hp with rfl | rfl
    · exact ne3
    · exact Nat.ne_of_lt (Nat.lt_succ_of_lt q1)
  dsimp only
  repeat (walk_at "M")
  rename_i h4 F4
  refine sa_count (sl' := #[some (.int c tc)]) F4 hne (F4.ownAt (.tail _ (.head _))) rfl (fun h5 F5 => ?_)
  repeat (walk_at "M")
  refine sa_shift (sl' := #[some (.int c tc), none, some (.int sh ts)]) F5 hne (F5.ownAt (.tail _ (.head _))) rfl (fun h6 F6 => ?_)
  repeat (walk_at "M")
  refine sa_root (sl' := #[some (.int c tc), some (.ref r), some (.int sh ts)]) F6 hne (F6.ownAt (.tail _ (.head _))) rfl (fun h7 F7 => ?_)
  repeat (walk_at "M")
  refine sa_tail (sl' := #[some (.int c tc), some (.ref r), some (.int sh ts), some (.ref t)]) F7 hne (F7.ownAt (.tail _ (.head _))) rfl (fun h8 F8 => ?_)
  repeat (walk_at "M")
  refine ga (p := sCount) (i := 0) F8.G (F8.ownAt (.head _)) (F8.ownAt (.tail _ (.head _))) (by kernel_rfl!) (by kernel_rfl!) (by kernel_rfl!) (by kernel_rfl!) rfl rfl ?_
  repeat (walk_at "M")
  refine ga (p := sTail) (i := 3) F8.G (F8.ownAt (.head _)) (F8.ownAt (.tail _ (.head _))) (by kernel_rfl!) (by kernel_rfl!) (by kernel_rfl!) (by kernel_rfl!) rfl rfl ?_
  repeat (walk_at "M")
  refine sa_off (sl' := #[some (.int c tc), some (.ref r), some (.int sh ts), some (.ref t), some (.int (c - tl.length) _)]) F8 hne (F8.ownAt (.tail _ (.head _))) rfl (fun h9 F9 => ?_)
  repeat (walk_at "M")
  refine ⟨_, _, _, rfl, F9.G.X, F9.ownAt (.head _), ?_⟩
  have q : h.objs.size ≤ h2.objs.size := by have e : L = h.objs.size := hL; omega
  exact ret _ _ _ _ _ (fun b o e => F9.keep b o e) (F9.ownAt (.head _)) (F9.ownAt (.tail _ (.head _))) (Nat.le_succ_of_le q) q ne3
section
variable {w : World} {mg mb : Str → Option Value} {P : Nat → Obj → Prop} {L T : Nat} {m : Str → Option Value} {own : List (Nat × Obj)} {A : Around} {E : Value → Shared → Prop} {Q : Unit → Shared → Prop} {s : Shared} {env : Env}
theorem assign2 {e1 e2 : Expr} {k : Nat} {pos : Pos} {a b : Value} (F : Fm w mg mb P L s.heap m own) (hA : A.handled = none) (ht : s.heap.get? T = some { cls := .type "tuple", data := .seq #[a, b] })
    (hs : assignEach [e1, e2] env = [(false, assign e1 env), (false, assign e2 env)])
    (h : ∀ h', Fm w mg mb P L h' m own → Sub s.heap h' → wpAny (model prog w) A (assign e1 env a) (fun _ s₁ => wpAny (model prog w) A (assign e2 env b) Q E s₁) E { s with heap := h' }) :
    wpAny (model prog w) A (assign (.Tuple [e1, e2] k pos) env (.ref T)) Q E s := by
  refine assign_Tuple_tuple hA ⟨_, ht, rfl, _, rfl⟩ (by rw [hs]; rfl) (by rw [hs]; rfl) fun h' he => ?_
  have sb : Sub s.heap h' := fun b o e => he b o (Nat.ne_of_lt (Heap.lt_size e)) e
  rw [hs]
  refine wpAny_bind (wpAny_holding (wpAny_mono (h h' (F.kept sb) sb) (fun _ s₁ q => wpAny_bind (wpAny_holding (wpAny_mono q (fun _ s₂ q => wpAny_pure q) fun _ _ q => q))) fun _ _ q => q))
theorem assignN {M : Model} {x : Str} {pos : Pos} {v : Value} (h : wpAny M A (storeName env x v) Q E s) : wpAny M A (assign (.Name x pos) env v) Q E s := by
  rw [arm_assign_Name]
  exact wpAny_bind (wpAny_standAt (bindName_ h))
theorem assignA {M : Model} {o : Expr} {x : Str} {pos : Pos} {v : Value} (h : wpAny M A (eval o env) (fun ov s₁ => wpAny M A (setAttr ov x v) Q E s₁) E s) : wpAny M A (assign (.Attribute o x pos) env v) Q E s := by
  rw [arm_assign_Attribute]
  refine wpAny_bind (wpAny_holding (wpAny_mono h (fun ov s₁ q => wpAny_bind (wpAny_standAt (wpAny_bind (wpAny_holding (wpAny_mono q (fun _ s₂ q => wpAny_release q) fun _ _ q => q))))) fun _ _ q => q))
end
/-- a vector's object, its dict, root and tail, in a heap -/
def VAt (h : Heap) (v d r t : Nat) (c f : Int) (rs tl : List Value) : Prop :=
  (∃ tc ts tf, h.get? v = some (vecObj d c tc r 5 ts t f tf)) ∧ h.get? d = some (dictOf [] 0) ∧ (∃ n, h.get? r = some (listObj rs n)) ∧ ∃ n, h.get? t = some (listObj tl n)
theorem VAt.sub {h h' : Heap} {v d r t : Nat} {c f : Int} {rs tl : List Value} (x : VAt h v d r t c f rs tl) (k : Sub h h') : VAt h' v d r t c f rs tl :=
  let ⟨⟨tc, ts, tf, a⟩, b, ⟨n, c'⟩, ⟨n', d'⟩⟩ := x; ⟨⟨tc, ts, tf, k _ _ a⟩, k _ _ b, ⟨n, k _ _ c'⟩, ⟨n', k _ _ d'⟩⟩
/-- one item more: root and tail -/
def push1 (t : Nat) (rs tl : List Value) (x : Value) : List Value × List Value := if tl.length < 32 then (rs, tl ++ [x]) else (rs ++ [.ref t], [x])
theorem append_ {w : World} {mg mb : Str → Option Value} {A : Around} {s : Shared} {Q E : Value → Shared → Prop} {v d r t : Nat} {c f : Int} {rs tl : List Value} {x : Value}
    (G : Gr w mg mb s.heap) (hA : A.handled = none) (hd : A.depth + 3 < recursionLimit) (V : VAt s.heap v d r t c f rs tl) (hz : rs.length < 2 ^ 19) (hl : tl.length ≤ 32) (h0 : 0 ≤ c) (hc : c < 1056)
    (ret : ∀ v' d' r' t' h' tk', Sub s.heap h' → VAt h' v' d' r' t' (c + 1) (c + 1 - ((push1 t rs tl x).2.length : Int)) (push1 t rs tl x).1 (push1 t rs tl x).2 →
      s.heap.objs.size ≤ v' → s.heap.objs.size ≤ d' → s.heap.objs.size ≤ t' → (r' = r ∨ s.heap.objs.size ≤ r') → d' ≠ v' → t' ≠ v' → t' ≠ d' → r' ≠ v' → r' ≠ d' → r' ≠ t' → Q (.ref v') { s with heap := h', toks := tk' }) :
    wpAny (model prog w) A (call (.ref fAppend) [.ref v, x]) Q E s := by
  obtain ⟨⟨tc, ts, tf, hv⟩, hdd, ⟨nr, hr⟩, ⟨nt, ht⟩⟩ := V
  refine enter (P := At s.heap) (own := []) [("self", .ref v), ("val", x)] G (fun _ _ h => h) (fun _ h => nomatch h) (by rfl) (by rfl) (by omega) (BindsTo.of_eq (by rfl)) (locs (by rfl)) ?_
  intro L h₁ hL F
  repeat (walk_at "M")
  by_cases hlt : tl.length < 32
  · refine ite_pos (by simp; omega) ?_
    repeat (walk_at "M")
    refine copyL F (F.get ht) (by omega) (fun T k h2 F2 lT ne2 => ?_)
    repeat (walk_at "M")
    rename_i h3 F3
    refine appendL F3 ne2 (by omega) (fun k4 h4 F4 => ?_)
    repeat (walk_at "M")
    refine mkVec F4.G (by show A.depth + 1 + 1 < _; omega) (F4.ownAt (.head _)) (by simp; omega) (fun v' d' tf' h5 tk5 sb hv' hd' lv ld ne => ?_)
    have e : push1 t rs tl x = (rs, tl ++ [x]) := if_pos hlt
    have sb' : Sub s.heap h5 := fun b o e => sb _ _ (F4.keep b o e)
    have l5 : s.heap.objs.size ≤ h4.objs.size := by have := F4.ltL; omega
    have q := ret v' d' r T h5 tk5 sb' (by rw [e]; exact ⟨⟨_, _, _, hv'⟩, hd', ⟨nr, sb' _ _ hr⟩, ⟨k4, sb _ _ (F4.ownAt (.head _))⟩⟩) (Nat.le_trans l5 lv) (Nat.le_trans l5 ld) (by omega) (.inl rfl) ne
    have hT := ltS (F4.ownAt (.head _))
    have hr' := ltS hr
    have lv' : h4.objs.size ≤ v' := lv
    have ld' : h4.objs.size ≤ d' := ld
    exact q (by omega) (by omega) (by omega) (by omega) (by omega)
  · refine ite_neg (by simp; omega) ?_
    repeat (walk_at "M")
    refine newRoot F.G (by show A.depth + 1 + 1 < _; omega) (F.get hv) (F.get hdd) (F.get hr) hz h0 hc (fun T D k ts' h2 tk2 sb hD lD hT lT => ?_)
    have F2 := F.madeAt sb hD lD
    refine assign2 F2 hA hT rfl (fun h3 F3 sb3 => ?_)
    refine assignN ?_
    repeat (walk_at "M")
    refine assignN ?_
    repeat (walk_at "M")
    rename_i h4 F4 T5 h5 F5 lt5 ne5
    refine mkVec F5.G (by show A.depth + 1 + 1 < _; omega) (F5.ownAt (.head _)) (by simp) (fun v' d' tf' h6 tk6 sb6 hv' hd' lv ld ne => ?_)
    have e : push1 t rs tl x = (rs ++ [.ref t], [x]) := if_neg hlt
    have sb' : Sub s.heap h6 := fun b o e => sb6 _ _ (F5.keep b o e)
    have l5 : s.heap.objs.size ≤ h5.objs.size := by have := F5.ltL; omega
    have lv' : h5.objs.size ≤ v' := lv
    have ld' : h5.objs.size ≤ d' := ld
    have lD' : h₁.objs.size ≤ D := lD
    have lh₁ := F.ltL
    have q := ret v' d' D T5 h6 tk6 sb' (by rw [e]; exact ⟨⟨_, _, _, hv'⟩, hd', ⟨k, sb6 _ _ (F5.ownAt (.tail _ (.head _)))⟩, ⟨0, sb6 _ _ (F5.ownAt (.head _))⟩⟩) (Nat.le_trans l5 lv) (Nat.le_trans l5 ld) (by omega) (.inr (by omega)) ne
    have hT5 := ltS (F5.ownAt (.head _))
    have hD5 := ltS (F5.ownAt (.tail _ (.head _)))
    have nDT : D ≠ T5 := ne5 _ (.head _)
    exact q (by omega) (by omega) (by omega) (by omega) nDT
theorem Fm.sliced {w : World} {mg mb : Str → Option Value} {P : Nat → Obj → Prop} {L : Nat} {h : Heap} {m : Str → Option Value} {own : List (Nat × Obj)} (F : Fm w mg mb P L h m own) (so lo : Obj) (h1 : so.isFreed = false := by rfl) (h2 : lo.isFreed = false := by rfl) :
    Fm w mg mb P L ((h.push so).push lo) m ((h.objs.size + 1, lo) :: own) ∧ L < h.objs.size + 1 ∧ ∀ p ∈ own, p.1 ≠ h.objs.size + 1 := by
  have F2 := (F.alloc so h1).alloc lo h2
  rw [Heap.size_push] at F2
  refine ⟨F2.drop fun p hp => ?_, Nat.lt_succ_of_lt F.ltL, fun p hp => Nat.ne_of_lt (Nat.lt_succ_of_lt (ltS (F.own p hp).1))⟩
  rcases List.mem_cons.mp hp with rfl | hp
  · exact .head _
  · exact .tail _ (.tail _ hp)
theorem Fm.swap {w : World} {mg mb : Str → Option Value} {P : Nat → Obj → Prop} {L : Nat} {h : Heap} {m : Str → Option Value} {own : List (Nat × Obj)} {p q : Nat × Obj} (F : Fm w mg mb P L h m (p :: q :: own)) : Fm w mg mb P L h m (q :: p :: own) :=
  F.drop fun x hx => by simp only [List.mem_cons] at hx ⊢; rcases hx with h | h | h <;> simp [h]
theorem Fm.tl {w : World} {mg mb : Str → Option Value} {P : Nat → Obj → Prop} {L : Nat} {h : Heap} {m : Str → Option Value} {own : List (Nat × Obj)} {p : Nat × Obj} (F : Fm w mg mb P L h m (p :: own)) : Fm w mg mb P L h m own :=
  F.drop fun x hx => .tail _ hx
theorem pick_nat (xs : List Value) (a b : Nat) : (slicePick xs.toArray (some (a : Int)) (some (b : Int)) none) = ((xs.drop a).take (b - a)).toArray := by
  rw [slicePick_plain]
  simp only [Option.elim, clipAt_nat, List.size_toArray]
  congr 1
  apply List.ext_getElem?
  intro i
  simp only [List.getElem?_take, List.getElem?_drop]
  by_cases h1 : i < min b xs.length - min a xs.length
  · rw [if_pos h1, if_pos (by omega)]
    congr 1
    omega
  · rw [if_neg h1]
    split
    · rw [List.getElem?_eq_none (by omega)]
    · rfl
abbrev SubBut (S : List Nat) (h h' : Heap) : Prop := ∀ b o, b ∉ S → h.get? b = some o → h'.get? b = some o
theorem insTail {w : World} {mg mb : Str → Option Value} {A : Around} {s : Shared} {Q E : Value → Shared → Prop} {v d r t : Nat} {c : Int} {tc : Tok} {ts : Tok} {f : Int} {tf : Tok} {rs : List Value} {n : Nat}
    (G : Gr w mg mb s.heap) (hA : A.handled = none) (hd : A.depth + 2 < recursionLimit) (hv : s.heap.get? v = some (vecObj d c tc r 5 ts t f tf)) (nb : NB ≤ v) (hdd : s.heap.get? d = some (dictOf [] 0)) (ndv : d ≠ v) (hr : s.heap.get? r = some (listObj rs n)) (nrv : r ≠ v) (hz : rs.length < 2 ^ 19) (h0 : 0 ≤ c) (hc : c < 1056)
    (ret : ∀ D T ts' k h' tk', SubBut [v] s.heap h' → h'.get? v = some (vecObj d c tc D 5 ts' T f tf) → h'.get? D = some (listObj (rs ++ [.ref t]) k) → h'.get? T = some (listObj [] 0) → s.heap.objs.size ≤ D → s.heap.objs.size ≤ T → D ≠ T → Q .none { s with heap := h', toks := tk' }) :
    wpAny (model prog w) A (call (.ref fInsTail) [.ref v]) Q E s := by
  refine enter (P := AtBut s.heap [v]) (own := [(v, vecObj d c tc r 5 ts t f tf)]) [("self", .ref v)] G (fun _ _ h => h.1) (fun p hp => by rw [List.mem_singleton.mp hp]; exact ⟨hv, nb, fun o' q => q.2 (.head _)⟩) (by rfl) (by rfl) (by omega) (BindsTo.of_eq (by rfl)) (locs (by rfl)) ?_
  intro L h₁ hL F
  have hdd' : AtBut s.heap [v] d (dictOf [] 0) := ⟨hdd, by simp [ndv]⟩
  have hr' : AtBut s.heap [v] r (listObj rs n) := ⟨hr, by simp [nrv]⟩
  repeat (walk_at "M")
  refine newRoot F.G (by show A.depth + 1 + 1 < _; omega) (F.ownAt (.head _)) (F.get hdd') (F.get hr') hz h0 hc (fun T D k ts' h2 tk2 sb hD lD hT lT => ?_)
  have F2 := F.madeAt sb hD lD
  have vlt : v < s.heap.objs.size := ltS hv
  have lD' : h₁.objs.size ≤ D := lD
  have lh₁ := F.ltL
  have vD : v < D := by omega
  have ne2 : ∀ p ∈ [(D, listObj (rs ++ [.ref t]) k)], p.1 ≠ v := fun p hp => by rw [List.mem_singleton.mp hp]; exact Nat.ne_of_gt vD
  refine assign2 F2 hA hT rfl (fun h3 F3 sb3 => ?_)
  have F3' : Fm w mg mb (AtBut s.heap [v]) L h3 _ [(v, vecObj d c tc r 5 ts t f tf), (D, listObj (rs ++ [.ref t]) k)] := F3.drop (fun p hp => by simp only [List.mem_cons, List.not_mem_nil, or_false] at hp ⊢; exact hp.symm)
  clear F3
  refine assignA ?_
  repeat (walk_at "M")
  refine sa_root (sl' := #[some (.int c tc), some (.ref D), some (.int 5 ts), some (.ref t), some (.int f tf)]) F3' ne2 (F3'.get hdd') rfl (fun h4 F4 => ?_)
  refine assignA ?_
  repeat (walk_at "M")
  refine sa_shift (sl' := #[some (.int c tc), some (.ref D), some (.int 5 ts'), some (.ref t), some (.int f tf)]) F4 ne2 (F4.get hdd') rfl (fun h5 F5 => ?_)
  repeat (walk_at "M")
  rename_i T6 h6 F6 lt6 ne6
  have F6' : Fm w mg mb (AtBut s.heap [v]) L h6 _ [(v, vecObj d c tc D 5 ts' t f tf), (T6, listObj [] 0), (D, listObj (rs ++ [.ref t]) k)] := F6.drop (fun p hp => by simp only [List.mem_cons, List.not_mem_nil, or_false] at hp ⊢; rcases hp with h | h | h <;> simp [h])
  refine sa_tail (sl' := #[some (.int c tc), some (.ref D), some (.int 5 ts'), some (.ref T6), some (.int f tf)]) F6' (fun p hp => ?_) (F6'.get hdd') rfl (fun h7 F7 => ?_)
  · simp only [List.mem_cons, List.not_mem_nil, or_false] at hp
    rcases hp with rfl | rfl
    · exact Nat.ne_of_gt (Nat.lt_trans (hL ▸ vlt) lt6)
    · exact Nat.ne_of_gt vD
  repeat (walk_at "M")
  exact ret D T6 ts' k h7 _ (fun b o hb e => F7.keep b o ⟨e, hb⟩) (F7.ownAt (.head _)) (F7.ownAt (.tail _ (.tail _ (.head _)))) (F7.ownAt (.tail _ (.head _))) (by omega) (by omega) (ne6 _ (.tail _ (.head _)))
theorem fillTail {w : World} {mg mb : Str → Option Value} {A : Around} {s : Shared} {Q E : Value → Shared → Prop} {v d r t l : Nat} {c : Int} {tc : Tok} {ts : Tok} {f : Int} {tf : Tok} {tl xs : List Value} {n n2 : Nat} {o : Nat} {tok : Tok}
    (G : Gr w mg mb s.heap) (hA : A.handled = none) (hd : A.depth + 1 < recursionLimit) (hv : s.heap.get? v = some (vecObj d c tc r 5 ts t f tf)) (nb : NB ≤ v) (hdd : s.heap.get? d = some (dictOf [] 0)) (ht : s.heap.get? t = some (listObj tl n)) (nbt : NB ≤ t) (hl : s.heap.get? l = some (listObj xs n2))
    (ndv : d ≠ v) (ntv : t ≠ v) (ndt : d ≠ t) (nlv : l ≠ v) (nlt : l ≠ t) (hz : xs.length < 2 ^ 19) (hlt : tl.length ≤ 32) (ho : o ≤ xs.length)
    (ret : ∀ tc' k tk h' tk', SubBut [v, t] s.heap h' → h'.get? v = some (vecObj d (c + ((xs.drop o).take (32 - tl.length)).length) tc' r 5 ts t f tf) → h'.get? t = some (listObj (tl ++ (xs.drop o).take (32 - tl.length)) k) → Q (.int (o + ((xs.drop o).take (32 - tl.length)).length) tk) { s with heap := h', toks := tk' }) :
    wpAny (model prog w) A (call (.ref fFillTail) [.ref v, .int o tok, .ref l]) Q E s := by
  refine enter (P := AtBut s.heap [v, t]) (own := [(v, vecObj d c tc r 5 ts t f tf), (t, listObj tl n)]) [("self", .ref v), ("offset", .int o tok), ("sequence", .ref l)] G (fun _ _ h => h.1) (fun p hp => ?_) (by rfl) (by rfl) (by omega) (BindsTo.of_eq (by rfl)) (locs (by rfl)) ?_
  · simp only [List.mem_cons, List.not_mem_nil, or_false] at hp
    rcases hp with rfl | rfl
    · exact ⟨hv, nb, fun o' q => q.2 (.head _)⟩
    · exact ⟨ht, nbt, fun o' q => q.2 (.tail _ (.head _))⟩
  intro L h₁ hL F
  have hdd' : AtBut s.heap [v, t] d (dictOf [] 0) := ⟨hdd, by simp [ndv, ndt]⟩
  have hl' : AtBut s.heap [v, t] l (listObj xs n2) := ⟨hl, by simp [nlv, nlt]⟩
  repeat (walk_at "M")
  rename_i h2 F2
  refine ⟨l, xs.toArray, _, _, rfl, isList_at (F2.get hl'), by rw [sizeLine_eq, List.size_toArray]; omega, .int _ _, .int _ _, ?_⟩
  rw [show (o : Int) + (32 - (tl.length : Int)) = ((o + (32 - tl.length) : Nat) : Int) by omega, pick_nat, show o + (32 - tl.length) - o = 32 - tl.length by omega]
  generalize hde : (xs.drop o).take (32 - tl.length) = de at ret
  have hdl : de.length ≤ xs.length := by rw [← hde]; simp; omega
  obtain ⟨F3, l3, n3⟩ := F2.sliced { cls := .type "slice", data := .fields #[.int o tok, .int ((o + (32 - tl.length) : Nat) : Int) _, .none] } (listObj de 0)
  have vlt := ltS hv
  have tlt := ltS ht
  have lh2 := F2.ltL
  generalize hD : h2.objs.size + 1 = D at F3 l3 n3
  repeat (walk_at "M")
  rename_i h4 F4
  have F4' := F4.drop (own' := [(t, listObj tl n), (D, listObj de 0), (v, vecObj d c tc r 5 ts t f tf)]) (by walk_at "perm")
  have nDv : D ≠ v := by omega
  have nDt : D ≠ t := by omega
  clear F4
  refine extendL F4' (fun p hp => ?_) (F4'.ownAt (.tail _ (.head _))) (by omega) (fun k5 h5 F5 => ?_)
  · simp only [List.mem_cons, List.not_mem_nil, or_false] at hp
    rcases hp with rfl | rfl
    · exact nDt
    · exact ntv.symm
  clear F4'
  repeat (walk_at "M")
  rename_i h6 F6
  have F6' := F6.drop (own' := [(v, vecObj d c tc r 5 ts t f tf), (t, listObj (tl ++ de) k5)]) (by walk_at "perm")
  clear F6
  refine sa_count (sl' := #[some (.int (c + de.length) _), some (.ref r), some (.int 5 ts), some (.ref t), some (.int f tf)]) F6' (fun p hp => by rw [List.mem_singleton.mp hp]; exact ntv) (F6'.get hdd') rfl (fun h7 F7 => ?_)
  repeat (walk_at "M")
  exact ret _ k5 _ h7 _ (fun b o hb e => F7.keep b o ⟨e, hb⟩) (F7.ownAt (.head _)) (F7.ownAt (.tail _ (.head _)))
theorem Fm.again {w : World} {mg mb : Str → Option Value} {P : Nat → Obj → Prop} {L : Nat} {h : Heap} {m : Str → Option Value} {own : List (Nat × Obj)} {x : Str} {a b : Value} (F : Fm w mg mb P L h (fun y => if y = x then some a else if y = x then some b else m y) own) : Fm w mg mb P L h (fun y => if y = x then some a else m y) own := by
  have e : (fun y => if y = x then some a else if y = x then some b else m y) = fun y => if y = x then some a else m y := by funext y; split <;> rfl
  exact e ▸ F
theorem Fm.after {w : World} {mg mb : Str → Option Value} {P : Nat → Obj → Prop} {L : Nat} {h h' : Heap} {m : Str → Option Value} {own own' : List (Nat × Obj)} (F : Fm w mg mb P L h m own) (k : SubBut (own.map Prod.fst) h h') (ho : ∀ p ∈ own', h'.get? p.1 = some p.2 ∧ (p.1 ∈ own.map Prod.fst ∨ h.objs.size ≤ p.1)) : Fm w mg mb P L h' m own' where
  G := F.G.low fun b o l e => k b o (fun hb => by obtain ⟨p, hp, rfl⟩ := List.mem_map.mp hb; exact absurd (F.own p hp).2.2.1 (Nat.not_le.mpr l)) e
  ns := let ⟨x, es, ep, hx, r⟩ := F.ns; ⟨x, es, ep, k _ _ (fun hb => by obtain ⟨p, hp, e⟩ := List.mem_map.mp hb; exact (F.own p hp).2.1 e) hx, r⟩
  lo := F.lo
  off := F.off
  keep := fun a o q => k _ _ (fun hb => by obtain ⟨p, hp, rfl⟩ := List.mem_map.mp hb; exact (F.own p hp).2.2.2 o q) (F.keep a o q)
  own := fun p hp => by
    obtain ⟨a1, a2 | a2⟩ := ho p hp
    · obtain ⟨q, hq, e⟩ := List.mem_map.mp a2
      have := (F.own q hq).2
      rw [e] at this
      exact ⟨a1, this⟩
    · exact ⟨a1, Nat.ne_of_gt (Nat.lt_of_lt_of_le F.ltL a2), Nat.le_trans F.G.size a2, fun o' q => absurd (ltS (F.keep _ _ q)) (Nat.not_lt.mpr a2)⟩
theorem Leaves.snoc {P : Nat → Obj → Prop} {t : Nat} {tl : List Value} (ht : PL P t tl) (hl : tl.length = 32) : ∀ {as : List Nat} {ls : List (List Value)}, Leaves P as ls → Leaves P (as ++ [t]) (ls ++ [tl])
  | [], [], _ => ⟨ht, hl, trivial⟩
  | _ :: _, _ :: _, ⟨q, e, r⟩ => ⟨q, e, Leaves.snoc ht hl r⟩
  | [], _ :: _, h => h.elim
  | _ :: _, [], h => h.elim
theorem Leaves.len {P : Nat → Obj → Prop} : ∀ {as : List Nat} {ls : List (List Value)}, Leaves P as ls → as.length = ls.length ∧ ls.flatten.length = 32 * ls.length
  | [], [], _ => ⟨rfl, rfl⟩
  | _ :: _, _ :: _, ⟨q, e, r⟩ => by have := Leaves.len r; simp only [List.length_cons, List.flatten_cons, List.length_append, e]; omega
  | [], _ :: _, h => h.elim
  | _ :: _, [], h => h.elim
/-- the loop's state in _mutating_extend -/
def MX (w : World) (mg mb : Str → Option Value) (P P0 : Nat → Obj → Prop) (N t0 : Nat) (L : Nat) (v d l : Nat) (f : Int) (tf : Tok) (xs ys : List Value) (S : Shared) (n : Nat) (s : Shared) : Prop :=
  ∃ (o : Nat) (to tn : Tok) (h : Heap) (tk : Nat) (m : Str → Option Value) (P' P1 : Nat → Obj → Prop) (r t : Nat) (tc ts : Tok) (as : List Nat) (ls : List (List Value)) (tl : List Value) (k : Nat),
    s = { S with heap := h, toks := tk } ∧ n = 2 * (ys.length - o) + (if tl.length = 32 then 1 else 0) ∧ o ≤ ys.length ∧ Fm w mg mb P' L h m [(v, vecObj d (ls.flatten ++ tl).length tc r 5 ts t f tf), (t, listObj tl k)] ∧
    m "offset" = some (.int o to) ∧ m "sequence_len" = some (.int ys.length tn) ∧ m "self" = some (.ref v) ∧ m "sequence" = some (.ref l) ∧
    t ≠ v ∧ (∀ a o, P a o → P' a o) ∧ VecOf P1 d r as ls ∧ (∀ a o, P1 a o → P' a o) ∧ (∀ a o, P1 a o → P0 a o ∨ a = t0 ∨ N ≤ a) ∧ (t = t0 ∨ N ≤ t) ∧ ls.flatten ++ tl = xs ++ ys.take o ∧ tl.length ≤ 32
theorem mutExt {w : World} {mg mb : Str → Option Value} {A : Around} {s : Shared} {Q E : Value → Shared → Prop} {v d r t l : Nat} {tc : Tok} {ts : Tok} {f : Int} {tf : Tok} {as : List Nat} {ls : List (List Value)} {tl ys : List Value} {n n2 : Nat} {P0 : Nat → Obj → Prop}
    (G : Gr w mg mb s.heap) (hA : A.handled = none) (hd : A.depth + 4 < recursionLimit) (hv : s.heap.get? v = some (vecObj d (ls.flatten ++ tl).length tc r 5 ts t f tf)) (nb : NB ≤ v) (ht : s.heap.get? t = some (listObj tl n)) (nbt : NB ≤ t)
    (V : VecOf P0 d r as ls) (hP0 : ∀ a o, P0 a o → AtBut s.heap [v, t] a o) (hl : s.heap.get? l = some (listObj ys n2)) (nlv : l ≠ v) (nlt : l ≠ t) (ntv : t ≠ v) (htl : tl.length ≤ 32) (hz : (ls.flatten ++ tl).length + ys.length < 1056)
    (ret : ∀ h' tk', SubBut [v, t] s.heap h' → Vec (fun a o => h'.get? a = some o ∧ (P0 a o ∨ a = v ∨ a = t ∨ s.heap.objs.size ≤ a)) v (ls.flatten ++ tl ++ ys) → Q .none { s with heap := h', toks := tk' }) :
    wpAny (model prog w) A (call (.ref fMutExt) [.ref v, .ref l]) Q E s := by
  refine enter (P := AtBut s.heap [v, t]) (own := [(v, vecObj d (ls.flatten ++ tl).length tc r 5 ts t f tf), (t, listObj tl n)]) [("self", .ref v), ("sequence", .ref l)] G (fun _ _ h => h.1) (fun p hp => ?_) (by rfl) (by rfl) (by omega) (BindsTo.of_eq (by rfl)) (locs (by rfl)) ?_
  · simp only [List.mem_cons, List.not_mem_nil, or_false] at hp
    rcases hp with rfl | rfl
    · exact ⟨hv, nb, fun o' q => q.2 (.head _)⟩
    · exact ⟨ht, nbt, fun o' q => q.2 (.tail _ (.head _))⟩
  intro L h₁ hL F
  have hl' : AtBut s.heap [v, t] l (listObj ys n2) := ⟨hl, by simp [nlv, nlt]⟩
  repeat (walk_at "M")
  rename_i hb Fb hc Fc
  refine wpAny_While (codeAny_whileLoop (MX w mg mb (AtBut s.heap [v, t]) P0 s.heap.objs.size t L v d l f tf (ls.flatten ++ tl) ys s) ?_ (2 * (ys.length - 0) + (if tl.length = 32 then 1 else 0)) ?_)
  · rintro nn s' ⟨o, to, tn, h, tk, m, P', P1, r, t', tc, ts, as, ls', tl', k, rfl, rfl, ho, F, m1, m2, m3, m4, ntv, hP, V, hV1, hV2, ht0, he, htl'⟩
    have V1 := hV1 _ _ V.dict
    have lLh := F.ltL
    have V2 := hP _ _ hl'
    repeat (walk_at "M")
    by_cases hlt : o < ys.length
    · refine ite_pos (by simpa using hlt) ?_
      repeat (walk_at "M")
      have w1 := F.own _ (.head _)
      have w2 := F.own _ (.tail _ (.head _))
      have ndv : d ≠ v := fun e => w1.2.2.2 _ (e ▸ V1)
      have ndt : d ≠ t' := fun e => w2.2.2.2 _ (e ▸ V1)
      have nlv : l ≠ v := fun e => w1.2.2.2 _ (e ▸ V2)
      have nlt : l ≠ t' := fun e => w2.2.2.2 _ (e ▸ V2)
      refine fillTail F.G hA (by show A.depth + 1 + 1 < _; omega) w1.1 w1.2.2.1 (F.get V1) w2.1 w2.2.2.1 (F.get V2) ndv ntv ndt nlv nlt (by omega) htl' ho (fun tc' k3 tk3 h3 tk3' sb3 hv3 ht3 => ?_)
      have F3 := F.after (own' := [(v, _), (t', _)]) sb3 (fun p hp => by
        simp only [List.mem_cons, List.not_mem_nil, or_false] at hp
        rcases hp with rfl | rfl
        · exact ⟨hv3, .inl (by simp)⟩
        · exact ⟨ht3, .inl (by simp)⟩)
      clear F
      generalize hde : (ys.drop o).take (32 - tl'.length) = de at *
      have dl : de.length = min (32 - tl'.length) (ys.length - o) := by rw [← hde]; simp
      have hn : ((ls'.flatten ++ tl').length : Int) + de.length = ((ls'.flatten ++ (tl' ++ de)).length : Nat) := by simp; omega
      have ho' : (o : Int) + de.length = ((o + de.length : Nat) : Int) := by simp
      have he' : ls'.flatten ++ (tl' ++ de) = ls.flatten ++ tl ++ ys.take (o + de.length) := by
        rw [← List.append_assoc, he, List.take_add, List.append_assoc, List.append_assoc, List.append_assoc, ← hde]
        congr 3
        rw [List.take_eq_take_iff]
        simp
        try omega
      have hlen : (ls'.flatten ++ (tl' ++ de)).length < 1056 := by rw [he']; simp at hz ⊢; omega
      rw [hn] at F3
      rw [ho']
      repeat (walk_at "M")
      rename_i h4 F4
      clear F3
      by_cases h32 : (tl' ++ de).length = 32
      · refine ite_pos (by simp at h32 ⊢; omega) ?_
        repeat (walk_at "M")
        have w1 := F4.own _ (.head _)
        have w2 := F4.own _ (.tail _ (.head _))
        obtain ⟨nr, hr1⟩ := V.root
        have hr := hV1 _ _ hr1
        have nrv : r ≠ v := fun e => w1.2.2.2 _ (e ▸ hr)
        have nrt : r ≠ t' := fun e => w2.2.2.2 _ (e ▸ hr)
        have F5 := (F4.swap).freeze (by simpa using ntv.symm)
        have lv := V.leaves.len
        refine insTail F5.G hA (by show A.depth + 1 + 2 < _; omega) w1.1 w1.2.2.1 (F4.get V1) ndv (F4.get hr) nrv (by rw [List.length_map]; rw [List.length_append] at hlen; omega) (by omega) (by omega) (fun D T ts' k6 h6 tk6 sb6 hv6 hD6 hT6 lD lT nDT => ?_)
        have vl := ltS w1.1
        have lD' : h4.objs.size ≤ D := lD
        have lT' : h4.objs.size ≤ T := lT
        have F6 := F5.after (own' := [(D, _), (v, _), (T, _)]) sb6 (fun p hp => by
          simp only [List.mem_cons, List.not_mem_nil, or_false] at hp
          rcases hp with rfl | rfl | rfl
          · exact ⟨hD6, .inr lD⟩
          · exact ⟨hv6, .inl (by simp)⟩
          · exact ⟨hT6, .inr lT⟩)
        have F7 := F6.freeze (by simp; omega)
        have V7 : VecOf (Add (Add P1 t' (listObj (tl' ++ de) k3)) D (listObj (as.map .ref ++ [.ref t']) k6)) d D (as ++ [t']) (ls' ++ [tl' ++ de]) :=
          ⟨.inl (.inl V.dict), ⟨k6, .inr ⟨rfl, by simp⟩⟩, (V.leaves.mono fun _ _ q => .inl (.inl q)).snoc ⟨k3, .inl (.inr ⟨rfl, rfl⟩)⟩ h32⟩
        have lL4 := F4.ltL
        have hV1' : ∀ a o, Add (Add P1 t' (listObj (tl' ++ de) k3)) D (listObj (as.map .ref ++ [.ref t']) k6) a o → Add (Add P' t' (listObj (tl' ++ de) k3)) D (listObj (as.map .ref ++ [.ref t']) k6) a o := fun a o q => q.elim (fun q => .inl (q.elim (fun q => .inl (hV1 _ _ q)) .inr)) .inr
        have hV2' : ∀ a o, Add (Add P1 t' (listObj (tl' ++ de) k3)) D (listObj (as.map .ref ++ [.ref t']) k6) a o → P0 a o ∨ a = t ∨ s.heap.objs.size ≤ a := fun a o q => q.elim (fun q => q.elim (hV2 a o) fun e => by rw [e.1]; exact .inr ht0) fun e => by rw [e.1]; exact .inr (.inr (by omega))
        repeat (walk_at "M")
        refine ⟨_, ?_, o + de.length, _, _, h6, _, _, _, _, D, T, _, _, as ++ [t'], ls' ++ [tl' ++ de], [], _, rfl, rfl, by omega, by simpa using F7, by walk_at "nm", by walk_at "nm", by walk_at "nm", by walk_at "nm", by omega, fun a o q => .inl (.inl (hP a o q)), V7, hV1', hV2', .inr (by omega), by simpa using he', by simp⟩
        simp
        split <;> omega
      · refine ite_neg (by simp at h32 ⊢; omega) ?_
        refine wpAny_execs_nil ?_
        dsimp only
        refine wpAny_execs_nil ?_
        refine ⟨_, ?_, o + de.length, _, _, h4, _, _, P', P1, r, t', _, _, as, ls', tl' ++ de, _, rfl, rfl, by omega, F4, by walk_at "nm", by walk_at "nm", by walk_at "nm", by walk_at "nm", ntv, hP, V, hV1, hV2, ht0, he', by simp; omega⟩
        rw [if_neg h32]
        simp at h32
        omega
    · refine ite_neg (by simpa using hlt) ?_
      repeat (walk_at "M")
      refine sa_off (sl' := #[some (.int (ls'.flatten ++ tl').length tc), some (.ref r), some (.int 5 ts), some (.ref t'), some (.int ((ls'.flatten ++ tl').length - tl'.length) _)]) F (by simpa using ntv) (F.get V1) rfl (fun h3 F3 => ?_)
      repeat (walk_at "M")
      have e1 : ls'.flatten ++ tl' = ls.flatten ++ tl ++ ys := by rw [he, List.take_of_length_le (by omega)]
      refine ret _ _ (fun b o hb e => F3.keep _ _ (hP _ _ ⟨e, hb⟩)) ⟨d, r, t', _, _, _, as, ls', tl', ⟨by rw [← e1]; simpa using F3.ownAt (.head _), .inr (.inl rfl)⟩, V.mono (fun a o q => ⟨F3.keep _ _ (hV1 _ _ q), (hV2 _ _ q).elim .inl fun q => .inr (.inr q)⟩), ⟨_, F3.ownAt (.tail _ (.head _)), .inr (.inr ht0)⟩, htl', e1.symm⟩
  · exact ⟨0, _, _, hc, _, _, _, P0, r, t, tc, ts, as, ls, tl, n, rfl, rfl, Nat.zero_le _, Fc, by walk_at "nm", by walk_at "nm", by walk_at "nm", by walk_at "nm", ntv, fun _ _ h => h, V, hP0, fun _ _ q => .inl q, .inl rfl, by simp, htl⟩
section
variable {w : World} {mg mb : Str → Option Value} {A : Around} {E Q : Value → Shared → Prop} {s : Shared} {xs : List Value} {n l : Nat}
theorem kc_clsIn (P : Params) : (clsIn (K P) C).isSome = true := by kernel_rfl!
theorem kc_type (P : Params) : typeIn (K P) (.ref C) = some (.type "type") := by kernel_rfl!
theorem kc_inst (P : Params) : instIn (K P) (.ref C) (.type "type") = some true := by kernel_rfl!
theorem kc_listSub (P : Params) : subIn (K P) (.type "list") (.ref C) = some false := by kernel_rfl!
theorem isi_list (G : Gr w mg mb s.heap) (hl : s.heap.get? l = some (listObj xs n)) (h : Q (.bool false) { s with toks := s.toks + 1 }) :
    wpAny (model prog w) A (call (.builtin "isinstance") [.ref l, .ref C]) Q E s := by
  obtain ⟨hh, g, d, tt, os⟩ := s
  dsimp only at G hl h
  refine call_isinstance_of ?_ (by intro e; cases e)
  unfold Builtin.«isinstance.nested» rawInt
  have L0 : Looks (model prog w) hh (typeOf (.ref l)) (.type "list") := ((Looks.ld (part := none) hl).andThen .now)
  have L1 := looks_typeIn (M := model prog w) G.X (kc_type w.params)
  have L2 := looks_instIn (M := model prog w) G.X (kc_inst w.params)
  have L4 := looks_subIn (M := model prog w) G.X (kc_listSub w.params)
  have L3 : Looks (model prog w) hh (isInstance (.ref l) (.ref C)) false := L0.andThen L4
  refine wpAny_bind (L0.at ?_)
  rw [if_neg (by decide)]
  refine wpAny_bind (L1.at ?_)
  rw [if_pos (by decide)]
  k_delta "plainIsInstance"
  have e0 := kc_clsIn w.params
  unfold clsIn at e0
  split at e0
  · rename_i ho
    unfold isType
    repeat lk
    refine nd_load (G.X _ _ ho) (nd_pure (wpAny_pure ?_))
    simp only [Bool.not_true, Bool.false_eq_true, if_false]
    refine wpAny_bind (L3.at ?_)
    simp only [Bool.false_eq_true, if_false]
    refine wpAny_bind (class_attr_list hl rfl ?_)
    dsimp only
    refine wpAny_bind (wpAny_pure ?_)
    rw [if_neg (by decide)]
    refine wpAny_bind (wpAny_rule (L4.at ?_))
    exact wpAny_pure h
  · cases e0
end
section
variable {w : World} {mg mb : Str → Option Value} {A : Around} {E Q : Value → Shared → Prop} {s : Shared} {xs : List Value} {n l : Nat}
theorem truthyL {Q : Bool → Shared → Prop} (hl : s.heap.get? l = some (listObj xs n)) (hz : xs.length < 2 ^ 30) (h : Q (!xs.isEmpty) { s with toks := s.toks + 1 + 1 }) : wpAny (model prog w) A (truthy (.ref l)) Q E s := by
  refine wpAny_truthy_list (isList_at hl) (by simp; omega) ?_
  cases xs <;> exact h
theorem itemL {value slice : PySem.Expr} {k : Nat} {t : Tok} {x : Value} (hl : s.heap.get? l = some (listObj xs n)) (hz : xs.length < 2 ^ 30) (hx : xs[k]? = some x) (h : Q x s)
    (hs : subscripted slice false (.ref l) (.int k t) = operate [.ref l, .int k t] (getItem (.ref l) (.int k t)) := by rfl) : wpAny (model prog w) A (subscriptTail value slice (.ref l) (.int k t)) Q E s := by
  have hk := (List.getElem?_eq_some_iff.mp hx).1
  exact tail_any (isList_at hl).typeIs slot_list_getitem.lookup (wpAny_getItem_list (isList_at hl) (by omega) (by omega) (by simpa using hx) h) hs
end
local macro_rules | `(tactic| walk_at "N") => `(tactic| first
  | walk_at "M"
  | with_reducible refine truthy_int ?_
  | with_reducible refine Constant_none ?_
  | with_reducible refine is_int_none ?_
  | with_reducible refine is_none_none ?_
  | ((with_reducible show wpAny _ _ (PySem.isTrue (Expr.BoolOp BoolOp.And _ _) _ _) _ _ _); first | refine isTrue_and ?_ | refine isTrue_and_nil ?_)
  | ((with_reducible show wpAny _ _ (PySem.isTrue (Expr.BoolOp BoolOp.Or _ _) _ _) _ _ _); first | refine isTrue_or ?_ | refine isTrue_or_nil ?_)
  | ((with_reducible show wpAny _ _ (eval (Expr.UnaryOp UnaryOp.USub _ _) _) _ _ _); refine wpAny_UnaryOp ?_)
  | with_reducible refine neg_int ?_
  | ((with_reducible show wpAny _ _ (testChain _ _ (_ :: _ :: _) _) _ _ _); refine test_link ?_)
  | ((with_reducible show wpAny _ _ (testChain _ _ [_] _) _ _ _); refine test_last ?_)
  | ((with_reducible show wpAny _ _ (call (Value.builtin "isinstance") [Value.int _ _, Value.type "int"]) _ _ _); refine PySem.IsiPair.int_int ?_)
  | ((with_reducible show wpAny _ _ (exec (Stmt.AugAssign (Expr.Name _ _) _ _ _) _) _ _ _); refine wpAny_AugAssign_Name ?_)
  | ((with_reducible show wpAny _ _ (loadName _ _) _ _ _); refine lnL (by assumption) (by walk_at "nm") ?_)
  | ((with_reducible show wpAny _ _ (exec (Stmt.For _ _ _ _ _) _) _ _ _); refine wpAny_For ?_)
  | with_reducible refine isub_int ?_
  | ((with_reducible show wpAny _ _ (eval (Expr.IfExp _ _ _ _) _) _ _ _); refine wpAny_IfExp ?_)
  | ((with_reducible show wpAny _ _ (PySem.isTrue (Expr.Compare _ [_, _] [_, _] _) _ _) _ _ _); refine isTrue_chain ?_)
  | ((with_reducible show wpAny _ _ (PySem.isTrue (Expr.UnaryOp UnaryOp.Not _ _) _ _) _ _ _); refine isTrue_not ?_)
  | ((with_reducible show wpAny _ _ (PySem.isTrue (Expr.Call _ _ _ _) _ _) _ _ _); refine isTrue_plain ?_)
  | ((with_reducible show wpAny _ _ (PySem.isTrue (Expr.Name _ _) _ _) _ _ _); refine isTrue_plain ?_)
  | ((with_reducible show wpAny _ _ (truthy (Value.ref _)) _ _ _); refine truthyL (by walk_at "obj") (by walk_at "lt") ?_)
  | ((with_reducible show wpAny _ _ (call (Value.builtin "isinstance") [Value.ref _, Value.ref C]) _ _ _); refine isi_list (Fm.G (by assumption)) (by walk_at "obj") ?_))
theorem pick_from (xs : List Value) (a : Nat) : (slicePick xs.toArray (some (a : Int)) none none) = (xs.drop a).toArray := by
  rw [slicePick_plain]
  simp only [Option.elim, clipAt_nat, List.size_toArray]
  congr 1
  apply List.ext_getElem?
  intro i
  simp only [List.getElem?_take, List.getElem?_drop]
  by_cases h1 : i < xs.length - min a xs.length
  · rw [if_pos h1]
    congr 1
    omega
  · rw [if_neg h1, List.getElem?_eq_none (by omega)]
theorem Fm.rebase {w : World} {mg mb : Str → Option Value} {P : Nat → Obj → Prop} {L : Nat} {h : Heap} {m : Str → Option Value} {own : List (Nat × Obj)} (F : Fm w mg mb P L h m own) : Fm w mg mb (AtBut h (L :: own.map Prod.fst)) L h m own where
  G := F.G
  ns := F.ns
  lo := F.lo
  off := fun a o q e => q.2 (e ▸ List.mem_cons_self)
  keep := fun a o q => q.1
  own := fun p hp => let ⟨a1, a2, a3, a4⟩ := F.own p hp; ⟨a1, a2, a3, fun o' q => q.2 (List.mem_cons_of_mem _ (List.mem_map_of_mem hp))⟩
/-- what was known, or is new -/
abbrev Nw (P0 : Nat → Obj → Prop) (h h' : Heap) : Nat → Obj → Prop := fun a o => h'.get? a = some o ∧ (P0 a o ∨ h.objs.size ≤ a)
theorem pushed {h h' : Heap} {d r t v' d' r' t' : Nat} {c f : Int} {as : List Nat} {ls : List (List Value)} {tl : List Value} {x : Value} {nt : Nat} {P0 : Nat → Obj → Prop} (S : List Nat) (sb : Sub h h') (hP0 : ∀ a o, P0 a o → h.get? a = some o) (V : VecOf P0 d r as ls) (ht : P0 t (listObj tl nt)) (htl : tl.length ≤ 32)
    (W : VAt h' v' d' r' t' c f (push1 t (as.map .ref) tl x).1 (push1 t (as.map .ref) tl x).2) (hS : ∀ a ∈ S, h.objs.size ≤ a) (hdS : d' ∉ S) (hrS : r' ∉ S) (ld : h.objs.size ≤ d') (lr : r' = r ∨ h.objs.size ≤ r') :
    ∃ as' ls', VecOf (fun a o => AtBut h' S a o ∧ (P0 a o ∨ h.objs.size ≤ a)) d' r' as' ls' ∧ ls'.flatten ++ (push1 t (as.map .ref) tl x).2 = ls.flatten ++ tl ++ [x] ∧ (push1 t (as.map .ref) tl x).2.length ≤ 32 := by
  obtain ⟨_, hd', ⟨nr', hr'⟩, _⟩ := W
  obtain ⟨nr, hr⟩ := V.root
  have old : ∀ a o, P0 a o → AtBut h' S a o ∧ (P0 a o ∨ h.objs.size ≤ a) := fun a o q => ⟨⟨sb _ _ (hP0 _ _ q), fun z => by have := ltS (hP0 _ _ q); have := hS a z; omega⟩, .inl q⟩
  by_cases hlt : tl.length < 32
  · have e : push1 t (as.map .ref) tl x = (as.map .ref, tl ++ [x]) := if_pos hlt
    rw [e] at hr' ⊢
    refine ⟨as, ls, ⟨⟨⟨hd', hdS⟩, .inr ld⟩, ?_, V.leaves.mono old⟩, by simp, by simp; omega⟩
    rcases lr with q | q
    · subst q; exact ⟨nr, old _ _ hr⟩
    · exact ⟨nr', ⟨hr', hrS⟩, .inr q⟩
  · have e : push1 t (as.map .ref) tl x = (as.map .ref ++ [.ref t], [x]) := if_neg hlt
    rw [e] at hr' ⊢
    refine ⟨as ++ [t], ls ++ [tl], ⟨⟨⟨hd', hdS⟩, .inr ld⟩, ⟨nr', ⟨by simpa using hr', hrS⟩, ?_⟩, (V.leaves.mono old).snoc ⟨nt, old _ _ ht⟩ (by omega)⟩, by simp, by simp⟩
    rcases lr with q | q
    · subst q
      have := (sb _ _ (hP0 _ _ hr)).symm.trans hr'
      injection this with this
      injection this with _ _ this _
      injection this with this _
      have := congrArg Array.size this
      simp at this
    · exact .inr q
theorem appendV {w : World} {mg mb : Str → Option Value} {A : Around} {s : Shared} {Q E : Value → Shared → Prop} {v : Nat} {xs : List Value} {x : Value} {P0 : Nat → Obj → Prop}
    (G : Gr w mg mb s.heap) (hA : A.handled = none) (hd : A.depth + 3 < recursionLimit) (hP0 : ∀ a o, P0 a o → s.heap.get? a = some o) (V : Vec P0 v xs) (hz : xs.length < 1056)
    (ret : ∀ v' h' tk', Sub s.heap h' → Vec (Nw P0 s.heap h') v' (xs ++ [x]) → Q (.ref v') { s with heap := h', toks := tk' }) :
    wpAny (model prog w) A (call (.ref fAppend) [.ref v, x]) Q E s := by
  obtain ⟨d, r, t, tc, ts, tf, as, ls, tl, hv, hV, ⟨nt, ht⟩, htl, rfl⟩ := V
  have lv := hV.leaves.len
  refine append_ (v := v) (t := t) (rs := as.map .ref) (tl := tl) G hA hd ⟨⟨_, _, _, hP0 _ _ hv⟩, hP0 _ _ hV.dict, let ⟨n, q⟩ := hV.root; ⟨n, hP0 _ _ q⟩, nt, hP0 _ _ ht⟩ (by rw [List.length_map]; rw [List.length_append] at hz; omega) htl (by omega) (by omega) (fun v' d' r' t' h' tk' sb W lv ld lt lr n1 n2 n3 n4 n5 n6 => ?_)
  obtain ⟨as', ls', V', e, hl'⟩ := pushed [] sb hP0 hV ht htl W (fun _ h => nomatch h) (fun h => nomatch h) (fun h => nomatch h) ld lr
  obtain ⟨⟨tc', ts', tf', hv'⟩, _, _, ⟨nt', ht'⟩⟩ := W
  have e1 : ((ls.flatten ++ tl).length : Int) + 1 = ((ls.flatten ++ tl ++ [x]).length : Nat) := by simp; omega
  have e2 : (push1 t (as.map .ref) tl x).2.length ≤ (ls.flatten ++ tl ++ [x]).length := by rw [← e]; simp
  rw [e1] at hv'
  rw [show ((ls.flatten ++ tl ++ [x]).length : Int) - ((push1 t (as.map .ref) tl x).2.length : Nat) = (((ls.flatten ++ tl ++ [x]).length - (push1 t (as.map .ref) tl x).2.length : Nat) : Int) by omega] at hv'
  exact ret v' h' tk' sb ⟨d', r', t', tc', ts', tf', as', ls', (push1 t (as.map .ref) tl x).2, ⟨hv', .inr lv⟩, V'.mono (fun _ _ q => ⟨q.1.1, q.2⟩), ⟨nt', ht', .inr lt⟩, hl', e.symm⟩
theorem extendV {w : World} {mg mb : Str → Option Value} {A : Around} {s : Shared} {Q E : Value → Shared → Prop} {v l : Nat} {xs ys : List Value} {n : Nat} {P0 : Nat → Obj → Prop}
    (G : Gr w mg mb s.heap) (hA : A.handled = none) (hd : A.depth + 5 < recursionLimit) (hP0 : ∀ a o, P0 a o → s.heap.get? a = some o) (V : Vec P0 v xs) (hl : s.heap.get? l = some (listObj ys n)) (hz : xs.length + ys.length < 1056)
    (ret : ∀ v' h' tk', Sub s.heap h' → Vec (Nw P0 s.heap h') v' (xs ++ ys) → Q (.ref v') { s with heap := h', toks := tk' }) :
    wpAny (model prog w) A (call (.ref fExtend) [.ref v, .ref l]) Q E s := by
  obtain ⟨d, r, t, tc, ts, tf, as, ls, tl, hv0, hV0, ⟨nt, ht0⟩, htl, rfl⟩ := V
  have hv := hP0 _ _ hv0
  have hV := hV0.mono hP0
  have ht := hP0 _ _ ht0
  refine enter (P := At s.heap) (own := []) [("self", .ref v), ("obj", .ref l)] G (fun _ _ h => h) (fun _ h => nomatch h) (by rfl) (by rfl) (by omega) (BindsTo.of_eq (by rfl)) (locs (by rfl)) ?_
  intro L h₁ hL F
  repeat (walk_at "N")
  refine ite_neg (by decide) ?_
  repeat (walk_at "N")
  refine copyL F (F.get hl) (by omega) (fun D c h2 F2 lD ne2 => ?_)
  clear F
  have hV1 := hV.dict
  repeat (walk_at "N")
  rename_i h3 F3
  clear F2
  rcases ys with _ | ⟨y, ys⟩
  · refine ite_neg (by simp) ?_
    repeat (walk_at "N")
    exact ret v _ _ F3.keep ⟨d, r, t, tc, ts, tf, as, ls, tl, by simpa using (⟨F3.get hv, .inl hv0⟩ : Nw P0 s.heap h3 v _), hV0.mono (fun a o q => ⟨F3.get (hP0 _ _ q), .inl q⟩), ⟨nt, F3.get ht, .inl ht0⟩, htl, by simp⟩
  · refine ite_pos (by simp) ?_
    repeat (walk_at "N")
    refine itemL (k := 0) (F3.ownAt (.head _)) (by omega) rfl ?_
    repeat (walk_at "N")
    have lv := hV.leaves.len
    refine append_ (v := v) (t := t) (rs := as.map .ref) (tl := tl) F3.G hA (by show A.depth + 1 + 3 < _; omega) ⟨⟨_, _, _, F3.get hv⟩, F3.get hV.dict, let ⟨n, q⟩ := hV.root; ⟨n, F3.get q⟩, nt, F3.get ht⟩ (by rw [List.length_map]; rw [List.length_append] at hz; omega) htl (by omega) (by simp at hz; simp; omega) (fun v' d' r' t' h4 tk4 sb W lv ld lt lr n1 n2 n3 n4 n5 n6 => ?_)
    have lv' : h3.objs.size ≤ v' := lv
    have lt' : h3.objs.size ≤ t' := lt
    have ld' : h3.objs.size ≤ d' := ld
    have lr' : r' = r ∨ h3.objs.size ≤ r' := lr
    have lL := F3.ltL
    obtain ⟨nr, hr⟩ := hV.root
    have ltr := ltS hr
    have sb' : Sub s.heap h4 := fun b o e => sb _ _ (F3.keep b o e)
    obtain ⟨as', ls', V', e, hl'⟩ := pushed [L, v', t'] sb' hP0 hV0 ht0 htl W (by intro a ha; simp only [List.mem_cons, List.not_mem_nil, or_false] at ha; omega) (by simp only [List.mem_cons, List.not_mem_nil, or_false]; omega) (by simp only [List.mem_cons, List.not_mem_nil, or_false]; omega) (by omega) (by omega)
    obtain ⟨⟨tc', ts', tf', hv'⟩, _, _, ⟨nt', ht'⟩⟩ := W
    generalize (push1 t (as.map .ref) tl y).2 = tl' at *
    have lD3 := ltS (F3.ownAt (.head _))
    have hD4 := sb _ _ (F3.ownAt (.head _))
    have F4 := (F3.after (own' := [(v', _), (t', _)]) (fun b o _ e => sb b o e) (fun p hp => by
      simp only [List.mem_cons, List.not_mem_nil, or_false] at hp
      rcases hp with rfl | rfl
      · exact ⟨hv', .inr lv⟩
      · exact ⟨ht', .inr lt⟩)).rebase
    clear F3
    have hd4 := V'.dict.1
    have hD5 : AtBut h4 [L, v', t'] D (listObj (y :: ys) c) := ⟨hD4, by simp only [List.mem_cons, List.not_mem_nil, or_false]; omega⟩
    repeat (walk_at "N")
    rename_i h5 F5
    refine ⟨D, (y :: ys).toArray, _, _, rfl, isList_at (F5.get hD5), by rw [sizeLine_eq, List.size_toArray]; omega, .int _ _, .none, ?_⟩
    rw [show (1 : Int) = ((1 : Nat) : Int) from rfl, pick_from, List.drop_one, List.tail_cons]
    obtain ⟨F6, l6, n6⟩ := F5.sliced { cls := .type "slice", data := .fields #[.int ((1 : Nat) : Int) (tk4 + 1), .none, .none] } (listObj ys 0)
    generalize hD6 : h5.objs.size + 1 = D6 at F6 l6 n6
    clear F5
    repeat (walk_at "N")
    have w1 := F6.own _ (.tail _ (.head _))
    have w2 := F6.own _ (.tail _ (.tail _ (.head _)))
    have e1 : ((ls.flatten ++ tl).length : Int) + 1 = ((ls'.flatten ++ tl').length : Nat) := by rw [e]; simp; omega
    rw [e1] at w1
    have ne1 := n6 _ (.head _)
    have ne2 := n6 _ (.tail _ (.head _))
    have lL6 := F6.ltL
    refine mutExt (l := D6) F6.G hA (by show A.depth + 1 + 4 < _; omega) w1.1 w1.2.2.1 w2.1 w2.2.2.1 V' (fun a o q => ⟨F6.keep _ _ q.1, fun q' => q.1.2 (.tail _ q')⟩) (F6.ownAt (.head _)) (Ne.symm ne1) (Ne.symm ne2) n2 hl' (by rw [e]; simp at hz ⊢; omega) (fun h7 tk7 sb7 V7 => ?_)
    have F7 := (F6.tl).after (own' := []) sb7 (fun p hp => nomatch hp)
    repeat (walk_at "N")
    refine ret v' h7 _ (fun (b : Nat) o eb => ?_) ?_
    · have lb := ltS eb
      have nb : b ∉ [v', t'] := by simp only [List.mem_cons, List.not_mem_nil, or_false]; omega
      exact F7.keep _ _ ⟨sb' _ _ eb, by simp only [List.map_cons, List.map_nil, List.mem_cons, List.not_mem_nil, or_false]; omega⟩
    · rw [e] at V7
      rw [show ls.flatten ++ tl ++ (y :: ys) = ls.flatten ++ tl ++ [y] ++ ys by simp]
      refine V7.mono (fun a o q => ⟨q.1, ?_⟩)
      rcases q.2 with q | q | q | q
      · exact q.2
      · exact .inr (by omega)
      · exact .inr (by omega)
      · exact .inr (Nat.le_trans (Nat.le_of_lt (hL ▸ lL6)) q)
/-- a loop over a list that stands -/
theorem iterL {w : World} {mg mb : Str → Option Value} {P : Nat → Obj → Prop} {L l n : Nat} {m : Str → Option Value} {own : List (Nat × Obj)} {A : Around} {E : Value → Shared → Prop} {R : Result → Shared → Prop} {s : Shared} {env : Env} {items : List Value} {x : Str} {px : Pos} {body : List Stmt}
    (F : Fm w mg mb P L s.heap m own) (hh : A.handled = none) (hl : P l (listObj items n)) (J : Nat → (Nat → Obj → Prop) → (Str → Option Value) → List (Nat × Obj) → Prop) (h0 : J 0 P m own)
    (step : ∀ E' i v P' m' own' it io h tk, items[i]? = some v → (∀ a o, P a o → P' a o) → J i P' m' own' → (∀ p ∈ own', p.1 ≠ it) → Fm w mg mb P' L h (fun y => if y = x then some v else m' y) ((it, io) :: own') →
      wpAny (model prog w) A (execs body env) (fun f s' => match f with
        | .next | .cont => ∃ h' tk' P'' m'' own'', s' = { s with heap := h', toks := tk' } ∧ Fm w mg mb P'' L h' m'' ((it, io) :: own'') ∧ (∀ p ∈ own'', p.1 ≠ it) ∧ (∀ a o, P' a o → P'' a o) ∧ J (i + 1) P'' m'' own''
        | .brk => False
        | .ret v => R (.ok (.ret v)) s') E' { s with heap := h, toks := tk })
    (done : ∀ h' tk' P' m' own', Fm w mg mb P' L h' m' own' → (∀ a o, P a o → P' a o) → J items.length P' m' own' → R (.ok .next) { s with heap := h', toks := tk' })
    (hL : env.locals = L := by rfl) (hk : env.scope.kind = .function := by rfl) (hx : env.kindOf x = some .local := by rfl) :
    wpAny (model prog w) A (pyIter (.ref l)) (fun it s₂ => codeAny (model prog w) A (.forLoop (.Name x px) it body [] env) R s₂) E s := by
  refine wpAny_pyIter_list (isList_at (F.get hl)) ?_
  have F0 := F.alloc { cls := .type "list_iterator", data := .fields #[.ref l, .int 0 0] }
  have ne0 := F.fresh.2
  generalize hit : s.heap.objs.size = it at F0 ne0
  have I0 := F0.ownAt (.head _)
  refine codeAny_forLoop (fun k s' => ∃ h tk P' m' own' io i, s' = { s with heap := h, toks := tk } ∧ Fm w mg mb P' L h m' ((it, io) :: own') ∧ (∀ p ∈ own', p.1 ≠ it) ∧ (∀ a o, P a o → P' a o) ∧ h.IsListIter it l i ∧ J i P' m' own' ∧ i ≤ items.length ∧ k = items.length + 1 - i) ?_ (items.length + 1)
    ⟨_, s.toks, P, m, own, _, 0, rfl, F0, ne0, fun _ _ q => q, ⟨_, I0, rfl, rfl⟩, h0, Nat.zero_le _, rfl⟩
  rintro k s' ⟨h, tk, P', m', own', io, i, rfl, F1, ne1, hP, hI, hJ, hi, rfl⟩
  have hl1 := isList_at (F1.get (hP _ _ hl))
  cases hv : items[i]? with
  | none =>
    have hsz : i = items.length := Nat.le_antisymm hi (by simpa using hv)
    refine wpAny_pyNext_list_end hh hI hl1 (by simpa using hv) fun h₁ he₁ => wpAny_execs_nil ?_
    refine done h₁ tk P' m' own' (F1.after (fun b o hb e => he₁ b o (fun q => hb (q ▸ List.mem_cons_self)) e) (fun p hp => ⟨he₁ _ _ (ne1 p hp) (F1.own p (.tail _ hp)).1, .inl (List.mem_cons_of_mem _ (List.mem_map_of_mem hp))⟩)) hP (hsz ▸ hJ)
  | some v =>
    have hlt : i < items.length := (List.getElem?_eq_some_iff.mp hv).1
    refine wpAny_pyNext_list_item hI hl1 (by simpa using hv) fun h₁ hI₁ hs₁ => ?_
    obtain ⟨io₁, hio₁, hc₁, hd₁⟩ := id hI₁
    have F2 := F1.turn hs₁ hio₁ ne1
    refine wpAny_assign_Name (stL F2 (fun h₂ F3 => ?_) hL hk hx)
    refine wpAny_mono (step _ i v P' m' own' it io₁ h₂ _ hv hP hJ ne1 F3) (fun f s₃ h₃ => ?_) fun _ _ e => e
    have fin : (∃ h' tk' P'' m'' own'', s₃ = { s with heap := h', toks := tk' } ∧ Fm w mg mb P'' L h' m'' ((it, io₁) :: own'') ∧ (∀ p ∈ own'', p.1 ≠ it) ∧ (∀ a o, P' a o → P'' a o) ∧ J (i + 1) P'' m'' own'') → ∃ m, m < items.length + 1 - i ∧ (∃ h tk P' m' own' io i, s₃ = { s with heap := h, toks := tk } ∧ Fm w mg mb P' L h m' ((it, io) :: own') ∧ (∀ p ∈ own', p.1 ≠ it) ∧ (∀ a o, P a o → P' a o) ∧ h.IsListIter it l i ∧ J i P' m' own' ∧ i ≤ items.length ∧ m = items.length + 1 - i) := by
      rintro ⟨h', tk', P'', m'', own'', rfl, F4, ne4, hP4, J4⟩
      exact ⟨_, by omega, h', tk', P'', m'', own'', io₁, i + 1, rfl, F4, ne4, fun a o q => hP4 _ _ (hP _ _ q), ⟨_, F4.ownAt (.head _), hc₁, hd₁⟩, J4, hlt, rfl⟩
    cases f with
    | next => exact fin h₃
    | cont => exact fin h₃
    | brk => exact h₃.elim
    | ret v => exact h₃
theorem fill0 {w : World} {mg mb : Str → Option Value} {A : Around} {s : Shared} {Q E : Value → Shared → Prop} {a l : Nat} {xs ys : List Value} {n n2 : Nat} {self : Value} {tk : Tok}
    (G : Gr w mg mb s.heap) (hd : A.depth < recursionLimit) (hl : s.heap.get? l = some (listObj xs n)) (nb : NB ≤ l) (ha : s.heap.get? a = some (listObj ys n2)) (ne : a ≠ l) (hz : xs.length + ys.length < 2 ^ 20)
    (ret : ∀ c h' tk', SubBut [l] s.heap h' → h'.get? l = some (listObj (xs ++ ys) c) → Q .none { s with heap := h', toks := tk' }) :
    wpAny (model prog w) A (call (.ref fFill) [self, .ref a, .int 0 tk, .ref l]) Q E s := by
  refine enter (P := AtBut s.heap [l]) (own := [(l, listObj xs n)]) [("self", self), ("node", .ref a), ("shift", .int 0 tk), ("the_list", .ref l)] G (fun _ _ h => h.1) (fun p hp => by rw [List.mem_singleton.mp hp]; exact ⟨hl, nb, fun o' q => q.2 (.head _)⟩) (by rfl) (by rfl) hd (BindsTo.of_eq (by rfl)) (locs (by rfl)) ?_
  intro L h₁ hL F
  have ha' : AtBut s.heap [l] a (listObj ys n2) := ⟨ha, by simp [ne]⟩
  repeat (walk_at "N")
  refine ite_neg (by decide) ?_
  repeat (walk_at "N")
  refine extendL F (by simp) (F.get ha') hz (fun c h2 F2 => ?_)
  repeat (walk_at "N")
  exact ret c h2 _ (fun b o hb e => F2.keep b o ⟨e, hb⟩) (F2.ownAt (.head _))
theorem Leaves.get {P : Nat → Obj → Prop} : ∀ {as : List Nat} {ls : List (List Value)} {i : Nat} {x : Value}, Leaves P as ls → (as.map Value.ref)[i]? = some x → ∃ a n, x = .ref a ∧ ∃ ys, ls[i]? = some ys ∧ ys.length = 32 ∧ P a (listObj ys n)
  | [], [], _, _, _, h => by simp at h
  | a :: as, l :: ls, 0, x, ⟨⟨n, q⟩, e, r⟩, h => by simp at h; exact ⟨a, n, h.symm, l, rfl, e, q⟩
  | a :: as, l :: ls, i + 1, x, ⟨q, e, r⟩, h => by
    obtain ⟨a', n', e', ys, h', z⟩ := Leaves.get r (i := i) (by simpa using h)
    exact ⟨a', n', e', ys, by simpa using h', z⟩
  | [], _ :: _, _, _, h, _ => h.elim
  | _ :: _, [], _, _, h, _ => h.elim
theorem flatten_take_succ {ls : List (List Value)} {i : Nat} {ys : List Value} (h : ls[i]? = some ys) : (ls.take (i + 1)).flatten = (ls.take i).flatten ++ ys := by
  rw [List.take_add_one, h]; simp
theorem fill5 {w : World} {mg mb : Str → Option Value} {A : Around} {s : Shared} {Q E : Value → Shared → Prop} {v d r l : Nat} {sl : Array (Option Value)} {as : List Nat} {ls : List (List Value)} {n : Nat} {tk : Tok}
    (G : Gr w mg mb s.heap) (hA : A.handled = none) (hd : A.depth + 1 < recursionLimit) (hl : s.heap.get? l = some (listObj [] n)) (nb : NB ≤ l) (hv : s.heap.get? v = some ⟨.ref C, some d, .plain, sl⟩) (nv : v ≠ l) (V : VecOf (AtBut s.heap [l]) d r as ls) (hz : ls.flatten.length < 2 ^ 19)
    (ret : ∀ c h' tk', SubBut [l] s.heap h' → h'.get? l = some (listObj ls.flatten c) → Q .none { s with heap := h', toks := tk' }) :
    wpAny (model prog w) A (call (.ref fFill) [.ref v, .ref r, .int 5 tk, .ref l]) Q E s := by
  refine enter (P := AtBut s.heap [l]) (own := [(l, listObj [] n)]) [("self", .ref v), ("node", .ref r), ("shift", .int 5 tk), ("the_list", .ref l)] G (fun _ _ h => h.1) (fun p hp => by rw [List.mem_singleton.mp hp]; exact ⟨hl, nb, fun o' q => q.2 (.head _)⟩) (by rfl) (by rfl) (by omega) (BindsTo.of_eq (by rfl)) (locs (by rfl)) ?_
  intro L h₁ hL F
  have hv' : AtBut s.heap [l] v ⟨.ref C, some d, .plain, sl⟩ := ⟨hv, by simp [nv]⟩
  have hd' := V.dict
  obtain ⟨nr, hr⟩ := V.root
  have ll := V.leaves.len
  repeat (walk_at "N")
  refine ite_pos (by decide) ?_
  repeat (walk_at "N")
  rename_i h2 F2
  refine iterL F2 hA hr (fun i P' m' own' => ∃ c t, own' = [(l, listObj (ls.take i).flatten c)] ∧ m' "self" = some (.ref v) ∧ m' "shift" = some (.int (5 - 5) t) ∧ m' "the_list" = some (.ref l)) ⟨n, _, by simp, by walk_at "nm", by walk_at "nm", by walk_at "nm"⟩ ?_ ?_
  · rintro E' i x P' m' own' it io h tk' hx hP ⟨c, t, rfl, m1, m2, m3⟩ ne F3
    obtain ⟨a, na, rfl, ys, hy, hy32, pa⟩ := V.leaves.get hx
    have hv3 := hP _ _ hv'
    have hd3 := hP _ _ hd'
    have ha3 := hP _ _ pa
    repeat (walk_at "N")
    have w1 := F3.own _ (.tail _ (.head _))
    have hf := flatten_take_succ hy
    have hi := (List.getElem?_eq_some_iff.mp hy).1
    have hb : (ls.take (i + 1)).flatten.length ≤ ls.flatten.length := by
      conv => rhs; rw [← List.take_append_drop (i + 1) ls]
      rw [List.flatten_append, List.length_append]; omega
    rw [hf, List.length_append] at hb
    refine fill0 F3.G (by show A.depth + 1 < _; omega) w1.1 w1.2.2.1 (F3.get ha3) (fun e => w1.2.2.2 _ (e ▸ ha3)) (by omega) (fun c' h4 tk4 sb4 hl4 => ?_)
    have nit := ne _ (.head _)
    have F4 := F3.after (own' := [(it, io), (l, _)]) (fun b o hb e => sb4 b o (fun q => hb (by simp at q ⊢; exact .inr q)) e) (fun p hp => by
      simp only [List.mem_cons, List.not_mem_nil, or_false] at hp
      rcases hp with rfl | rfl
      · exact ⟨sb4 _ _ (by simpa using Ne.symm nit) (F3.ownAt (.head _)), .inl (by simp)⟩
      · exact ⟨hl4, .inl (by simp)⟩)
    repeat (walk_at "N")
    exact ⟨h4, _, P', _, _, rfl, F4, by simpa using nit, fun _ _ q => q, c', t, by rw [hf], by walk_at "nm", by walk_at "nm", by walk_at "nm"⟩
  · rintro h' tk' P' m' own' F3 hP ⟨c, t, rfl, m1, m2, m3⟩
    repeat (walk_at "N")
    refine ret c h' _ (fun b o hb e => F3.keep b o (hP _ _ ⟨e, hb⟩)) ?_
    have := F3.ownAt (.head _)
    rwa [List.length_map, ll.1, List.take_length] at this
theorem tolistV {w : World} {mg mb : Str → Option Value} {A : Around} {s : Shared} {Q E : Value → Shared → Prop} {v : Nat} {xs : List Value}
    (G : Gr w mg mb s.heap) (hA : A.handled = none) (hd : A.depth + 2 < recursionLimit) (V : Vec (At s.heap) v xs) (hz : xs.length < 2 ^ 18)
    (ret : ∀ D c h' tk', Sub s.heap h' → h'.get? D = some (listObj xs c) → s.heap.objs.size ≤ D → Q (.ref D) { s with heap := h', toks := tk' }) :
    wpAny (model prog w) A (call (.ref fTolist) [.ref v]) Q E s := by
  obtain ⟨d, r, t, tc, ts, tf, as, ls, tl, hv, hV, ⟨nt, ht⟩, htl, rfl⟩ := V
  refine enter (P := At s.heap) (own := []) [("self", .ref v)] G (fun _ _ h => h) (fun _ h => nomatch h) (by rfl) (by rfl) (by omega) (BindsTo.of_eq (by rfl)) (locs (by rfl)) ?_
  intro L h₁ hL F
  have hV1 := hV.dict
  repeat (walk_at "N")
  rename_i D h2 F2 lD ne h3 F3
  have w1 := F3.own _ (.head _)
  have low : ∀ a o, At s.heap a o → AtBut h3 [D] a o := fun (a : Nat) o e => ⟨F3.keep _ _ e, by have := ltS e; simp only [List.mem_cons, List.not_mem_nil, or_false]; omega⟩
  refine fill5 F3.G hA (by show A.depth + 1 + 1 < _; omega) w1.1 w1.2.2.1 (low _ _ hv).1 (by have := ltS hv; omega) (hV.mono low) (by rw [List.length_append] at hz; omega) (fun c h4 tk4 sb4 hD4 => ?_)
  have F4 := F3.after (own' := [(D, _)]) sb4 (fun p hp => by rw [List.mem_singleton.mp hp]; exact ⟨hD4, .inl (by simp)⟩)
  repeat (walk_at "N")
  refine extendL F4 (by simp) (F4.get ht) (by rw [List.length_append] at hz; omega) (fun c5 h5 F5 => ?_)
  repeat (walk_at "N")
  exact ret D c5 h5 _ F5.keep (F5.ownAt (.head _)) (by omega)
theorem emptyV {w : World} {mg mb : Str → Option Value} {h : Heap} (G : Gr w mg mb h) : Vec (At h) aEmpty [] := by
  refine ⟨_, _, _, _, _, _, [], [], [], G.X aEmpty _ (by rfl), ⟨G.X _ _ (by rfl), ⟨_, G.X _ _ (by rfl)⟩, trivial⟩, ⟨_, G.X _ _ (by rfl)⟩, by simp, rfl⟩
theorem and31 (i : Nat) : Builtin.bitAnd (i : Int) 31 = ((i % 32 : Nat) : Int) := by
  show ((((i : Int).toNat &&& (31 : Int).toNat : Nat)) : Int) = _
  rw [Int.toNat_natCast, show (31 : Int).toNat = 2 ^ 5 - 1 from rfl, Nat.and_two_pow_sub_one_eq_mod]
theorem shr5 (i : Nat) : Int.fdiv (i : Int) (2 ^ Int.toNat 5) = ((i / 32 : Nat) : Int) := by
  rw [show (2 : Int) ^ Int.toNat 5 = 32 from rfl, Int.fdiv_eq_ediv_of_nonneg _ (by decide)]
  rfl
theorem Leaves.set {P : Nat → Obj → Prop} {a' : Nat} {ys' : List Value} (hp : PL P a' ys') (hl : ys'.length = 32) : ∀ {as : List Nat} {ls : List (List Value)} (k : Nat), Leaves P as ls → Leaves P (as.set k a') (ls.set k ys')
  | [], [], _, _ => trivial
  | a :: as, l :: ls, 0, ⟨q, e, r⟩ => ⟨hp, hl, r⟩
  | a :: as, l :: ls, k + 1, ⟨q, e, r⟩ => ⟨q, e, Leaves.set hp hl k r⟩
  | [], _ :: _, _, h => h.elim
  | _ :: _, [], _, h => h.elim
theorem flatten_set {P : Nat → Obj → Prop} {x : Value} : ∀ {as : List Nat} {ls : List (List Value)} {j : Nat} {ys : List Value}, Leaves P as ls → ls[j / 32]? = some ys → (ls.set (j / 32) (ys.set (j % 32) x)).flatten = ls.flatten.set j x
  | [], [], j, ys, _, h => by simp at h
  | a :: as, l :: ls, j, ys, ⟨q, e, r⟩, h => by
    by_cases hj : j < 32
    · rw [Nat.div_eq_of_lt hj] at h ⊢
      have h' : l = ys := by simpa using h
      subst h'
      rw [Nat.mod_eq_of_lt hj]
      simp only [List.set_cons_zero, List.flatten_cons]
      rw [List.set_append_left _ _ (by omega)]
    · obtain ⟨k, rfl⟩ : ∃ k, j = k + 32 := ⟨j - 32, by omega⟩
      rw [Nat.add_div_right _ (by decide)] at h ⊢
      rw [Nat.add_mod_right]
      simp only [List.set_cons_succ, List.flatten_cons]
      rw [flatten_set r (by simpa using h), List.set_append_right _ _ (by omega), e, Nat.add_sub_cancel]
  | [], _ :: _, _, _, h, _ => h.elim
  | _ :: _, [], _, _, h, _ => h.elim
theorem flatten_get {P : Nat → Obj → Prop} : ∀ {as : List Nat} {ls : List (List Value)} {j : Nat} {ys : List Value}, Leaves P as ls → ls[j / 32]? = some ys → ls.flatten[j]? = ys[j % 32]?
  | [], [], j, ys, _, h => by simp at h
  | a :: as, l :: ls, j, ys, ⟨q, e, r⟩, h => by
    by_cases hj : j < 32
    · rw [Nat.div_eq_of_lt hj] at h
      have h' : l = ys := by simpa using h
      subst h'
      rw [Nat.mod_eq_of_lt hj, List.flatten_cons, List.getElem?_append_left (by omega)]
    · obtain ⟨k, rfl⟩ : ∃ k, j = k + 32 := ⟨j - 32, by omega⟩
      rw [Nat.add_div_right _ (by decide)] at h
      rw [Nat.add_mod_right, List.flatten_cons, List.getElem?_append_right (by omega), e, Nat.add_sub_cancel]
      exact flatten_get r (by simpa using h)
  | [], _ :: _, _, _, h, _ => h.elim
  | _ :: _, [], _, _, h, _ => h.elim
theorem doSet0 {w : World} {mg mb : Str → Option Value} {A : Around} {s : Shared} {Q E : Value → Shared → Prop} {a : Nat} {ys : List Value} {n : Nat} {self x : Value} {tk ti : Tok} {i : Nat}
    (G : Gr w mg mb s.heap) (hd : A.depth < recursionLimit) (ha : s.heap.get? a = some (listObj ys n)) (hz : ys.length = 32)
    (ret : ∀ D c h' tk', Sub s.heap h' → h'.get? D = some (listObj (ys.set (i % 32) x) c) → s.heap.objs.size ≤ D → Q (.ref D) { s with heap := h', toks := tk' }) :
    wpAny (model prog w) A (call (.ref fDoSet) [self, .int 0 tk, .ref a, .int i ti, x]) Q E s := by
  refine enter (P := At s.heap) (own := []) [("self", self), ("level", .int 0 tk), ("node", .ref a), ("i", .int i ti), ("val", x)] G (fun _ _ h => h) (fun _ h => nomatch h) (by rfl) (by rfl) hd (BindsTo.of_eq (by rfl)) (locs (by rfl)) ?_
  intro L h₁ hL F
  repeat (walk_at "N")
  refine copyL F (F.get ha) (by omega) (fun D c h' F lD ne => ?_)
  repeat (walk_at "N")
  refine ite_pos rfl ?_
  repeat (walk_at "N")
  rename_i h2 F2
  rw [and31]
  refine setL F2 ne (by omega) (by rw [Int.toNat_natCast]; omega) (by omega) (fun c' h3 F3 => ?_)
  repeat (walk_at "N")
  rw [Int.toNat_natCast] at F3
  exact ret D c' h3 _ F3.keep (F3.ownAt (.head _)) (by omega)
theorem doSet5 {w : World} {mg mb : Str → Option Value} {A : Around} {s : Shared} {Q E : Value → Shared → Prop} {v d r : Nat} {sl : Array (Option Value)} {as : List Nat} {ls : List (List Value)} {x : Value} {tk ti : Tok} {i : Nat} {P0 : Nat → Obj → Prop}
    (G : Gr w mg mb s.heap) (hd : A.depth + 1 < recursionLimit) (hv : s.heap.get? v = some ⟨.ref C, some d, .plain, sl⟩) (hP0 : ∀ a o, P0 a o → s.heap.get? a = some o) (V0 : VecOf P0 d r as ls) (hi : i < 32 * ls.length) (hz : ls.length ≤ 32)
    (ret : ∀ D h' tk', Sub s.heap h' → (∃ as' ls', VecOf (Nw P0 s.heap h') d D as' ls' ∧ ls'.flatten = ls.flatten.set i x) → s.heap.objs.size ≤ D → Q (.ref D) { s with heap := h', toks := tk' }) :
    wpAny (model prog w) A (call (.ref fDoSet) [.ref v, .int 5 tk, .ref r, .int i ti, x]) Q E s := by
  refine enter (P := At s.heap) (own := []) [("self", .ref v), ("level", .int 5 tk), ("node", .ref r), ("i", .int i ti), ("val", x)] G (fun _ _ h => h) (fun _ h => nomatch h) (by rfl) (by rfl) (by omega) (BindsTo.of_eq (by rfl)) (locs (by rfl)) ?_
  intro L h₁ hL F
  have V := V0.mono hP0
  have hd' := V.dict
  obtain ⟨nr, hr⟩ := V.root
  have ll := V.leaves.len
  repeat (walk_at "N")
  refine copyL F (F.get hr) (by rw [List.length_map]; omega) (fun D c h2 F2 lD ne => ?_)
  repeat (walk_at "N")
  refine ite_neg (by decide) ?_
  repeat (walk_at "N")
  rename_i h3 F3 h4 F4
  rw [shr5, and31, Nat.mod_eq_of_lt (by omega : i / 32 < 32)] at F4 ⊢
  have hlt : i / 32 < as.length := by omega
  have hx : (as.map Value.ref)[i / 32]? = some (.ref as[i / 32]) := by rw [List.getElem?_map, List.getElem?_eq_getElem hlt]; rfl
  obtain ⟨a, na, ea, ys, hy, hy32, pa⟩ := V.leaves.get hx
  refine itemL (F4.get hr) (by rw [List.length_map]; omega) hx ?_
  repeat (walk_at "N")
  rw [ea]
  refine doSet0 F4.G (by show A.depth + 1 < _; omega) (F4.get pa) hy32 (fun D5 c5 h5 tk5 sb5 hD5 lD5 => ?_)
  have F5 := F4.after (own' := [(D, _), (D5, _)]) (fun b o _ e => sb5 b o e) (fun p hp => by
    simp only [List.mem_cons, List.not_mem_nil, or_false] at hp
    rcases hp with rfl | rfl
    · exact ⟨sb5 _ _ (F4.ownAt (.head _)), .inl (by simp)⟩
    · exact ⟨hD5, .inr lD5⟩)
  have lD4 := ltS (F4.ownAt (.head _))
  have lD5' : h4.objs.size ≤ D5 := lD5
  clear F4 F3
  repeat (walk_at "N")
  refine setL F5 (by simp; omega) (by omega) (by rw [Int.toNat_natCast, List.length_map]; omega) (by rw [List.length_map]; omega) (fun c6 h6 F6 => ?_)
  repeat (walk_at "N")
  rw [Int.toNat_natCast] at F6
  refine ret D h6 _ F6.keep ⟨as.set (i / 32) D5, ls.set (i / 32) (ys.set (i % 32) x), ⟨⟨F6.get hd', .inl V0.dict⟩, ⟨c6, ?_, .inr (by omega)⟩, (V0.leaves.mono (P' := Nw P0 s.heap h6) (fun a o q => ⟨F6.get (hP0 _ _ q), .inl q⟩)).set ⟨c5, F6.ownAt (.tail _ (.head _)), .inr (by omega)⟩ (by simpa using hy32) _⟩, flatten_set V.leaves hy⟩ (by omega)
  rw [List.map_set]
  exact F6.ownAt (.head _)
theorem setV {w : World} {mg mb : Str → Option Value} {A : Around} {s : Shared} {Q E : Value → Shared → Prop} {v : Nat} {xs : List Value} {x : Value} {i : Int} {ti : Tok} {P0 : Nat → Obj → Prop}
    (G : Gr w mg mb s.heap) (hA : A.handled = none) (hd : A.depth + 3 < recursionLimit) (hP0 : ∀ a o, P0 a o → s.heap.get? a = some o) (V : Vec P0 v xs) (hz : xs.length < 1056) (h0 : -(xs.length : Int) ≤ i) (h1 : i < xs.length)
    (ret : ∀ v' h' tk', Sub s.heap h' → Vec (Nw P0 s.heap h') v' (xs.set (if i < 0 then i + xs.length else i).toNat x) → Q (.ref v') { s with heap := h', toks := tk' }) :
    wpAny (model prog w) A (call (.ref fSet) [.ref v, .int i ti, x]) Q E s := by
  obtain ⟨d, r, t, tc, ts, tf, as, ls, tl, hv0, hV0, ⟨nt, ht0⟩, htl, hxs⟩ := V
  have hv := hP0 _ _ hv0
  have hV := hV0.mono hP0
  have ht := hP0 _ _ ht0
  refine enter (P := At s.heap) (own := []) [("self", .ref v), ("i", .int i ti), ("val", x)] G (fun _ _ h => h) (fun _ h => nomatch h) (by rfl) (by rfl) (by omega) (BindsTo.of_eq (by rfl)) (locs (by rfl)) ?_
  intro L h₁ hL F
  have hd' := hV.dict
  have ll := hV.leaves.len
  have hlen : xs.length = 32 * ls.length + tl.length := by rw [hxs, List.length_append, ll.2]
  repeat (walk_at "N")
  refine ite_neg (by decide) ?_
  repeat (walk_at "N")
  obtain ⟨j, hj⟩ : ∃ j : Nat, (if i < 0 then i + (xs.length : Int) else i) = j := ⟨(if i < 0 then i + (xs.length : Int) else i).toNat, by split <;> omega⟩
  rw [hj, Int.toNat_natCast] at ret
  have hjl : j < xs.length := by split at hj <;> omega
  rcases Int.lt_or_le i 0 with hi | hi
  refine ite_pos (by simpa using hi) ?_
  repeat (walk_at "N")
  rename_i h2 F2
  rw [if_pos hi] at hj
  rw [hj] at F2
  rw [hj]
  clear F
  rotate_left
  refine ite_neg (by simpa using hi) ?_
  repeat (walk_at "N")
  rw [if_neg (by omega)] at hj
  subst hj
  have F2 := F
  clear F
  all_goals
    refine ite_pos (by simp) ?_
    repeat (walk_at "N")
    refine ite_pos (by simpa using hjl) ?_
    repeat (walk_at "N")
    by_cases hf : xs.length - tl.length ≤ j
    · refine ite_pos (by simp; omega) ?_
      repeat (walk_at "N")
      refine copyL F2 (F2.get ht) (by omega) (fun D c h3 F3 lD ne => ?_)
      repeat (walk_at "N")
      rename_i h4 F4
      clear F3 F2
      rw [and31]
      refine setL F4 ne (by omega) (by rw [Int.toNat_natCast]; omega) (by omega) (fun c' h5 F5 => ?_)
      rw [Int.toNat_natCast] at F5
      clear F4
      repeat (walk_at "N")
      refine mkVec F5.G (by show A.depth + 1 + 1 < _; omega) (F5.ownAt (.head _)) (by rw [List.length_set]; omega) (fun v' d' tf' h6 tk6 sb6 hv' hd6 lv ld ne => ?_)
      have sb' : Sub s.heap h6 := fun b o e => sb6 _ _ (F5.keep b o e)
      have V6 := hV0.mono (P' := Nw P0 s.heap h6) (fun a o q => ⟨sb' _ _ (hP0 _ _ q), .inl q⟩)
      have lv' : h5.objs.size ≤ v' := lv
      have ld' : h5.objs.size ≤ d' := ld
      have l5 := F5.ltL
      have lD5 := ltS (F5.ownAt (.head _))
      rw [List.length_set, show (xs.length : Int) - (tl.length : Nat) = ((xs.length - tl.length : Nat) : Int) by omega] at hv'
      refine ret v' h6 _ sb' ⟨d', r, D, _, _, _, as, ls, tl.set (j % 32) x, ⟨by rw [List.length_set, List.length_set]; exact hv', .inr (by omega)⟩, ⟨⟨hd6, .inr (by omega)⟩, V6.root, V6.leaves⟩, ⟨c', sb6 _ _ (F5.ownAt (.head _)), .inr (by omega)⟩, by rw [List.length_set]; exact htl, ?_⟩
      · rw [hxs, List.set_append_right _ _ (by omega), show j - ls.flatten.length = j % 32 by omega]
    · refine ite_neg (by simp; omega) ?_
      repeat (walk_at "N")
      refine doSet5 F2.G (by show A.depth + 1 + 1 < _; omega) (F2.get hv) (P0 := P0) (fun a o q => F2.get (hP0 _ _ q)) hV0 (by omega) (by omega) (fun D h3 tk3 sb3 V3 lD => ?_)
      have F3 := F2.after (own' := []) (fun b o _ e => sb3 b o e) (fun p hp => nomatch hp)
      have lF := Nat.le_of_lt (hL ▸ F2.ltL)
      clear F2
      repeat (walk_at "N")
      refine mkVec F3.G (by show A.depth + 1 + 1 < _; omega) (F3.get ht) (by omega) (fun v' d' tf' h6 tk6 sb6 hv' hd6 lv ld ne => ?_)
      have sb' : Sub s.heap h6 := fun b o e => sb6 _ _ (F3.keep b o e)
      obtain ⟨as', ls', V4, e4⟩ := V3
      have V6 := V4.mono (P' := Nw P0 s.heap h6) (fun a o q => ⟨sb6 _ _ q.1, q.2.imp id fun q => Nat.le_trans lF q⟩)
      have lv' : h3.objs.size ≤ v' := lv
      have ld' : h3.objs.size ≤ d' := ld
      have l5 := F3.ltL
      rw [show (xs.length : Int) - (tl.length : Nat) = ((xs.length - tl.length : Nat) : Int) by omega] at hv'
      refine ret v' h6 _ sb' ⟨d', D, t, _, _, _, as', ls', tl, ⟨by rw [List.length_set]; exact hv', .inr (by omega)⟩, ⟨⟨hd6, .inr (by omega)⟩, V6.root, V6.leaves⟩, ⟨nt, sb' _ _ ht, .inl ht0⟩, htl, ?_⟩
      · rw [hxs, List.set_append_left _ _ (by omega), e4]
/-- the library's frame, out of ours: the heap cut off below the frame -/
theorem Fm.fr {w : World} {mg mb : Str → Option Value} {P : Nat → Obj → Prop} {L : Nat} {h : Heap} {m : Str → Option Value} {own : List (Nat × Obj)} (F : Fm w mg mb P L h m own) : ∃ h₀, Fr h₀ L h m ∧ (K w.params).In h₀ := by
  have hsz : (h.objs.extract 0 L).size ≤ L := by simp; omega
  have hg : ∀ b, b < L → (Heap.mk (h.objs.extract 0 L) h.life).get? b = h.get? b := fun b hb => by
    have e : (h.objs.extract 0 L)[b]? = h.objs[b]? := by simp [Array.getElem?_extract]; omega
    unfold Heap.get?
    show (match (h.objs.extract 0 L)[b]? with | _ => _) = _
    rw [e]
  refine ⟨⟨h.objs.extract 0 L, h.life⟩, ⟨F.ns, fun b o e => ?_, hsz⟩, fun a o e => ?_⟩
  · have hb : b < L := Nat.lt_of_lt_of_le (Heap.lt_size e) hsz
    exact (hg b hb).symm.trans e
  · have ha : a < NB := Nat.le_of_ble_eq_true (List.all_eq_true.mp (kLow w.params) _ (lookup_mem e))
    exact (hg a (Nat.lt_of_lt_of_le ha F.lo)).trans (F.G.X a o e)
/-- a loop over a range -/
theorem iterR {w : World} {mg mb : Str → Option Value} {P : Nat → Obj → Prop} {L r : Nat} {m : Str → Option Value} {own : List (Nat × Obj)} {A : Around} {E : Value → Shared → Prop} {R : Result → Shared → Prop} {s : Shared} {env : Env} {a b c : Int} {t u v : Tok} {k : Nat} {x : Str} {px : Pos} {body : List Stmt}
    (F : Fm w mg mb P L s.heap m own) (hh : A.handled = none) (hr : IsRange s.heap r a b c t u v) (hs : Builtin.Range.small a b c = true) (hk : Builtin.Range.rangeSize a b c = k) (J : Nat → (Nat → Obj → Prop) → (Str → Option Value) → List (Nat × Obj) → Prop) (h0 : J 0 P m own)
    (step : ∀ E' i tv P' m' own' it io h tk, i < k → (∀ a o, P a o → P' a o) → J i P' m' own' → (∀ p ∈ own', p.1 ≠ it) → Fm w mg mb P' L h (fun y => if y = x then some (.int (a + i * c) tv) else m' y) ((it, io) :: own') →
      wpAny (model prog w) A (execs body env) (fun f s' => match f with
        | .next | .cont => ∃ h' tk' P'' m'' own'', s' = { s with heap := h', toks := tk' } ∧ Fm w mg mb P'' L h' m'' ((it, io) :: own'') ∧ (∀ p ∈ own'', p.1 ≠ it) ∧ (∀ a o, P' a o → P'' a o) ∧ J (i + 1) P'' m'' own''
        | .brk => False
        | .ret v => R (.ok (.ret v)) s') E' { s with heap := h, toks := tk })
    (done : ∀ h' tk' P' m' own', Fm w mg mb P' L h' m' own' → (∀ a o, P a o → P' a o) → J k P' m' own' → R (.ok .next) { s with heap := h', toks := tk' })
    (hL : env.locals = L := by rfl) (hkd : env.scope.kind = .function := by rfl) (hx : env.kindOf x = some .local := by rfl) :
    wpAny (model prog w) A (pyIter (.ref r)) (fun it s₂ => codeAny (model prog w) A (.forLoop (.Name x px) it body [] env) R s₂) E s := by
  refine wpAny_pyIter_range hr hs ?_
  rw [hk]
  have F0 := F.alloc { cls := .type "range_iterator", data := .fields #[rawInt a, rawInt (k : Nat), rawInt c] }
  have ne0 := F.fresh.2
  generalize hit : s.heap.objs.size = it at F0 ne0
  have I0 := F0.ownAt (.head _)
  refine codeAny_forLoop (fun n s' => ∃ h tk P' m' own' io i, s' = { s with heap := h, toks := tk } ∧ Fm w mg mb P' L h m' ((it, io) :: own') ∧ (∀ p ∈ own', p.1 ≠ it) ∧ (∀ a o, P a o → P' a o) ∧ IsRangeIter h it (a + (i : Nat) * c) ((k : Int) - (i : Nat)) c ∧ J i P' m' own' ∧ i ≤ k ∧ n = k + 1 - i) ?_ (k + 1)
    ⟨_, s.toks, P, m, own, _, 0, rfl, F0, ne0, fun _ _ q => q, by simpa using I0, h0, Nat.zero_le _, rfl⟩
  rintro n s' ⟨h, tk, P', m', own', io, i, rfl, F1, ne1, hP, hI, hJ, hi, rfl⟩
  by_cases hlt : i < k
  · refine wpAny_pyNext_range_item hI (by omega) fun h₁ hI₁ hs₁ => ?_
    have F2 := F1.turn hs₁ hI₁ ne1
    refine wpAny_assign_Name (stL F2 (fun h₂ F3 => ?_) hL hkd hx)
    refine wpAny_mono (step _ i _ P' m' own' it _ h₂ _ hlt hP hJ ne1 F3) (fun f s₃ h₃ => ?_) fun _ _ e => e
    have fin : (∃ h' tk' P'' m'' own'', s₃ = { s with heap := h', toks := tk' } ∧ Fm w mg mb P'' L h' m'' ((it, { cls := .type "range_iterator", dict := none, data := .fields #[rawInt (a + i * c + c), rawInt (k - i - 1), rawInt c], slots := #[] }) :: own'') ∧ (∀ p ∈ own'', p.1 ≠ it) ∧ (∀ a o, P' a o → P'' a o) ∧ J (i + 1) P'' m'' own'') → ∃ n, n < k + 1 - i ∧ (∃ h tk P' m' own' io i, s₃ = { s with heap := h, toks := tk } ∧ Fm w mg mb P' L h m' ((it, io) :: own') ∧ (∀ p ∈ own', p.1 ≠ it) ∧ (∀ a o, P a o → P' a o) ∧ IsRangeIter h it (a + (i : Nat) * c) ((k : Int) - (i : Nat)) c ∧ J i P' m' own' ∧ i ≤ k ∧ n = k + 1 - i) := by
      rintro ⟨h', tk', P'', m'', own'', rfl, F4, ne4, hP4, J4⟩
      refine ⟨_, by omega, h', tk', P'', m'', own'', _, i + 1, rfl, F4, ne4, fun a o q => hP4 _ _ (hP _ _ q), ?_, J4, hlt, rfl⟩
      rw [show a + ((i + 1 : Nat) : Int) * c = a + i * c + c by rw [Int.natCast_add, Int.add_mul]; simp; omega, show (k : Int) - ((i + 1 : Nat) : Int) = k - i - 1 by omega]
      exact F4.ownAt (.head _)
    cases f with
    | next => exact fin h₃
    | cont => exact fin h₃
    | brk => exact h₃.elim
    | ret v => exact h₃
  · have hsz : i = k := by omega
    refine wpAny_pyNext_range_end hh hI (by omega) fun h₁ he₁ => wpAny_execs_nil ?_
    refine done h₁ tk P' m' own' (F1.after (fun b o hb e => he₁ b o (fun q => hb (q ▸ List.mem_cons_self)) e) (fun p hp => ⟨he₁ _ _ (ne1 p hp) (F1.own p (.tail _ hp)).1, .inl (List.mem_cons_of_mem _ (List.mem_map_of_mem hp))⟩)) hP (hsz ▸ hJ)
theorem kn_reads (P : Params) : readsIn (K P) C (.type "type") = true := by kernel_rfl!
theorem kn_spec (P : Params) : specialIn (K P) (.ref C) "__getattribute__" = some (some (.builtin "type.__getattribute__")) := by kernel_rfl!
theorem kn_find (P : Params) : findCls (K P) (.ref C) (.type "type") "_node_for" = some (.get (.builtin "staticmethod.__get__") (.ref 213) .none (.ref C)) := by kernel_rfl!
theorem kn_rec (P : Params) : recIn (K P) 213 "staticmethod" = some [.ref fNodeFor, .bool false] := by kernel_rfl!
theorem kn_len (P : Params) : findIn (K P) (.ref C) "__len__" = some (some (.ref fLen)) := by kernel_rfl!
theorem kn_lenFn (P : Params) : isFn (K P) (.ref fLen) = true := by kernel_rfl!
theorem kn_get (P : Params) : findIn (K P) (.ref C) "__getitem__" = some (some (.ref fGetitem)) := by kernel_rfl!
theorem kn_getFn (P : Params) : isFn (K P) (.ref fGetitem) = true := by kernel_rfl!
theorem kn_getFn' (P : Params) : fnIn (K P) fGetitem = true := by kernel_rfl!
theorem kn_noSeq (P : Params) : noSeq (K P) C = true := by kernel_rfl!
theorem gmNodeFor {w : World} {mg mb : Str → Option Value} {A : Around} {E : Value → Shared → Prop} {s : Shared} {pl : Sem Bool} {Q : Value × List Value → Shared → Prop} (G : Gr w mg mb s.heap) (h : Q (.ref fNodeFor, []) { s with toks := s.toks + 1 }) :
    wpAny (model prog w) A (getMethod (.ref C) "_node_for" pl) Q E s :=
  method_cls G.X (kn_spec _) (cls_bind (mc := .type "type") G.X (kn_reads _) (kn_find _) (wpAny_call (sm_get (p := 213) (f := .ref fNodeFor) G.X (kn_rec _) (handed_on (by rfl) h))))
abbrev rangeObj (a : Int) (t : Tok) (b : Int) (u : Tok) (c : Int) (v : Tok) : Obj := { cls := .type "range", data := .fields #[.int a t, .int b u, .int c v] }
theorem range3L {w : World} {mg mb : Str → Option Value} {P : Nat → Obj → Prop} {L : Nat} {m : Str → Option Value} {own : List (Nat × Obj)} {A : Around} {E Q : Value → Shared → Prop} {s : Shared} {a b c : Int} {t u v : Tok} (F : Fm w mg mb P L s.heap m own) (hc : c ≠ 0) (hp : Builtin.divisionGoesByPylong (b - a) c = false)
    (h : ∀ r h', Fm w mg mb P L h' m ((r, rangeObj a t b u c v) :: own) → L < r → (∀ p ∈ own, p.1 ≠ r) → Q (.ref r) { s with heap := h' }) : wpAny (model prog w) A (call (.type "range") [.int a t, .int b u, .int c v]) Q E s :=
  call_range_3 hc (h _ _ (F.alloc _) F.fresh.1 F.fresh.2) (.inl hp)
theorem range1L {w : World} {mg mb : Str → Option Value} {P : Nat → Obj → Prop} {L : Nat} {m : Str → Option Value} {own : List (Nat × Obj)} {A : Around} {E Q : Value → Shared → Prop} {s : Shared} {n : Int} {t : Tok} (F : Fm w mg mb P L s.heap m own)
    (h : ∀ r h' t' u' tk', Fm w mg mb P L h' m ((r, rangeObj 0 t' n t 1 u') :: own) → L < r → (∀ p ∈ own, p.1 ≠ r) → Q (.ref r) { s with heap := h', toks := tk' }) : wpAny (model prog w) A (call (.type "range") [.int n t]) Q E s :=
  call_range_1 (h _ _ _ _ _ (F.alloc _) F.fresh.1 F.fresh.2)
theorem meta_slice : typeOf (.type "slice") = pure (.type "type") := by kernel_rfl
theorem sub_int_slice : isSubtype (.type "int") (.type "slice") = pure false := by rw [isSubtype_type]; kernel_rfl
theorem sub_slice_slice : isSubtype (.type "slice") (.type "slice") = pure true := by rw [isSubtype_type]; kernel_rfl
theorem isi_int_slice {w : World} {A : Around} {E Q : Value → Shared → Prop} {s : Shared} {n : Int} {u : Tok} (h : Q (.bool false) { s with toks := s.toks + 1 }) : wpAny (model prog w) A (call (.builtin "isinstance") [.int n u, .type "slice"]) Q E s :=
  call_isinstance (isinstance_false_int (by decide +kernel) meta_slice sub_int_slice) h
theorem lenBody {w : World} {mg mb : Str → Option Value} {A : Around} {s : Shared} {Q E : Value → Shared → Prop} {v : Nat} {xs : List Value}
    (G : Gr w mg mb s.heap) (hd : A.depth < recursionLimit) (V : Vec (At s.heap) v xs)
    (ret : ∀ tc h' tk', Sub s.heap h' → Q (.int xs.length tc) { s with heap := h', toks := tk' }) :
    wpAny (model prog w) A (call (.ref fLen) [.ref v]) Q E s := by
  obtain ⟨d, r, t, tc, ts, tf, as, ls, tl, hv, hV, ⟨nt, ht⟩, htl, hxs⟩ := V
  refine enter (P := At s.heap) (own := []) [("self", .ref v)] G (fun _ _ h => h) (fun _ h => nomatch h) (by rfl) (by rfl) hd (BindsTo.of_eq (by rfl)) (locs (by rfl)) ?_
  intro L h₁ hL F
  have hV1 := hV.dict
  repeat (walk_at "N")
  exact ret tc h₁ _ F.keep
theorem Vec.inst {h : Heap} {v : Nat} {xs : List Value} (V : Vec (At h) v xs) : ∃ o, InstAt h v o C (some (dictOf [] 0)) := by
  obtain ⟨d, r, t, tc, ts, tf, as, ls, tl, hv, hV, _⟩ := V
  exact ⟨_, ⟨hv, rfl, rfl, hV.dict⟩⟩
theorem lenV {w : World} {mg mb : Str → Option Value} {P : Nat → Obj → Prop} {L : Nat} {m : Str → Option Value} {own : List (Nat × Obj)} {A : Around} {s : Shared} {Q E : Value → Shared → Prop} {v : Nat} {xs : List Value}
    (F : Fm w mg mb P L s.heap m own) (hd : A.depth < recursionLimit) (V : Vec (At s.heap) v xs) (hz : xs.length < 2 ^ 20)
    (ret : ∀ tc h' tk', Sub s.heap h' → Q (.int xs.length tc) { s with heap := h', toks := tk' }) :
    wpAny (model prog w) A (call (.builtin "len") [.ref v]) Q E s := by
  obtain ⟨h₀, f, X⟩ := F.fr
  obtain ⟨o, I⟩ := V.inst
  exact len_K f X I (kn_len _) (kn_lenFn _) (lenBody F.G hd V (fun tc h' tk' sb => ⟨⟨by omega, by omega⟩, ret _ h' _ sb⟩))
theorem nodeFor {w : World} {mg mb : Str → Option Value} {A : Around} {s : Shared} {Q E : Value → Shared → Prop} {v : Nat} {xs : List Value} {j : Nat} {tj : Tok} {x : Value}
    (G : Gr w mg mb s.heap) (hA : A.handled = none) (hd : A.depth < recursionLimit) (V : Vec (At s.heap) v xs) (hz : xs.length < 1056) (hj : xs[j]? = some x)
    (ret : ∀ D ys n h' tk', Sub s.heap h' → h'.get? D = some (listObj ys n) → ys[j % 32]? = some x → ys.length ≤ 32 → Q (.ref D) { s with heap := h', toks := tk' }) :
    wpAny (model prog w) A (call (.ref fNodeFor) [.ref v, .int j tj]) Q E s := by
  obtain ⟨d, r, t, tc, ts, tf, as, ls, tl, hv, hV, ⟨nt, ht⟩, htl, hxs⟩ := V
  refine enter (P := At s.heap) (own := []) [("pvector_like", .ref v), ("i", .int j tj)] G (fun _ _ h => h) (fun _ h => nomatch h) (by rfl) (by rfl) hd (BindsTo.of_eq (by rfl)) (locs (by rfl)) ?_
  intro L h₁ hL F
  have hV1 := hV.dict
  have ll := hV.leaves.len
  have hlen : xs.length = 32 * ls.length + tl.length := by rw [hxs, List.length_append, ll.2]
  have hjl : j < xs.length := (List.getElem?_eq_some_iff.mp hj).1
  repeat (walk_at "N")
  refine ite_pos (by simp) ?_
  repeat (walk_at "N")
  refine ite_pos (by simpa using hjl) ?_
  repeat (walk_at "N")
  by_cases hf : xs.length - tl.length ≤ j
  · refine ite_pos (by simp; omega) ?_
    repeat (walk_at "N")
    refine ret t tl nt h₁ _ F.keep (F.get ht) ?_ htl
    rw [hxs, List.getElem?_append_right (by omega), show j - ls.flatten.length = j % 32 by omega] at hj
    exact hj
  · refine ite_neg (by simp; omega) ?_
    repeat (walk_at "N")
    rename_i h2 F2
    refine range3L F2 (by decide) (PyProof.noPylong_of_log2 (by decide +kernel)) (fun rg h3 F3 _ _ => ?_)
    have hr3 := F3.ownAt (.head _)
    obtain ⟨nr, hr⟩ := hV.root
    refine iterR (k := 1) F3 hA hr3 (by decide) (by decide) (fun i P' m' own' => m' "i" = some (.int j tj) ∧ (i = 0 → m' "node" = some (.ref r)) ∧ (i = 1 → ∃ D ys n, m' "node" = some (.ref D) ∧ P' D (listObj ys n) ∧ ys[j % 32]? = some x ∧ ys.length ≤ 32)) ⟨by walk_at "nm", fun _ => by walk_at "nm", fun h => by omega⟩ ?_ ?_
    · rintro E' i tv P' m' own' it io h tk' hi hP ⟨m1, m2, _⟩ ne F4
      obtain rfl : i = 0 := by omega
      have m3 := m2 rfl
      rw [show (5 : Int) + ((0 : Nat) : Int) * -5 = 5 from rfl] at F4
      have hr' := hP _ _ hr
      repeat (walk_at "N")
      rw [shr5, and31, Nat.mod_eq_of_lt (by omega : j / 32 < 32)]
      have hlt : j / 32 < as.length := by omega
      have hx : (as.map Value.ref)[j / 32]? = some (.ref as[j / 32]) := by rw [List.getElem?_map, List.getElem?_eq_getElem hlt]; rfl
      obtain ⟨a, na, ea, ys, hy, hy32, pa⟩ := hV.leaves.get hx
      refine itemL (F4.get hr') (by rw [List.length_map]; omega) hx ?_
      repeat (walk_at "N")
      rename_i h5 F5
      refine ⟨h5, _, P', _, own', rfl, F5, ne, fun _ _ q => q, by walk_at "nm", fun h => by omega, fun _ => ⟨a, ys, na, by rw [← ea]; walk_at "nm", hP _ _ pa, ?_, by omega⟩⟩
      rw [← flatten_get hV.leaves hy]
      rw [hxs, List.getElem?_append_left (by omega)] at hj
      exact hj
    · rintro h' tk' P' m' own' F4 hP ⟨m1, _, m2⟩
      obtain ⟨D, ys, n, m3, pD, hy, hy32⟩ := m2 rfl
      repeat (walk_at "N")
      exact ret D ys n h' _ (fun b o e => F4.keep _ _ (hP _ _ e)) (F4.get pD) hy hy32
theorem getV {w : World} {mg mb : Str → Option Value} {A : Around} {s : Shared} {Q E : Value → Shared → Prop} {v : Nat} {xs : List Value} {i : Int} {ti : Tok} {x : Value}
    (G : Gr w mg mb s.heap) (hA : A.handled = none) (hd : A.depth + 1 < recursionLimit) (V : Vec (At s.heap) v xs) (hz : xs.length < 1056) (h0 : -(xs.length : Int) ≤ i) (h1 : i < xs.length) (hx : xs[(if i < 0 then i + xs.length else i).toNat]? = some x)
    (ret : ∀ h' tk', Sub s.heap h' → Q x { s with heap := h', toks := tk' }) :
    wpAny (model prog w) A (call (.ref fGetitem) [.ref v, .int i ti]) Q E s := by
  have V' := V
  obtain ⟨d, r, t, tc, ts, tf, as, ls, tl, hv, hV, ⟨nt, ht⟩, htl, hxs⟩ := V'
  refine enter (P := At s.heap) (own := []) [("self", .ref v), ("index", .int i ti)] G (fun _ _ h => h) (fun _ h => nomatch h) (by rfl) (by rfl) (by omega) (BindsTo.of_eq (by rfl)) (locs (by rfl)) ?_
  intro L h₁ hL F
  have hV1 := hV.dict
  repeat (walk_at "N")
  refine isi_int_slice ?_
  repeat (walk_at "N")
  refine ite_neg (by decide) ?_
  repeat (walk_at "N")
  obtain ⟨j, hj⟩ : ∃ j : Nat, (if i < 0 then i + (xs.length : Int) else i) = j := ⟨(if i < 0 then i + (xs.length : Int) else i).toNat, by split <;> omega⟩
  rw [hj, Int.toNat_natCast] at hx
  have hjl : j < xs.length := by split at hj <;> omega
  rcases Int.lt_or_le i 0 with hi | hi
  refine ite_pos (by simpa using hi) ?_
  repeat (walk_at "N")
  rename_i h2 F2
  rw [if_pos hi] at hj
  rw [hj] at F2
  clear F
  rotate_left
  refine ite_neg (by simpa using hi) ?_
  repeat (walk_at "N")
  rw [if_neg (by omega)] at hj
  subst hj
  have F2 := F
  clear F
  all_goals
    repeat (walk_at "N")
    refine gmNodeFor F2.G ?_
    repeat (walk_at "N")
    try rw [hj]
    refine nodeFor F2.G hA (by show A.depth + 1 < _; omega) (V.mono F2.keep) hz hx (fun D ys n h3 tk3 sb3 hD hy hy32 => ?_)
    have F3 := F2.after (own' := []) (fun b o _ e => sb3 b o e) (fun p hp => nomatch hp)
    repeat (walk_at "N")
    try rw [hj]
    rw [and31]
    refine itemL hD (by omega) hy ?_
    repeat (walk_at "N")
    exact ret h3 _ F3.keep
/-! a slice's own fields -/
theorem sl_ga : Slot "slice" "__getattribute__" "slice.__getattribute__" :=
  .of (owner := "slice") (n := "__getattribute__") (by rw [typeLookup_type, builtinLookup_eq_fast]; kernel_rfl) (by decide +kernel) (by decide +kernel) (by decide +kernel)
    (by first | exact .inl (by decide +kernel) | exact .inr (by decide +kernel)) (by rw [isSubtype_type]; kernel_rfl)
theorem sl_gaArgs (a b : Value) : argsOk "slice.__getattribute__" ⟨[a, b], []⟩ := by unfold argsOk; kernel_rfl
theorem sl_gaEntry : entryFor table "slice.__getattribute__" = some Builtin.«object.__getattribute__» :=
  entryFor_alias (id' := "object.__getattribute__") (by kernel_rfl) (by first | rfl | decide +kernel) (by decide +kernel) (by kernel_rfl)
theorem sl_look : typeLookup (.type "slice") "start" = pure (some (.builtin "slice.start")) := by rw [typeLookup_type, builtinLookup_eq_fast]; kernel_rfl
theorem sl_type : typeOf (.builtin "slice.start") = pure (.type "member_descriptor") := by kernel_rfl
theorem sl_entry : entryFor table "slice.start" = some Builtin.«slice.start» := entryFor_of_tree (by kernel_rfl)
theorem sl_owner : (".".intercalate ("slice.start".cutAt '.').dropLast) = "slice" := by
  have e0 : "slice.start".cutAt '.' = ["slice", "start"] := by first | rfl | decide +kernel
  rw [e0]; decide +kernel
theorem sl_sub : isSubtype (.type "slice") (.type (".".intercalate ("slice.start".cutAt '.').dropLast)) = pure true := by rw [sl_owner, isSubtype_type]; kernel_rfl
section
variable {prog : Program} {w : World} {A : Around} {E : Value → Shared → Prop} {h : Heap} {g : Array GenState} {d : Drawn} {t : Nat} {os : OsState} {a : Nat} {v1 v2 v3 : Value}
theorem start_get {R : Result → Shared → Prop} (hx : h.get? a = some { cls := .type "slice", data := .fields #[v1, v2, v3] }) (hq : R (.ok (.ret v1)) ⟨h, g, d, t, os⟩) :
    codeAny (model prog w) A (.call (.builtin "member_descriptor.__get__") ⟨[.builtin "slice.start", .ref a, .type "slice"], []⟩) R ⟨h, g, d, t, os⟩ := by
  have hT : (⟨h, g, d, t, os⟩ : Shared).TypeIs (.ref a) "slice" := ⟨_, hx, rfl⟩
  have hT5 : (⟨h, g, d, t, os⟩ : Shared).TypeIs (.builtin "slice.start") "member_descriptor" := sl_type
  have f8 := sl_sub
  refine codeAny_call_builtin KF.slot_mem.plain KF.entry_mem (KF.slot_mem.check _ _ _ _ _ _ _ _ hT5 (KF.args_mem _ _ _) ?_)
  repeat (any_goals (first | assumption | wp_step))
  refine ⟨Code.quiet_builtin _ (by decide +kernel), codeAny_builtin sl_entry ?_⟩
  exact wpAny_bind (wpAny_field hx rfl rfl (wpAny_pure hq))
theorem start_entry {tk : Tok} {Q : Fin → Shared → Prop} (hx : h.get? a = some { cls := .type "slice", data := .fields #[v1, v2, v3] }) (hq : Q (.done (.ret v1)) ⟨h, g, d, t, os⟩) :
    wpAny (model prog w) A (Builtin.«object.__getattribute__» ⟨[.ref a, .str "start" tk], []⟩) Q E ⟨h, g, d, t, os⟩ := by
  have hT : (⟨h, g, d, t, os⟩ : Shared).TypeIs (.ref a) "slice" := ⟨_, hx, rfl⟩
  have hT5 : (⟨h, g, d, t, os⟩ : Shared).TypeIs (.builtin "slice.start") "member_descriptor" := sl_type
  have f4 := sl_look
  have f5 := sl_type
  have f6 := KF.slot_mem.lookup
  have f7 := KF.slot_mset.lookup
  repeat (any_goals (first | assumption | wp_step))
  refine start_get hx ?_
  repeat (any_goals (first | assumption | wp_step))
theorem start_call {tk : Tok} {R : Result → Shared → Prop} (hx : h.get? a = some { cls := .type "slice", data := .fields #[v1, v2, v3] }) (hq : R (.ok (.ret v1)) ⟨h, g, d, t, os⟩) :
    codeAny (model prog w) A (.call (.builtin "slice.__getattribute__") ⟨[.ref a, .str "start" tk], []⟩) R ⟨h, g, d, t, os⟩ :=
  codeAny_call_builtin sl_ga.plain sl_gaEntry (sl_ga.check _ _ _ _ _ _ _ _ (show (⟨h, g, d, t, os⟩ : Shared).TypeIs (.ref a) "slice" from ⟨_, hx, rfl⟩) (sl_gaArgs _ _) (start_entry hx hq))
theorem start_by {n : Int} {u tk : Tok} {fill ex : Bool} {Q : Value → Shared → Prop} (hx : h.get? a = some { cls := .type "slice", data := .fields #[.int n u, v2, v3] }) (hq : Q (.int n u) ⟨h, g, d, t, os⟩) : wpAny (model prog w) A (getAttrBy (.ref a) (.str "start" tk) fill ex) Q E ⟨h, g, d, t, os⟩ := by
  have hT : (⟨h, g, d, t, os⟩ : Shared).TypeIs (.ref a) "slice" := ⟨_, hx, rfl⟩
  have f2 := sl_ga.lookup
  have f3 := sl_ga.bind (.ref a)
  repeat (any_goals (first | assumption | wp_step))
  rw [if_neg (by cases ex <;> decide)]
  repeat (any_goals (first | assumption | wp_step))
  refine start_call hx ?_
  repeat (any_goals (first | assumption | wp_step))
theorem ga_start {n : Int} {u : Tok} {ex : Bool} {Q : Value → Shared → Prop} {s : Shared} (hx : s.heap.get? a = some { cls := .type "slice", data := .fields #[.int n u, v2, v3] }) (hq : Q (.int n u) { s with toks := s.toks + 1 }) : wpAny (model prog w) A (getAttr (.ref a) "start" ex) Q E s :=
  wpAny_bind (wpAny_mkText (start_by hx hq))
end
abbrev sliceObj (a : Int) (t : Tok) (b : Int) (u : Tok) : Obj := { cls := .type "slice", data := .fields #[.int a t, .int b u, .none] }
theorem getSliceV {w : World} {mg mb : Str → Option Value} {A : Around} {s : Shared} {Q E : Value → Shared → Prop} {v sl : Nat} {xs : List Value} {a b : Nat} {ta tb : Tok} {P0 : Nat → Obj → Prop}
    (G : Gr w mg mb s.heap) (hA : A.handled = none) (hd : A.depth + 6 < recursionLimit) (hP0 : ∀ a o, P0 a o → s.heap.get? a = some o) (VE0 : Vec P0 aEmpty []) (V : Vec (At s.heap) v xs) (hz : xs.length < 1056) (hs : s.heap.get? sl = some (sliceObj a ta b tb))
    (ret : ∀ v' h' tk', Sub s.heap h' → Vec (Nw P0 s.heap h') v' ((xs.drop a).take (b - a)) → Q (.ref v') { s with heap := h', toks := tk' }) :
    wpAny (model prog w) A (call (.ref fGetitem) [.ref v, .ref sl]) Q E s := by
  have V' := V
  obtain ⟨d, r, t, tc, ts, tf, as, ls, tl, hv, hV, ⟨nt, ht⟩, htl, hxs⟩ := V'
  refine enter (P := At s.heap) (own := []) [("self", .ref v), ("index", .ref sl)] G (fun _ _ h => h) (fun _ h => nomatch h) (by rfl) (by rfl) (by omega) (BindsTo.of_eq (by rfl)) (locs (by rfl)) ?_
  intro L h₁ hL F
  have hV1 := hV.dict
  repeat (walk_at "N")
  refine call_isinstance_yes (Tx := "slice") ⟨_, F.get hs, rfl⟩ meta_slice sub_slice_slice ?_
  repeat (walk_at "N")
  refine ite_pos (by decide) ?_
  repeat (walk_at "N")
  refine ga_start (F.get hs) ?_
  repeat (walk_at "N")
  refine ite_neg (by decide) ?_
  refine ite_neg (by decide) ?_
  have VE := emptyV G
  have VE' := VE
  obtain ⟨de, re, te, tce, tse, tfe, ase, lse, tle, hve, hVe, _⟩ := VE'
  have hVe1 := hVe.dict
  repeat (walk_at "N")
  refine tolistV F.G hA (by show A.depth + 1 + 2 < _; omega) (V.mono F.keep) (by omega) (fun D c h2 tk2 sb2 hD lD => ?_)
  have F2 := F.after (own' := [(D, _)]) (fun b o _ e => sb2 b o e) (fun p hp => by rw [List.mem_singleton.mp hp]; exact ⟨hD, .inr lD⟩)
  repeat (walk_at "N")
  refine tail_any (ops := [.ref D, .ref sl]) (isList_at hD).typeIs slot_list_getitem.lookup (wpAny_getItem_list_slice (isList_at hD) ⟨_, F2.get hs, rfl, rfl⟩ (.int _ _) (.int _ _) .none (by simp) ?_ (by rw [sizeLine_eq, List.size_toArray]; omega)) (by rfl)
  rw [pick_nat]
  have F3 := F2.alloc (listObj ((xs.drop a).take (b - a)) 0)
  have l3 := F2.ltL
  generalize hD3 : h2.objs.size = D3 at F3 l3
  repeat (walk_at "N")
  have lF3 := Nat.le_of_lt (hL ▸ F3.ltL)
  refine extendV (P0 := P0) F3.G hA (by show A.depth + 1 + 5 < _; omega) (fun a o q => F3.get (hP0 _ _ q)) VE0 (F3.ownAt (.head _)) (by simp; omega) (fun v' h4 tk4 sb4 V4 => ?_)
  repeat (walk_at "N")
  exact ret v' h4 _ (fun b o e => sb4 _ _ (F3.keep _ _ e)) (V4.mono (fun a o q => ⟨q.1, q.2.imp id fun q => Nat.le_trans lF3 q⟩))
theorem idxOr {w : World} {mg mb : Str → Option Value} {A : Around} {s : Shared} {Q E : Value → Shared → Prop} {x : Value}
    (G : Gr w mg mb s.heap) (hd : A.depth < recursionLimit) (ret : ∀ h' tk', Sub s.heap h' → Q x { s with heap := h', toks := tk' }) :
    wpAny (model prog w) A (call (.ref fIndexOr) [x, .none]) Q E s := by
  refine enter (P := At s.heap) (own := []) [("index", x), ("stop", .none)] G (fun _ _ h => h) (fun _ h => nomatch h) (by rfl) (by rfl) hd (BindsTo.of_eq (by rfl)) (locs (by rfl)) ?_
  intro L h₁ hL F
  repeat (walk_at "N")
  refine ite_pos rfl ?_
  repeat (walk_at "N")
  exact ret h₁ _ F.keep
theorem pvectorV {w : World} {mg mb : Str → Option Value} {A : Around} {s : Shared} {Q E : Value → Shared → Prop} {l : Nat} {xs : List Value} {n : Nat} {P0 : Nat → Obj → Prop}
    (G : Gr w mg mb s.heap) (hA : A.handled = none) (hd : A.depth + 6 < recursionLimit) (hP0 : ∀ a o, P0 a o → s.heap.get? a = some o) (VE0 : Vec P0 aEmpty []) (hl : s.heap.get? l = some (listObj xs n)) (hz : xs.length < 1056)
    (ret : ∀ v' h' tk', Sub s.heap h' → Vec (Nw P0 s.heap h') v' xs → Q (.ref v') { s with heap := h', toks := tk' }) :
    wpAny (model prog w) A (call (.ref fPvector) [.ref l]) Q E s := by
  refine enter (P := At s.heap) (own := []) [("iterable", .ref l)] G (fun _ _ h => h) (fun _ h => nomatch h) (by rfl) (by rfl) (by omega) (binds_K G.X rfl (by rfl) rfl (by rfl) (by rfl)) (locs (by rfl)) ?_
  intro L h₁ hL F
  have VE := emptyV G
  have VE' := VE
  obtain ⟨de, re, te, tce, tse, tfe, ase, lse, tle, hve, hVe, _⟩ := VE'
  have hVe1 := hVe.dict
  repeat (walk_at "N")
  have lF := Nat.le_of_lt (hL ▸ F.ltL)
  refine extendV (P0 := P0) F.G hA (by show A.depth + 1 + 5 < _; omega) (fun a o q => F.get (hP0 _ _ q)) VE0 (F.get hl) (by simp; omega) (fun v' h4 tk4 sb4 V4 => ?_)
  repeat (walk_at "N")
  exact ret v' h4 _ (fun b o e => sb4 _ _ (F.keep _ _ e)) (V4.mono (fun a o q => ⟨q.1, q.2.imp id fun q => Nat.le_trans lF q⟩))
/-- thrown out of a call from the frame of ol: what stood stands, but the frame's slots -/
def Thrown (ol : Env) (Lo : Nat) (h : Heap) (e : Nat) (cls : String) (h' : Heap) : Prop :=
  ∃ base : Heap, (∀ (b : Nat) o, b ≠ Lo → h.get? b = some o → base.get? b = some o) ∧ Heap.Flying base [ol] e (.type cls) h' ∧ ∀ o, h.get? Lo = some o → (∀ vs, o.data ≠ .fields vs) → ∃ sl, h'.get? Lo = some { o with slots := sl }
theorem enterX {w : World} {mg mb : Str → Option Value} {P : Nat → Obj → Prop} {own : List (Nat × Obj)} {A : Around} {s : Shared} {Q E : Value → Shared → Prop} {f : Nat} {oc : Value} {od : Option Nat} {osl : Array (Option Value)}
    {name qual : Str} {params : Arguments} {body : List Stmt} {scope : Scope} {cl : List (Str × Nat)} {dV kV doc pm cdv ct : Value} {an : Option Nat} {vals : List Value} (binds : List (Str × Value))
    (G : Gr w mg mb s.heap) (hP : ∀ a o, P a o → s.heap.get? a = some o) (hO : ∀ p ∈ own, s.heap.get? p.1 = some p.2 ∧ NB ≤ p.1 ∧ ∀ o', ¬ P p.1 o')
    (ho : (K w.params).lookup f = some ⟨oc, od, .func (fnX name qual params body scope cl dV kV doc pm an cdv ct), osl⟩)
    (hcd : codeIn (K w.params) cdv qual = true) (hroom : A.depth < recursionLimit) (hbind : BindsTo s (fnX name qual params body scope cl dV kV doc pm an cdv ct) ⟨vals, []⟩ binds)
    (hloc : ∀ y ∈ binds, scope.names.lookup y.1 = some .local)
    (h : ∀ L h₁, L = s.heap.objs.size → Fm w mg mb P L h₁ (fun y => binds.reverse.lookup y) own →
      wpAny (model prog w) (A.deeper (envX qual scope L f cdv cl)) (execs body (envX qual scope L f cdv cl))
        (fun fl s' => Q (match fl with | .ret v => v | _ => .none) s') (fun e s' => wpAny (model prog w) (A.deeper (envX qual scope L f cdv cl)) (leaving (envX qual scope L f cdv cl) e) (fun _ s'' => E e s'') (fun e' s'' => E e' s'') s') { s with heap := h₁, toks := s.toks + binds.length })
    (hco : scope.isCoroutine = false := by rfl) (hgen : scope.isGenerator = false := by rfl) (hk : scope.kind = .function := by rfl) (hcell : ∀ x ∈ scope.names, x.2 ≠ .cell := by decide) :
    wpAny (model prog w) A (call (.ref f) vals) Q E s := by
  refine wpAny_call (codeAny_call_def (fd := fnX name qual params body scope cl dV kV doc pm an cdv ct) (binds := binds) hroom (G.X _ _ ho) rfl G.lim (codeRec_of G.X hcd) rfl hbind hcell hloc (fun h₁ hns hk₁ => ?_) hco hgen hk)
  refine h _ h₁ rfl ⟨G.sub hk₁, hns, G.size, fun a o p e => ?_, fun a o p => hk₁ _ _ (hP a o p), fun p hp => ?_⟩
  · exact absurd (Heap.lt_size (hP a o p)) (by rw [e]; exact Nat.lt_irrefl _)
  · obtain ⟨a1, a2, a3⟩ := hO p hp
    exact ⟨hk₁ _ _ a1, Nat.ne_of_lt (Heap.lt_size a1), a2, a3⟩
theorem leaveX {w : World} {mg mb : Str → Option Value} {P : Nat → Obj → Prop} {L Lo e : Nat} {h hs : Heap} {m : Str → Option Value} {own : List (Nat × Obj)} {A : Around} {s' : Shared} {E E' : Value → Shared → Prop} {ol env : Env} {cls : String} {oo : Obj}
    (F : Fm w mg mb P L h m own) (hA : A.frames = some [ol]) (hol : ol.frame = some Lo) (hok : ol.scope.kind ≠ .module) (ho : hs.get? Lo = some oo) (hnf : ∀ vs, oo.data ≠ .fields vs)
    (hf : env.frame = some L) (hk : env.scope.kind ≠ .module) (sb : Sub hs h) (lL : hs.objs.size ≤ L) (hx : Heap.NewExc h s'.heap e cls)
    (hQ : ∀ h'', Thrown ol Lo hs e cls h'' → E (.ref e) { s' with heap := h'' }) :
    wpAny (model prog w) (A.deeper env) (leaving env (.ref e)) (fun _ s'' => E (.ref e) s'') E' s' := by
  obtain ⟨ob, tp, he, hcls, hd⟩ := hx.there
  have lo : Lo < L := Nat.lt_of_lt_of_le (ltS ho) lL
  have hh : ∀ (b : Nat) o, (hideAll h [L, Lo]).get? b = some o → h.get? b = some o := fun b o e => of_hideAll _ e
  obtain ⟨oL, es, ep, hoL, hdL, _⟩ := F.ns
  have hen : (hideAll h [L, Lo]).get? e = none := by
    cases hq : (hideAll h [L, Lo]).get? e with
    | none => rfl
    | some o' => have := hh _ _ hq; rw [hx.new] at this; cases this
  have fr : s'.heap.FunFrames (hideAll h [L, Lo]) [env, ol] :=
    ⟨hk, ⟨L, oL, hf, hideAll_none _ (.head _), hx.keeps _ _ hoL, fun vs q => by rw [hdL] at q; cases q⟩, hok, ⟨Lo, oo, hol, hideAll_none _ (.tail _ (.head _)), hx.keeps _ _ (sb _ _ ho), hnf⟩, trivial⟩
  refine wpAny_leaving_first (base := hideAll h [L, Lo]) (Around.frames_deeper hA) fr hf he (fun b o hb => hx.keeps b o (hh b o hb)) hen hd rfl fun h' hL => ?_
  obtain ⟨k1, ⟨_, _, k2⟩, k3, k4⟩ := hL
  refine hQ h' ⟨hideAll h [L, Lo], fun b o hb e => hideAll_get _ (sb _ _ e) (fun q => ?_), ⟨k1, hen, k2, by rw [← hcls]; exact k3⟩, fun o e hn => k4 _ _ (hx.keeps _ _ (sb _ _ e)) hn⟩
  have lb := ltS e
  have q' : (b : Nat) = L ∨ (b : Nat) = Lo := by simpa using q
  rcases q' with q' | q'
  · exact absurd lb (by omega)
  · exact hb q'
/-- the same frame, behind what was thrown into it -/
theorem Fm.caught {w : World} {mg mb : Str → Option Value} {P : Nat → Obj → Prop} {L : Nat} {h h' base : Heap} {m : Str → Option Value} {own : List (Nat × Obj)} (F : Fm w mg mb P L h m own) (k : ∀ (b : Nat) o, b ≠ L → h.get? b = some o → base.get? b = some o) (kb : base.StaysIn h')
    (hL : ∀ o, h.get? L = some o → (∀ vs, o.data ≠ .fields vs) → ∃ sl, h'.get? L = some { o with slots := sl }) : Fm w mg mb P L h' m own where
  G := F.G.low fun b o l e => kb _ _ (k b o (Nat.ne_of_lt (Nat.lt_of_lt_of_le l F.lo)) e)
  ns := by
    obtain ⟨x, es, ep, hx, hd, r⟩ := F.ns
    obtain ⟨sl, e⟩ := hL x hx (fun vs q => by rw [hd] at q; cases q)
    exact ⟨_, es, ep, e, hd, r⟩
  lo := F.lo
  off := F.off
  keep := fun a o q => kb _ _ (k a o (F.off a o q) (F.keep a o q))
  own := fun p hp => let ⟨a1, a2, a3⟩ := F.own p hp; ⟨kb _ _ (k _ _ a2 a1), a2, a3⟩
/-- what a handler meets first: the frame is noted, the flight ends -/
theorem noteX {w : World} {mg mb : Str → Option Value} {P : Nat → Obj → Prop} {L e : Nat} {h : Heap} {m : Str → Option Value} {own : List (Nat × Obj)} {A : Around} {s' : Shared} {E : Value → Shared → Prop} {Q : Unit → Shared → Prop} {ol : Env} {cls : String}
    (F : Fm w mg mb P L h m own) (hA : A.frames = some [ol]) (hol : ol.frame = some L) (T : Thrown ol L h e cls s'.heap)
    (hQ : ∀ base h'', (∀ (b : Nat) o, b ≠ L → h.get? b = some o → base.get? b = some o) → Heap.Flying base [ol] e (.type cls) h'' → Fm w mg mb P L h'' m own → Q () { s' with heap := h'' }) :
    wpAny (model prog w) A (noteFrame (.ref e) ol) (fun _ s₂ => wpAny (model prog w) A (setFlight (.ref e) none) Q E s₂) E s' := by
  obtain ⟨base, kb, ⟨f1, f2, f3, f4⟩, hL⟩ := T
  obtain ⟨oe, vs, T, oT, ts, he, hcls, hd, h1, hnT, hTe, hT, hdT, h3⟩ := f4
  unfold noteFrame
  simp only [hol]
  refine wpAny_bind (wpAny_field he hd h1 ?_)
  rw [if_pos (show (Value.ref T != Value.none) = true from by simp)]
  refine wpAny_bind (wpAny_field hT hdT h3 ?_)
  rw [if_neg (show ¬ ((Value.none == rawInt L) = true) from by simp [rawInt])]
  refine wpAny_bind (wpAny_setField hT hdT (Array.getElem?_eq_some_iff.mp h3).1 ?_)
  have other : ∀ b, b ≠ T → (s'.heap.update T (Obj.mapFields (·.setIfInBounds 3 Value.none))).get? b = s'.heap.get? b := fun b hb => Heap.get?_update_other _ _ (Ne.symm hb)
  have rcd : ∀ b o, s'.heap.get? b = some o → (∀ vs, o.data ≠ .fields vs) → b ≠ T := fun b o hb hnf q => by
    rw [q, hT] at hb; injection hb with hb; subst hb; exact hnf ts hdT
  refine wpAny_newEntry hA (f3.of_keeps fun b o hb hnf => ⟨o, (other b (rcd b o hb hnf)).trans hb, rfl⟩) hol ((other e (Ne.symm hTe)).trans he)
    (fun b o hbo => (other b fun q => by rw [q, hnT] at hbo; cases hbo).trans (f1 b o hbo)) f2 hd (Array.getElem?_eq_some_iff.mp h1).1 fun h'' hl => ?_
  obtain ⟨x1, x2, x3, x4⟩ := hl
  refine hQ base h'' kb ⟨x1, f2, x2, by rw [← hcls]; exact x3⟩ (F.caught kb x1 fun o ho hn => ?_)
  obtain ⟨sl, hsl⟩ := hL o ho hn
  obtain ⟨sl', hsl'⟩ := x4 _ _ ((other L (rcd L _ hsl hn)).trans hsl) hn
  exact ⟨sl', hsl'⟩
theorem setFlightX {w : World} {mg mb : Str → Option Value} {P : Nat → Obj → Prop} {L e : Nat} {h base : Heap} {m : Str → Option Value} {own : List (Nat × Obj)} {A : Around} {s' : Shared} {E : Value → Shared → Prop} {Q : Unit → Shared → Prop} {ol : Env} {cls : String}
    (F : Fm w mg mb P L s'.heap m own) (kb : ∀ (b : Nat) o, b ≠ L → h.get? b = some o → base.get? b = some o) (Fh : Fm w mg mb P L h m own) (fl : Heap.Flying base [ol] e (.type cls) s'.heap)
    (hQ : ∀ h'', Fm w mg mb P L h'' m own → Q () { s' with heap := h'' }) :
    wpAny (model prog w) A (setFlight (.ref e) none) Q E s' := by
  obtain ⟨f1, f2, f3, oe, vs, T, oT, ts, he, hcls, hd, h1, hnT, hTe, hT, hdT, h3⟩ := fl
  refine wpAny_setFlight_none he hd h1 hT hdT (Array.getElem?_eq_some_iff.mp h3).1 (hQ _ ?_)
  have other : ∀ b, b ≠ T → (s'.heap.update T (Obj.mapFields (·.setIfInBounds 3 Value.none))).get? b = s'.heap.get? b := fun b hb => Heap.get?_update_other _ _ (Ne.symm hb)
  obtain ⟨x, es, ep, hx, hxd, r⟩ := F.ns
  have hLT : L ≠ T := fun q => by rw [q, hT] at hx; injection hx with hx; subst hx; rw [hdT] at hxd; cases hxd
  have stay : ∀ (b : Nat) o, base.get? b = some o → (s'.heap.update T (Obj.mapFields (·.setIfInBounds 3 Value.none))).get? b = some o := fun b o hb => (other b fun q => by rw [q, hnT] at hb; cases hb).trans (f1 b o hb)
  exact ⟨Fh.G.low fun b o l e => stay _ _ (kb b o (Nat.ne_of_lt (Nat.lt_of_lt_of_le l Fh.lo)) e), ⟨x, es, ep, (other L hLT).trans hx, hxd, r⟩, F.lo, F.off, fun a o q => stay _ _ (kb a o (Fh.off a o q) (Fh.keep a o q)), fun p hp => let ⟨a1, a2, a3⟩ := Fh.own p hp; ⟨stay _ _ (kb _ _ a2 a1), a2, a3⟩⟩
theorem outText {w : World} {A : Around} {E Q : Value → Shared → Prop} {s : Shared} {env : Env} {x : Expr} {p1 p2 p3 : Pos} {k : Nat} {i : Int} {ti : Tok} (hi : i.natAbs < 10 ^ 9)
    (h : ∀ y t tk, Q (.str y t) { s with toks := tk })
    (hv : ∀ tk (Q' : Value → Shared → Prop), Q' (.int i ti) { s with toks := tk } → wpAny (model prog w) A (eval x env) Q' E { s with toks := tk }) :
    wpAny (model prog w) A (eval (.JoinedStr [.Constant (.str "Index out of range: ") k p1, .FormattedValue x 115 none p2] p3) env) Q E s := by
  have hlog : i.natAbs.log2 < 1920 := by
    rcases Nat.eq_zero_or_pos i.natAbs with e | e
    · rw [e]; decide
    · exact (Nat.log2_lt (Nat.ne_of_gt e)).mpr (Nat.lt_of_lt_of_le hi (by decide +kernel))
  have hl := int_text_length_le10 (k := 9) (by decide) hi
  have hfit : (Str.ofString (toString i)).length ≤ sizeLine := int_text_fits hlog
  have hall : (Str.empty ++ Str.ofString "Index out of range: " ++ Str.ofString (toString i)).length ≤ sizeLine := by
    rw [strLen_append, strLen_append, PySem.ofString_length, PySem.ofString_length, sizeLine_eq]
    have : (Str.empty : Str).length = 0 := rfl
    have : ("Index out of range: " : String).length = 20 := by decide
    omega
  refine wpAny_JoinedStr (wpAny_Constant_str ⟨_, _, rfl, by decide +kernel, ?_⟩)
  refine wpAny_FormattedValue_s (hv _ _ (pyStrObj_int hlog ?_))
  refine wpAny_formatField_str ⟨_, _, rfl, hall, hall, h _ _ _⟩ ⟨_, _, rfl, hall, hall, h _ _ _⟩ hfit
theorem setOut {w : World} {mg mb : Str → Option Value} {A : Around} {s : Shared} {Q E : Value → Shared → Prop} {v Lo : Nat} {xs : List Value} {x : Value} {i : Int} {ti : Tok} {ol : Env} {oo : Obj}
    (G : Gr w mg mb s.heap) (hA : A.handled = none) (hd : A.depth + 3 < recursionLimit) (V : Vec (At s.heap) v xs) (hz : xs.length < 1056) (hb : i.natAbs < 10 ^ 8) (ho : i < -(xs.length : Int) ∨ (xs.length : Int) < i)
    (hfr : A.frames = some [ol]) (hol : ol.frame = some Lo) (hok : ol.scope.kind ≠ .module) (hoo : s.heap.get? Lo = some oo) (hnf : ∀ vs, oo.data ≠ .fields vs)
    (exc : ∀ e h' tk', Thrown ol Lo s.heap e "IndexError" h' → E (.ref e) { s with heap := h', toks := tk' }) :
    wpAny (model prog w) A (call (.ref fSet) [.ref v, .int i ti, x]) Q E s := by
  obtain ⟨d, r, t, tc, ts, tf, as, ls, tl, hv, hV, ⟨nt, ht⟩, htl, hxs⟩ := V
  refine enterX (P := At s.heap) (own := []) [("self", .ref v), ("i", .int i ti), ("val", x)] G (fun _ _ h => h) (fun _ h => nomatch h) (by rfl) (by rfl) (by omega) (BindsTo.of_eq (by rfl)) (locs (by rfl)) ?_
  intro L h₁ hL F
  have hd' := hV.dict
  repeat (walk_at "N")
  refine ite_neg (by decide) ?_
  repeat (walk_at "N")
  rcases Int.lt_or_le i 0 with hi | hi
  refine ite_pos (by simpa using hi) ?_
  repeat (walk_at "N")
  rename_i h2 F2
  refine ite_neg (by simp; omega) ?_
  refine ite_neg (by simp) ?_
  repeat (walk_at "N")
  refine ite_neg (by simp; omega) ?_
  repeat (walk_at "N")
  rotate_left
  refine ite_neg (by simpa using hi) ?_
  repeat (walk_at "N")
  refine ite_pos (by simpa using hi) ?_
  repeat (walk_at "N")
  refine ite_neg (by simp; omega) ?_
  repeat (walk_at "N")
  refine ite_neg (by simp; omega) ?_
  repeat (walk_at "N")
  have F2 := F
  all_goals
    refine Raise_madeB PySem.F.excCall_IndexError PySem.F.excRaise_IndexError hA ?_
    repeat (walk_at "N")
    refine ⟨rfl, ?_⟩
    repeat (walk_at "N")
    refine' outText (i := _) (ti := _) ?hi (fun y t tk => ?_) ?hv
    case hv => intro tk Q' hq; exact nmL F2 (by walk_at "nm") hq
    case hi => omega
    refine spliced_none ?_
    refine ⟨by rw [sizeLine_eq]; simp, fun h' e hx => leaveX F2 hfr hol hok hoo hnf rfl (show ScopeKind.function ≠ ScopeKind.module by decide) F2.keep (by omega) hx.newExc (fun h'' T => exc _ _ _ T)⟩
theorem seqIdx (k n : Nat) : seqIndex? (k : Int) n = if k < n then some k else none := by
  have h : ¬ ((k : Int) < 0) := by omega
  simp only [seqIndex?, h, ↓reduceIte]
  by_cases hk : k < n
  · rw [if_pos hk, if_pos (by simp; omega)]; simp
  · rw [if_neg hk, if_neg (by simp; omega)]
theorem delitem_out (l : Nat) (items : Array Value) (n : Nat) (i : Int) (u : Tok) (hfit : Builtin.List.listFitsIndex i = true) (hk : seqIndex? i items.size = none) :
    Meets (Builtin.«list.__delitem__» ⟨[.ref l, .int i u], []⟩) (fun A R s => s.heap.get? l = some { cls := .type "list", dict := none, data := .seq items n, slots := #[] } ∧ raisesNew "IndexError" A R s) :=
  .of_wp fun prog w A R s h => by
    obtain ⟨hp, g, d, tk, os⟩ := s; obtain ⟨hl, h⟩ := h
    have hf : ¬ (!Builtin.List.listFitsIndex i) = true := by simp [hfit]
    have f1 := AutoSeq1.idx_int
    wp_walk using wpAny_loadPart' hl
    simp only [hk]
    wp_walk
    exact_raiseError plainExc_IndexError h.1 h.2
theorem delOutL {w : World} {A : Around} {E : Value → Shared → Prop} {Q : Unit → Shared → Prop} {s : Shared} {l n k : Nat} {t : Tok} {xs : List Value} (hA : A.handled = none) (hl : s.heap.get? l = some (listObj xs n)) (hk : xs.length ≤ k) (hb : k < 2 ^ 30)
    (hE : ∀ h' tk e, Heap.NewExc s.heap h' e "IndexError" → E (.ref e) { s with heap := h', toks := tk }) : wpAny (model prog w) A (delItem (.ref l) (.int k t)) Q E s :=
  by
  have hf : Builtin.List.listFitsIndex (k : Int) = true := fitsIndex_both (by omega) (by omega)
  have hi : seqIndex? (k : Int) xs.toArray.size = none := by rw [seqIdx, if_neg (by rw [List.size_toArray]; omega)]
  generalize (k : Int) = kk at hf hi ⊢
  have m := delitem_out l xs.toArray n kk t hf hi
  refine wpAny_delItem_slot (isList_at hl).typeIs (by decide) PySem.F.slot_list_delitem ?_
  refine call_meets PySem.F.slot_list_delitem (isList_at hl).typeIs PySem.F.entry_list_delitem (PySem.F.args_list_delitem_2 _ _) m ?_
  exact ⟨hl, hA, hE⟩
theorem delV {w : World} {mg mb : Str → Option Value} {A : Around} {s : Shared} {Q E : Value → Shared → Prop} {v Lo : Nat} {xs : List Value} {i : Nat} {ti : Tok} {ol : Env} {oo : Obj} {P0 : Nat → Obj → Prop}
    (G : Gr w mg mb s.heap) (hA : A.handled = none) (hd : A.depth + 6 < recursionLimit) (hP0 : ∀ a o, P0 a o → s.heap.get? a = some o) (VE0 : Vec P0 aEmpty []) (V : Vec (At s.heap) v xs) (hz : xs.length < 1056) (hb : i < 2 ^ 30)
    (hfr : A.frames = some [ol]) (hol : ol.frame = some Lo) (hok : ol.scope.kind ≠ .module) (hoo : s.heap.get? Lo = some oo) (hnf : ∀ vs, oo.data ≠ .fields vs)
    (ret : i < xs.length → ∀ v' h' tk', Sub s.heap h' → Vec (Nw P0 s.heap h') v' (xs.eraseIdx i) → Q (.ref v') { s with heap := h', toks := tk' })
    (exc : xs.length ≤ i → ∀ e h' tk', Thrown ol Lo s.heap e "IndexError" h' → E (.ref e) { s with heap := h', toks := tk' }) :
    wpAny (model prog w) A (call (.ref fDelete) [.ref v, .int i ti]) Q E s := by
  have V' := V
  obtain ⟨d, r, t, tc, ts, tf, as, ls, tl, hv, hV, ⟨nt, ht⟩, htl, hxs⟩ := V'
  refine enterX (P := At s.heap) (own := []) [("self", .ref v), ("index", .int i ti), ("stop", .none)] G (fun _ _ h => h) (fun _ h => nomatch h) (by rfl) (by rfl) (by omega) (binds_K G.X rfl (by rfl) rfl (by rfl) (by rfl)) (locs (by rfl)) ?_
  intro L h₁ hL F
  have hd' := hV.dict
  have VE := emptyV G
  have VE' := VE
  obtain ⟨de, re, te, tce, tse, tfe, ase, lse, tle, hve, hVe, _⟩ := VE'
  have hVe1 := hVe.dict
  repeat (walk_at "N")
  refine tolistV F.G hA (by show A.depth + 1 + 2 < _; omega) (V.mono F.keep) (by omega) (fun D c h2 tk2 sb2 hD lD => ?_)
  have F2 := F.after (own' := [(D, _)]) (fun b o _ e => sb2 b o e) (fun p hp => by rw [List.mem_singleton.mp hp]; exact ⟨hD, .inr lD⟩)
  repeat (walk_at "N")
  rename_i h3 F3
  refine wpAny_Delete (wpAny_deleteEach_cons (wpAny_delete_Subscript ?_))
  repeat (walk_at "N")
  refine idxOr F3.G (by show A.depth + 1 < _; omega) (fun h4 tk4 sb4 => ?_)
  have F4 := F3.after (own' := [(D, _)]) (fun b o _ e => sb4 b o e) (fun p hp => by rw [List.mem_singleton.mp hp]; exact ⟨sb4 _ _ (F3.ownAt (.head _)), .inl (by simp)⟩)
  clear F3 F2
  by_cases hlt : i < xs.length
  · refine delItem_at (k := i) (F4.ownAt (.head _)) (fitsIndex_both (by omega) (by omega)) ?_ (fun h5 hs5 hD5 => ?_) (by rw [sizeLine_eq, List.size_toArray]; omega)
    · rw [seqIdx, if_pos (by simpa using hlt)]
    have F5 := F4.turn hs5 hD5 (by simp)
    refine wpAny_deleteEach_nil ?_
    repeat (walk_at "N")
    have lF5 := Nat.le_of_lt (hL ▸ F5.ltL)
    refine extendV (P0 := P0) (ys := xs.eraseIdx i) F5.G hA (by show A.depth + 1 + 5 < _; omega) (fun a o q => F5.get (hP0 _ _ q)) VE0 (F5.ownAt (.head _)) (by have := List.length_eraseIdx_le xs i; simp; omega) (fun v' h6 tk6 sb6 V6 => ?_)
    repeat (walk_at "N")
    exact ret hlt v' h6 _ (fun b o e => sb6 _ _ (F5.keep _ _ e)) (V6.mono (fun a o q => ⟨q.1, q.2.imp id fun q => Nat.le_trans lF5 q⟩))
  · refine delOutL hA (F4.ownAt (.head _)) (by omega) hb (fun h5 tk5 e hx => ?_)
    exact leaveX F4 hfr hol hok hoo hnf rfl (show ScopeKind.function ≠ ScopeKind.module by decide) F4.keep (by omega) hx (fun h'' T => exc (by omega) _ _ _ T)
section
variable {w : World} {mg mb : Str → Option Value} {P : Nat → Obj → Prop} {L c : Nat} {m : Str → Option Value} {own : List (Nat × Obj)} {A : Around} {E : Value → Shared → Prop} {s : Shared} {env : Env} {x : Str} {v : Value} {o : Obj}
theorem nmC {M : Model} {pos : Pos} {Q : Value → Shared → Prop} (hc : env.cells.lookup x = some c) (hm : s.heap.get? c = some o) (hd : o.data = .cell (some v)) (h : Q v s)
    (hk : env.scope.kind = .function := by rfl) (hx : env.kindOf x = some .cell := by rfl) (hb : (x == ("__debug__" : Str)) = false := by decide) : wpAny M A (eval (.Name x pos) env) Q E s :=
  wpAny_Name (wpAny_loadName_cell hk hx hc ⟨o, hm, hd⟩ h) hb
theorem stC {M : Model} {v₀ : Option Value} {Q : Unit → Shared → Prop} (F : Fm w mg mb P L s.heap m ((c, o) :: own)) (hne : ∀ p ∈ own, p.1 ≠ c) (hc : env.cells.lookup x = some c) (hd : o.data = .cell v₀)
    (h : ∀ h' o', Fm w mg mb P L h' m ((c, o') :: own) → o'.data = .cell (some v) → Q () { s with heap := h' })
    (hk : env.scope.kind = .function := by rfl) (hx : env.kindOf x = some .cell := by rfl) : wpAny M A (storeName env x v) Q E s :=
  wpAny_storeName_cell hk hx hc ⟨o, F.ownAt (.head _), hd⟩ fun h' ⟨o', ho', hd'⟩ hs => h h' o' (F.turn hs ho' hne) hd'
/-- a frame of a block, over all that stands -/
theorem Fm.ofNs {h h' : Heap} {m' : Str → Option Value} {C' : Nat} (F : Fm w mg mb P L h m own) (sb : Sub h h') (lc : h.objs.size ≤ C') (hn : h'.Ns C' m') : Fm w mg mb (At h) C' h' m' [] :=
  ⟨F.G.sub sb, hn, Nat.le_trans F.G.size lc, fun a o q e => absurd (ltS q) (by rw [e]; exact Nat.not_lt.mpr lc), fun a o q => sb _ _ q, fun p hp => nomatch hp⟩
theorem paired_get {α β : Type} {R : α → β → Prop} : ∀ {l₁ : List α} {l₂ : List β}, Paired R l₁ l₂ → ∀ (i : Nat) {a : α} {b : β}, l₁[i]? = some a → l₂[i]? = some b → R a b
  | _, _, .nil, i, _, _, h, _ => by simp at h
  | _, _, .cons h _, 0, _, _, h1, h2 => by simp at h1 h2; subst h1; subst h2; exact h
  | _, _, .cons _ t, i + 1, _, _, h1, h2 => paired_get t i (by simpa using h1) (by simpa using h2)
/-- a list block over a range -/
theorem compR {elt iter : Expr} {px : Pos} {scope : Scope} {cl : List (Str × Nat)} {pos : Pos} {Q : Value → Shared → Prop} (T : Int → Value → Prop) (hh : A.handled = none) (hclos : closureFor scope env = pure cl) (hcell : ∀ y ∈ scope.names, y.2 ≠ .cell) (hkind : scope.kind = .function)
    (hnames : ∀ y ∈ scope.names, y.2 = .local → scope.names.lookup y.1 = some .local) (hx : scope.names.lookup x = some .local)
    (h : wpAny (model prog w) A (eval iter env) (fun xv s₁ => ∃ (r : Nat) (a b c : Int) (t u v : Tok) (k : Nat), xv = .ref r ∧ IsRange s₁.heap r a b c t u v ∧ Builtin.Range.small a b c = true ∧ Builtin.Range.rangeSize a b c = (k : Int) ∧ k < 2 ^ 20 ∧
      (∀ (C' i : Nat) tv s₂ m₂ E', i < k → s₁.heap.objs.size ≤ C' → s₂.heap.Ns C' m₂ → m₂ x = some (.int (a + i * c) tv) → Sub s₁.heap s₂.heap → wpAny (model prog w) A (eval elt (compEnvC scope cl C' env)) (fun y s₃ => T (a + i * c) y ∧ Keeps s₂ s₃) E' s₂) ∧
      (∀ (D : Nat) ys n h' tk, Sub s₁.heap h' → s₁.heap.get? D = none → h'.get? D = some (listObj ys n) → ys.length = k → (∀ (i : Nat) y, ys[i]? = some y → T (a + i * c) y) → Q (.ref D) { s₁ with heap := h', toks := tk })) E s)
    (hs : ∀ x, foldedSetIterable iter env x = pure x := by intro _; rfl) :
    wpAny (model prog w) A (eval (.ListComp elt [⟨.Name x px, iter, [], 0⟩] scope pos) env) Q E s := by
  refine wpAny_ListComp_free (fun _ => true) (fun v y => ∃ n t, v = .int n t ∧ T n y) hclos hcell hkind hnames hx (wpAny_mono h (fun xv s₁ h₁ => ?_) fun _ _ e => e) hs
  obtain ⟨r, a, b, c, t, u, v, k, rfl, hr, hsm, hn, hk, helt, hQ⟩ := h₁
  have up : ∀ h' : Heap, (∀ z o, z ∉ [s₁.heap.objs.size] → (s₁.heap.push { cls := .type "range_iterator", data := .fields #[rawInt a, rawInt (Builtin.Range.rangeSize a b c), rawInt c] }).get? z = some o → h'.get? z = some o) → Sub s₁.heap h' :=
    fun h' hk z o e => hk z o (fun hm => by rcases List.mem_cons.mp hm with rfl | hm; exact Nat.lt_irrefl _ (Heap.lt_size e); cases hm) (Heap.get?_push_of_some _ e)
  refine wpAny_pyIter_range hr hsm ⟨s₁.heap.objs.size, [s₁.heap.objs.size], [s₁.heap.objs.size], k, _, _, rfl, (Walks.range hh _ a c k).bound, by rw [sizeLine_eq]; omega, (by show IsRangeIter _ _ _ _ _; rw [hn]; simpa using Heap.get?_push_size _ rfl), ?_, ⟨?_, ?_⟩, ?_⟩
  · intro b hb
    show b < (s₁.heap.push _).objs.size
    rw [Heap.size_push, List.mem_singleton.mp hb]
    exact Nat.lt_succ_self _
  · intro C' i v s₃ m₃ E' hC hP hn' hm hk' _
    exact wpAny_pure ⟨rfl, _, _, rfl, fun _ _ e => e⟩
  · intro C' i v s₃ m₃ E' hC hP _ hn' hm hk' _
    obtain ⟨hi, tv, rfl⟩ := hP
    refine wpAny_mono (helt C' i tv s₃ m₃ E' hi (Nat.le_of_succ_le (by simpa [Heap.size_push] using hC)) hn' hm (up _ hk')) (fun y s₄ h₄ => ⟨⟨_, _, rfl, h₄.1⟩, h₄.2⟩) fun _ _ e => e
  · intro D h' tk ys vs' hnew hlD hplD hlen hP hF hk'
    obtain ⟨n, hD⟩ := hplD
    rw [List.filter_eq_self.mpr (fun _ _ => rfl)] at hF
    have hl := hF.length
    refine hQ D ys.toList n h' tk (up _ hk') ?_ (by simpa using hD) (by omega) (fun i y hy => ?_)
    · cases e : s₁.heap.get? D with
      | none => rfl
      | some o' => rw [Heap.get?_push_of_some _ e] at hnew; cases hnew
    · have hi : i < vs'.length := by have := (List.getElem?_eq_some_iff.mp hy).1; omega
      obtain ⟨n', t', e1, hT⟩ := paired_get hF i (List.getElem?_eq_getElem hi) hy
      obtain ⟨_, t'', e2⟩ := hP i _ (List.getElem?_eq_getElem hi)
      rw [e1] at e2
      cases e2
      exact hT
/-- the same, stored under a name -/
theorem asgCompR {elt iter : Expr} {px py : Pos} {y : Str} {scope : Scope} {cl : List (Str × Nat)} {pos spos : Pos} {Q : Flow → Shared → Prop} (T : Int → Value → Prop) (hh : A.handled = none) (hsw : swapsWith (.ListComp elt [⟨.Name x px, iter, [], 0⟩] scope pos) (some (.Name y py)) spos.line env = pure true) (hclos : closureFor scope env = pure cl) (hcell : ∀ y ∈ scope.names, y.2 ≠ .cell) (hkind : scope.kind = .function)
    (hnames : ∀ y ∈ scope.names, y.2 = .local → scope.names.lookup y.1 = some .local) (hx : scope.names.lookup x = some .local) (hy : env.kindOf y = some .local) (hp : (env.scope.kind == .class || (env.scope.kind == .module && env.locals != env.globals)) = false) (hL : env.locals = L)
    (h : wpAny (model prog w) A (eval iter env) (fun xv s₁ => ∃ (P : Nat → Obj → Prop) (m : Str → Option Value) (own : List (Nat × Obj)) (r : Nat) (a b c : Int) (t u v : Tok) (k : Nat), xv = .ref r ∧ Fm w mg mb P L s₁.heap m own ∧ IsRange s₁.heap r a b c t u v ∧ Builtin.Range.small a b c = true ∧ Builtin.Range.rangeSize a b c = (k : Int) ∧ k < 2 ^ 20 ∧
      (∀ (C' i : Nat) tv s₂ m₂ E', i < k → s₁.heap.objs.size ≤ C' → s₂.heap.Ns C' m₂ → m₂ x = some (.int (a + i * c) tv) → Sub s₁.heap s₂.heap → wpAny (model prog w) A (eval elt (compEnvC scope cl C' env)) (fun y s₃ => T (a + i * c) y ∧ Keeps s₂ s₃) E' s₂) ∧
      (∀ (D : Nat) ys n h' tk, Fm w mg mb (Add P D (listObj ys n)) L h' (fun z => if z = y then some (.ref D) else m z) own → (∀ b o, b ≠ L → s₁.heap.get? b = some o → h'.get? b = some o) → s₁.heap.get? D = none → ys.length = k → (∀ (i : Nat) y, ys[i]? = some y → T (a + i * c) y) → Q .next { s₁ with heap := h', toks := tk })) E s)
    (hs : ∀ x, foldedSetIterable iter env x = pure x := by intro _; rfl) :
    wpAny (model prog w) A (exec (.Assign [.Name y py] (.ListComp elt [⟨.Name x px, iter, [], 0⟩] scope pos) spos) env) Q E s := by
  refine wpAny_Assign_ListComp_free (fun _ => true) (fun v y => ∃ n t, v = .int n t ∧ T n y) hsw hclos hcell hkind hnames hx hy hp (wpAny_mono h (fun xv s₁ h₁ => ?_) fun _ _ e => e) hs
  obtain ⟨P, m, own, r, a, b, c, t, u, v, k, rfl, F, hr, hsm, hn, hk, helt, hQ⟩ := h₁
  have up : ∀ h' : Heap, (∀ z o, z ∉ [s₁.heap.objs.size] → (s₁.heap.push { cls := .type "range_iterator", data := .fields #[rawInt a, rawInt (Builtin.Range.rangeSize a b c), rawInt c] }).get? z = some o → h'.get? z = some o) → Sub s₁.heap h' :=
    fun h' hk z o e => hk z o (fun hm => by rcases List.mem_cons.mp hm with rfl | hm; exact Nat.lt_irrefl _ (Heap.lt_size e); cases hm) (Heap.get?_push_of_some _ e)
  have F' := F.alloc { cls := .type "range_iterator", data := .fields #[rawInt a, rawInt (Builtin.Range.rangeSize a b c), rawInt c] }
  have lL : env.locals ∉ [s₁.heap.objs.size] := fun q => by have := F.ltL; rw [hL, List.mem_singleton] at q; exact absurd (q ▸ this) (Nat.lt_irrefl _)
  refine wpAny_pyIter_range hr hsm ⟨s₁.heap.objs.size, [s₁.heap.objs.size], [s₁.heap.objs.size], k, _, _, m, rfl, (Walks.range hh _ a c k).bound, by rw [sizeLine_eq]; omega, (by show IsRangeIter _ _ _ _ _; rw [hn]; simpa using Heap.get?_push_size _ rfl), ?_, lL, hL ▸ F'.ns, ⟨?_, ?_⟩, ?_⟩
  · intro b hb
    show b < (s₁.heap.push _).objs.size
    rw [Heap.size_push, List.mem_singleton.mp hb]
    exact Nat.lt_succ_self _
  · intro C' i v s₃ m₃ E' hC hP hn' hm hk' _
    exact wpAny_pure ⟨rfl, _, _, rfl, fun _ _ e => e⟩
  · intro C' i v s₃ m₃ E' hC hP _ hn' hm hk' _
    obtain ⟨hi, tv, rfl⟩ := hP
    refine wpAny_mono (helt C' i tv s₃ m₃ E' hi (Nat.le_of_succ_le (by simpa [Heap.size_push] using hC)) hn' hm (up _ hk')) (fun y s₄ h₄ => ⟨⟨_, _, rfl, h₄.1⟩, h₄.2⟩) fun _ _ e => e
  · intro D h' tk ys vs' hnew hlD hplD hlen hP hF hns hk'
    obtain ⟨n, hD⟩ := hplD
    rw [List.filter_eq_self.mpr (fun _ _ => rfl)] at hF
    have hl := hF.length
    have keep : ∀ b o, b ≠ L → s₁.heap.get? b = some o → h'.get? b = some o := fun z o hz e => hk' z o (hL ▸ hz) (fun hm => by rcases List.mem_cons.mp hm with rfl | hm; exact Nat.lt_irrefl _ (Heap.lt_size e); cases hm) (Heap.get?_push_of_some _ e)
    have hDn : s₁.heap.get? D = none := by
      cases e : s₁.heap.get? D with
      | none => rfl
      | some o' => rw [Heap.get?_push_of_some _ e] at hnew; cases hnew
    refine hQ D ys.toList n h' tk ?_ keep hDn (by omega) (fun i y hy => ?_)
    · refine ⟨F.G.low fun b o l e => keep b o (Nat.ne_of_lt (Nat.lt_of_lt_of_le l F.lo)) e, hL ▸ hns, F.lo, fun a o q => q.elim (F.off a o) fun e e' => ?_, fun a o q => q.elim (fun q => keep _ _ (F.off a o q) (F.keep a o q)) fun e => by rw [e.1, e.2]; simpa using hD, fun p hp => ?_⟩
      · obtain ⟨x, es, ep, hx, r⟩ := F.ns
        have e2 : D = L := e.1.symm.trans e'
        rw [e2, hx] at hDn
        cases hDn
      · obtain ⟨a1, a2, a3, a4⟩ := F.own p hp
        refine ⟨keep _ _ a2 a1, a2, a3, fun o' q => q.elim (a4 o') fun e => ?_⟩
        have e2 : p.1 = D := e.1
        rw [e2, hDn] at a1
        cases a1
    · have hi : i < vs'.length := by have := (List.getElem?_eq_some_iff.mp hy).1; omega
      obtain ⟨n', t', e1, hT⟩ := paired_get hF i (List.getElem?_eq_getElem hi) hy
      obtain ⟨_, t'', e2⟩ := hP i _ (List.getElem?_eq_getElem hi)
      rw [e1] at e2
      cases e2
      exact hT
/-- something new is known -/
theorem Fm.known {h h' : Heap} {D : Nat} {o' : Obj} (F : Fm w mg mb P L h m own) (k : Sub h h') (hD : h'.get? D = some o') (hn : h.get? D = none) : Fm w mg mb (Add P D o') L h' m own where
  G := F.G.sub k
  ns := let ⟨x, es, ep, hx, r⟩ := F.ns; ⟨x, es, ep, k _ _ hx, r⟩
  lo := F.lo
  off := fun a o q => q.elim (F.off a o) fun e => by
    intro e'
    obtain ⟨x, es, ep, hx, r⟩ := F.ns
    have e2 : D = L := e.1.symm.trans e'
    rw [e2, hx] at hn
    cases hn
  keep := fun a o q => q.elim (fun q => k _ _ (F.keep a o q)) fun e => by rw [e.1, e.2]; exact hD
  own := fun p hp => by
    obtain ⟨a1, a2, a3, a4⟩ := F.own p hp
    refine ⟨k _ _ a1, a2, a3, fun o' q => q.elim (a4 o') fun e => ?_⟩
    have e2 : p.1 = D := e.1
    rw [e2, hn] at a1
    cases a1
end
theorem Fm.nw {w : World} {mg mb : Str → Option Value} {P : Nat → Obj → Prop} {L : Nat} {h h' : Heap} {m : Str → Option Value} {own : List (Nat × Obj)} (F : Fm w mg mb P L h m own) (k : Sub h h') : Fm w mg mb (Nw P h h') L h' m own :=
  ⟨F.G.sub k, let ⟨x, es, ep, hx, r⟩ := F.ns; ⟨x, es, ep, k _ _ hx, r⟩, F.lo, fun a o q => q.2.elim (F.off a o) fun l => Nat.ne_of_gt (Nat.lt_of_lt_of_le F.ltL l), fun a o q => q.1, fun p hp => let ⟨a1, a2, a3, a4⟩ := F.own p hp; ⟨k _ _ a1, a2, a3, fun o' q => q.2.elim (a4 o') fun l => absurd (ltS a1) (Nat.not_lt.mpr l)⟩⟩
theorem Fm.nwMono {w : World} {mg mb : Str → Option Value} {P : Nat → Obj → Prop} {L : Nat} {h h' : Heap} {m : Str → Option Value} {own : List (Nat × Obj)} (F : Fm w mg mb P L h m own) (k : Sub h h') : ∀ a o, P a o → Nw P h h' a o := fun a o q => ⟨k _ _ (F.keep _ _ q), .inl q⟩
theorem emptyX {P : Params} {h : Heap} (X : (K P).In h) : Vec (At h) aEmpty [] := by
  refine ⟨_, _, _, _, _, _, [], [], [], X aEmpty _ (by rfl), ⟨X _ _ (by rfl), ⟨_, X _ _ (by rfl)⟩, trivial⟩, ⟨_, X _ _ (by rfl)⟩, by simp, rfl⟩
theorem setEnd {w : World} {mg mb : Str → Option Value} {A : Around} {s : Shared} {Q E : Value → Shared → Prop} {v : Nat} {xs : List Value} {x : Value} {ti : Tok} {P0 : Nat → Obj → Prop}
    (G : Gr w mg mb s.heap) (hA : A.handled = none) (hd : A.depth + 4 < recursionLimit) (hP0 : ∀ a o, P0 a o → s.heap.get? a = some o) (V : Vec P0 v xs) (hz : xs.length < 1056)
    (ret : ∀ v' h' tk', Sub s.heap h' → Vec (Nw P0 s.heap h') v' (xs ++ [x]) → Q (.ref v') { s with heap := h', toks := tk' }) :
    wpAny (model prog w) A (call (.ref fSet) [.ref v, .int xs.length ti, x]) Q E s := by
  have V' := V
  obtain ⟨d, r, t, tc, ts, tf, as, ls, tl, hv0, hV0, ⟨nt, ht0⟩, htl, hxs⟩ := V'
  have hv := hP0 _ _ hv0
  have hd' := hP0 _ _ hV0.dict
  refine enter (P := At s.heap) (own := []) [("self", .ref v), ("i", .int xs.length ti), ("val", x)] G (fun _ _ h => h) (fun _ h => nomatch h) (by rfl) (by rfl) (by omega) (BindsTo.of_eq (by rfl)) (locs (by rfl)) ?_
  intro L h₁ hL F
  repeat (walk_at "N")
  refine ite_neg (by decide) ?_
  repeat (walk_at "N")
  refine ite_neg (by simp) ?_
  repeat (walk_at "N")
  refine ite_pos (by simp) ?_
  repeat (walk_at "N")
  refine ite_neg (by simp) ?_
  repeat (walk_at "N")
  refine ite_pos (by simp) ?_
  repeat (walk_at "N")
  have lF := Nat.le_of_lt (hL ▸ F.ltL)
  refine appendV (P0 := P0) F.G hA (by show A.depth + 1 + 3 < _; omega) (fun a o q => F.get (hP0 _ _ q)) V hz (fun v' h4 tk4 sb4 V4 => ?_)
  repeat (walk_at "N")
  exact ret v' h4 _ (fun b o e => sb4 _ _ (F.keep _ _ e)) (V4.mono (fun a o q => ⟨q.1, q.2.imp id fun q => Nat.le_trans lF q⟩))
/-- a loop over a list that stands, into a cell -/
theorem iterC {w : World} {mg mb : Str → Option Value} {P : Nat → Obj → Prop} {L l n c : Nat} {oc : Obj} {v₀ : Option Value} {m : Str → Option Value} {own : List (Nat × Obj)} {A : Around} {E : Value → Shared → Prop} {R : Result → Shared → Prop} {s : Shared} {env : Env} {items : List Value} {x : Str} {px : Pos} {body : List Stmt}
    (F : Fm w mg mb P L s.heap m ((c, oc) :: own)) (hdc : oc.data = .cell v₀) (hcn : ∀ p ∈ own, p.1 ≠ c) (hh : A.handled = none) (hl : P l (listObj items n)) (J : Nat → (Nat → Obj → Prop) → (Str → Option Value) → List (Nat × Obj) → Prop) (h0 : J 0 P m own)
    (step : ∀ E' i v P' m' own' it io oc' h tk, items[i]? = some v → (∀ a o, P a o → P' a o) → J i P' m' own' → c ≠ it → (∀ p ∈ own', p.1 ≠ it) → (∀ p ∈ own', p.1 ≠ c) → oc'.data = .cell (some v) → Fm w mg mb P' L h m' ((it, io) :: (c, oc') :: own') →
      wpAny (model prog w) A (execs body env) (fun f s' => match f with
        | .next | .cont => ∃ h' tk' P'' m'' own'' oc'' v'', s' = { s with heap := h', toks := tk' } ∧ Fm w mg mb P'' L h' m'' ((it, io) :: (c, oc'') :: own'') ∧ (∀ p ∈ own'', p.1 ≠ it) ∧ (∀ p ∈ own'', p.1 ≠ c) ∧ oc''.data = .cell v'' ∧ (∀ a o, P' a o → P'' a o) ∧ J (i + 1) P'' m'' own''
        | .brk => False
        | .ret v => R (.ok (.ret v)) s') E' { s with heap := h, toks := tk })
    (done : ∀ h' tk' P' m' own' oc' v', Fm w mg mb P' L h' m' ((c, oc') :: own') → oc'.data = .cell v' → (∀ p ∈ own', p.1 ≠ c) → (∀ a o, P a o → P' a o) → J items.length P' m' own' → R (.ok .next) { s with heap := h', toks := tk' })
    (hL : env.locals = L := by rfl) (hk : env.scope.kind = .function := by rfl) (hx : env.kindOf x = some .cell := by rfl) (hc : env.cells.lookup x = some c := by rfl) :
    wpAny (model prog w) A (pyIter (.ref l)) (fun it s₂ => codeAny (model prog w) A (.forLoop (.Name x px) it body [] env) R s₂) E s := by
  refine wpAny_pyIter_list (isList_at (F.get hl)) ?_
  have F0 := F.alloc { cls := .type "list_iterator", data := .fields #[.ref l, .int 0 0] }
  have ne0 := F.fresh.2
  generalize hit : s.heap.objs.size = it at F0 ne0
  have I0 := F0.ownAt (.head _)
  refine codeAny_forLoop (fun k s' => ∃ h tk P' m' own' io i oc' v', s' = { s with heap := h, toks := tk } ∧ Fm w mg mb P' L h m' ((it, io) :: (c, oc') :: own') ∧ oc'.data = .cell v' ∧ (∀ p ∈ own', p.1 ≠ c) ∧ (∀ p ∈ own', p.1 ≠ it) ∧ (∀ a o, P a o → P' a o) ∧ h.IsListIter it l i ∧ J i P' m' own' ∧ i ≤ items.length ∧ k = items.length + 1 - i) ?_ (items.length + 1)
    ⟨_, s.toks, P, m, own, _, 0, oc, v₀, rfl, F0, hdc, hcn, fun p hp => ne0 p (.tail _ hp), fun _ _ q => q, ⟨_, I0, rfl, rfl⟩, h0, Nat.zero_le _, rfl⟩
  have hci : c ≠ it := ne0 _ (.head _)
  rintro k s' ⟨h, tk, P', m', own', io, i, oc', v', rfl, F1, hd1, hc1, ne1, hP, hI, hJ, hi, rfl⟩
  have hl1 := isList_at (F1.get (hP _ _ hl))
  cases hv : items[i]? with
  | none =>
    have hsz : i = items.length := Nat.le_antisymm hi (by simpa using hv)
    refine wpAny_pyNext_list_end hh hI hl1 (by simpa using hv) fun h₁ he₁ => wpAny_execs_nil ?_
    refine done h₁ tk P' m' own' oc' v' (F1.after (fun b o hb e => he₁ b o (fun q => hb (q ▸ List.mem_cons_self)) e) (fun p hp => ⟨he₁ _ _ ((List.mem_cons.mp hp).elim (fun e => e ▸ hci) (ne1 p)) (F1.own p (.tail _ hp)).1, .inl (List.mem_cons_of_mem _ (List.mem_map_of_mem hp))⟩)) hd1 hc1 hP (hsz ▸ hJ)
  | some v =>
    have hlt : i < items.length := (List.getElem?_eq_some_iff.mp hv).1
    refine wpAny_pyNext_list_item hI hl1 (by simpa using hv) fun h₁ hI₁ hs₁ => ?_
    obtain ⟨io₁, hio₁, hc₁, hd₁⟩ := id hI₁
    have F2 := (F1.turn hs₁ hio₁ (fun p hp => (List.mem_cons.mp hp).elim (fun e => e ▸ hci) (ne1 p))).swap
    refine wpAny_assign_Name (stC F2 (fun p hp => (List.mem_cons.mp hp).elim (fun e => e ▸ hci.symm) (hc1 p)) hc hd1 (fun h₂ o₂ F3 hd3 => ?_) hk hx)
    refine wpAny_mono (step _ i v P' m' own' it io₁ o₂ h₂ _ hv hP hJ hci ne1 hc1 hd3 F3.swap) (fun f s₃ h₃ => ?_) fun _ _ e => e
    have fin : (∃ h' tk' P'' m'' own'' oc'' v'', s₃ = { s with heap := h', toks := tk' } ∧ Fm w mg mb P'' L h' m'' ((it, io₁) :: (c, oc'') :: own'') ∧ (∀ p ∈ own'', p.1 ≠ it) ∧ (∀ p ∈ own'', p.1 ≠ c) ∧ oc''.data = .cell v'' ∧ (∀ a o, P' a o → P'' a o) ∧ J (i + 1) P'' m'' own'') → ∃ m, m < items.length + 1 - i ∧ (∃ h tk P' m' own' io i oc' v', s₃ = { s with heap := h, toks := tk } ∧ Fm w mg mb P' L h m' ((it, io) :: (c, oc') :: own') ∧ oc'.data = .cell v' ∧ (∀ p ∈ own', p.1 ≠ c) ∧ (∀ p ∈ own', p.1 ≠ it) ∧ (∀ a o, P a o → P' a o) ∧ h.IsListIter it l i ∧ J i P' m' own' ∧ i ≤ items.length ∧ m = items.length + 1 - i) := by
      rintro ⟨h', tk', P'', m'', own'', oc4, v4, rfl, F4, ne4, nc4, hd4, hP4, J4⟩
      exact ⟨_, by omega, h', tk', P'', m'', own'', io₁, i + 1, oc4, v4, rfl, F4, hd4, nc4, ne4, fun a o q => hP4 _ _ (hP _ _ q), ⟨_, F4.ownAt (.head _), hc₁, hd₁⟩, J4, hlt, rfl⟩
    cases f with
    | next => exact fin h₃
    | cont => exact fin h₃
    | brk => exact h₃.elim
    | ret v => exact h₃
section
set_option maxHeartbeats 0
def lawRec : DefRec := match nth body0 14 with
  | .FunctionDef n a b _ _ _ sc _ _ ps => ⟨n, a, b, sc, ps⟩
  | _ => ⟨"", ⟨[], [], none, [], [], none, []⟩, [], default, default⟩
theorem hd (walk : WalkO qv loose (XL qv lv) hook.says row lawRec [] (fun f vs => PySem.call f vs)) : PySem.Challenge.rw_md0020_01.Holds := by
  o_law
  refine PySem.W.holds_open (r := PySem.Challenge.rw_md0020_01.row) (q := qv) (loose := loose) (Xt := Xt) (XP := XL qv lv) (Yf := hook.obs) (Ya := hook.val) (YP := hook.says) (d := lawRec) (kwd := []) (N := 4634) left hook.of hook.keeps (fun s e => xl_of s (Bool.and_eq_true_iff.mp e).1) XL.keeps ?h1 ?h2 ?h3 (fun s e => recFacts_of (Bool.and_eq_true_iff.mp e).2) rfl (by assumption) ?h4 ⟨rfl, rfl, rfl, rfl, rfl, by decide +kernel⟩ ?hw walk
  case h1 => kernel_rfl!
  case h2 => kernel_rfl!
  case h3 => kernel_rfl!
  case h4 => kernel_rfl!
  case hw => w_witness2
end
abbrev envL (L fa : Nat) (cd : Value) : Env := envOfC lawRec.name lawRec.scope L fa cd
abbrev AL (L fa : Nat) (cd : Value) : Around := callerA.deeper (envL L fa cd)
theorem room {w : World} {mg mb : Str → Option Value} {P : Nat → Obj → Prop} {L fa : Nat} {cd : Value} {m : Str → Option Value} {own : List (Nat × Obj)} {hb : Heap} {s : Shared} (F : Fm w mg mb P L s.heap m own) (hP : ∀ a o, At hb a o → P a o) (sr : hb.NoSeer) : PySem.PylongRoom (model prog w) (AL L fa cd) s :=
  PySem.PylongRoom.of F.G.lim (of_decide_eq_true (by with_unfolding_all rfl)) (PySem.SeerAt.of (sr.keeps fun a o e => F.keep _ _ (hP _ _ e)) (by rfl) (by first | rfl | exact PySem.Around.frames_deeper rfl) (by rfl) (by rfl) (by rfl) (by rfl))
/-- a slice of a list that may be a temporary -/
theorem subSliceL {w : World} {A : Around} {E Q : Value → Shared → Prop} {s : Shared} {env : Env} {value : Expr} {lower upper : Option Expr} {p pos : Pos}
    (h : wpAny (model prog w) A (eval value env) (fun o s₁ => wpAny (model prog w) A (evalPart lower env) (fun vl s₂ => wpAny (model prog w) A (evalPart upper env) (fun vu s₃ =>
      ∃ l items lo hi, o = .ref l ∧ s₃.heap.IsList l items ∧ items.size ≤ sizeLine ∧ IsPart vl lo ∧ IsPart vu hi ∧
        Q (.ref (s₃.heap.objs.size + 1)) { s₃ with heap := (s₃.heap.push { cls := .type "slice", data := .fields #[vl, vu, .none] }).push { cls := .type "list", data := .seq (slicePick items lo hi none) } }) E s₂) E s₁) E s) :
    wpAny (model prog w) A (eval (.Subscript value (.Slice lower upper none p) pos) env) Q E s := by
  refine Subscript_ (wpAny_mono h (fun o s₁ h₁ => wpAny_Slice (wpAny_mono h₁ (fun vl s₂ h₂ => wpAny_mono h₂ (fun vu s₃ h₃ => ?_) fun _ _ e => e) fun _ _ e => e)) fun _ _ e => e)
  obtain ⟨l, items, lo, hi, rfl, hl, hsz, pl, pu, hQ⟩ := h₃
  rw [evalPart_none]
  refine wpAny_pure (tail_any (ops := [.ref s₃.heap.objs.size, .ref l]) (hl.push _).typeIs slot_list_getitem.lookup (wpAny_getItem_list_slice (hl.push _) (Heap.IsSliceOf.new ..) pl pu .none (by simp) ?_ hsz) (by rfl))
  rw [Heap.size_push]
  exact hQ
theorem addL {w : World} {mg mb : Str → Option Value} {P : Nat → Obj → Prop} {L a b : Nat} {m : Str → Option Value} {own : List (Nat × Obj)} {A : Around} {E Q : Value → Shared → Prop} {s : Shared} {xs ys : List Value} (F : Fm w mg mb P L s.heap m own) (ha : s.heap.IsList a xs.toArray) (hb : s.heap.IsList b ys.toArray) (hz : xs.length + ys.length < 2 ^ 20)
    (h : ∀ D h', Fm w mg mb P L h' m ((D, listObj (xs ++ ys) 0) :: own) → L < D → (∀ p ∈ own, p.1 ≠ D) → Q (.ref D) { s with heap := h' }) : wpAny (model prog w) A (binaryOp .Add (.ref a) (.ref b)) Q E s := by
  obtain ⟨⟨cls, dd, data, sl⟩, ho, hc, n, hd⟩ := id ha
  obtain ⟨⟨cls2, dd2, data2, sl2⟩, ho2, hc2, n2, hd2⟩ := id hb
  simp only at hc hd hc2 hd2
  subst hc hd hc2 hd2
  refine concat_meets ⟨_, ho, rfl⟩ ⟨_, ho2, rfl⟩ noFill_list_add seq_list_add PySem.F.slot_list_add PySem.F.entry_list_add (PySem.F.args_list_add_2 _ _) (list_addW a b xs.toArray ys.toArray n n2 dd dd2 sl sl2 (by rw [sizeLine_eq]; simp; omega)) ⟨ho, ho2, ?_⟩
  rw [show xs.toArray ++ ys.toArray = (xs ++ ys).toArray by simp]
  exact h _ _ (F.alloc _) F.fresh.1 F.fresh.2
/-- a list of ints -/
def Ints (xs : List Value) : Prop := ∀ x ∈ xs, ∃ n t, x = .int n t
theorem Ints.are : ∀ {xs : List Value}, Ints xs → ∃ ns, IntsAre xs ns
  | [], _ => ⟨[], .nil⟩
  | x :: xs, h => by
    obtain ⟨n, t, rfl⟩ := h x (.head _)
    obtain ⟨ns, q⟩ := Ints.are (xs := xs) (fun y hy => h y (.tail _ hy))
    exact ⟨n :: ns, .cons _ _ q⟩
theorem depAL (L fa : Nat) (cd : Value) : (AL L fa cd).depth + 8 < recursionLimit := of_decide_eq_true (by with_unfolding_all rfl)
def forBody : List Stmt := match lawRec.body with
  | [_, _, _, _, .For _ _ b _ _, _, _] => b
  | _ => []
/-- the versions: a vector, its row, their numbers -/
structure Vers (P : Nat → Obj → Prop) (B : Nat) (ts : List (Nat × Nat × List Value)) : Prop where
  some : 1 ≤ ts.length
  all : ∀ t ∈ ts, Vec P t.1 t.2.2 ∧ PL P t.2.1 t.2.2 ∧ Ints t.2.2 ∧ t.2.2.length ≤ B
theorem Vers.mono {P P' : Nat → Obj → Prop} {B B' : Nat} {ts : List (Nat × Nat × List Value)} (V : Vers P B ts) (k : ∀ a o, P a o → P' a o) (hB : B ≤ B') : Vers P' B' ts :=
  ⟨V.some, fun t ht => let ⟨a, ⟨n, b⟩, c, d⟩ := V.all t ht; ⟨a.mono k, ⟨n, k _ _ b⟩, c, Nat.le_trans d hB⟩⟩
theorem Vers.snoc {P : Nat → Obj → Prop} {B : Nat} {ts : List (Nat × Nat × List Value)} {v r : Nat} {xs : List Value} (V : Vers P B ts) (a : Vec P v xs) (b : PL P r xs) (c : Ints xs) (d : xs.length ≤ B) : Vers P B (ts ++ [(v, r, xs)]) :=
  ⟨by simp, fun t ht => by
    rcases List.mem_append.mp ht with h | h
    · exact V.all t h
    · rw [List.mem_singleton.mp h]; exact ⟨a, b, c, d⟩⟩
theorem pick_all (xs : List Value) : slicePick xs.toArray none none none = xs.toArray := by
  rw [slicePick_plain]
  simp only [Option.elim, List.size_toArray]
  simp
local macro_rules | `(tactic| walk_at "W") => `(tactic| first
  | ((with_reducible show wpAny _ _ (eval (Expr.Subscript _ (Expr.Slice _ _ none _) _) _) _ _ _); refine subSliceL ?_)
  | walk_at "N"
  | ((with_reducible show wpAny _ _ (eval (Expr.Name _ _) _) _ _ _); refine nmC (by rfl) (by walk_at "obj") (by assumption) ?_)
  | ((with_reducible show wpAny _ _ (eval (Expr.Compare _ [_, _] [_, _] _) _) _ _ _); refine Compare_chain ?_)
  | ((with_reducible show wpAny _ _ (compareChain _ _ (_ :: _ :: _) _) _ _ _); refine chain_link ?_)
  | ((with_reducible show wpAny _ _ (compareChain _ _ [_] _) _ _ _); refine chain_last ?_)
  | ((with_reducible show wpAny _ _ (binaryOp Operator.Mult (Value.int 2 _) _) _ _ _); refine mul_int ?_ (.of_left (by decide)))
  | with_reducible refine mod_int (by first | decide | omega) ?_
  | ((with_reducible show wpAny _ _ (binaryOp Operator.FloorDiv _ _) _ _ _); refine floordiv_int (by decide) ?_ (.inr (room (by assumption) (by assumption) (by assumption)))))
/-- the loop's state -/
def LJ (L : Nat) (i : Nat) (P : Nat → Obj → Prop) (m : Str → Option Value) (own : List (Nat × Obj)) : Prop :=
  ∃ ts aM aP cM cP o3 o2 v3 v2, own = [(aM, listObj (ts.map fun t => .ref t.1) cM), (aP, listObj (ts.map fun t => .ref t.2.1) cP), (L + 3, o3), (L + 2, o2)] ∧ o3.data = .cell v3 ∧ o2.data = .cell v2 ∧ aM ≠ aP ∧ aM ≠ L + 3 ∧ aM ≠ L + 2 ∧ aP ≠ L + 3 ∧ aP ≠ L + 2 ∧
    m "made" = some (.ref aM) ∧ m "plain" = some (.ref aP) ∧ Vers P (70 + 39 * i) ts ∧ ts.length ≤ i + 1
/-- what a turn of the loop hands on -/
def Turned (w : World) (mg mb : Str → Option Value) (L i : Nat) (P : Nat → Obj → Prop) (it : Nat) (io : Obj) (s s' : Shared) : Prop :=
  ∃ h' tk' P' m' own' o1' v', s' = { s with heap := h', toks := tk' } ∧ Fm w mg mb P' L h' m' ((it, io) :: (L + 1, o1') :: own') ∧ (∀ p ∈ own', p.1 ≠ it) ∧ (∀ p ∈ own', p.1 ≠ L + 1) ∧ o1'.data = .cell v' ∧ (∀ a o, P a o → P' a o) ∧ LJ L (i + 1) P' m' own'
def tailStmts : List Stmt := match forBody with
  | [_, _, _, _, _, a, b] => [a, b]
  | _ => []
theorem tailD {w : World} {mg mb : Str → Option Value} {s : Shared} {L fa : Nat} {cd : Value} {i : Nat} {P : Nat → Obj → Prop} {m : Str → Option Value} {it D aM aP cM cP c v' : Nat} {io o1 o2 o3 : Obj} {v1 v2 : Option Value} {ys : List Value} {ts : List (Nat × Nat × List Value)} {Q : Flow → Shared → Prop} {E : Value → Shared → Prop}
    (hi : i < 14) (F : Fm w mg mb P L s.heap m [(D, listObj ys c), (it, io), (L + 1, o1), (aM, listObj (ts.map fun t => .ref t.1) cM), (aP, listObj (ts.map fun t => .ref t.2.1) cP), (L + 3, o3), (L + 2, o2)])
    (d1 : o1.data = .cell v1) (d2 : o2.data = .cell v2) (d3 : o3.data = .cell (some (.ref D))) (m1 : m "made" = some (.ref aM)) (m2 : m "plain" = some (.ref aP)) (m3 : m "new" = some (.ref v'))
    (nD : D ≠ it ∧ D ≠ L + 1 ∧ D ≠ aM ∧ D ≠ aP ∧ D ≠ L + 3 ∧ D ≠ L + 2) (nM : aM ≠ it ∧ aM ≠ L + 1 ∧ aM ≠ aP ∧ aM ≠ L + 3 ∧ aM ≠ L + 2) (nP : aP ≠ it ∧ aP ≠ L + 1 ∧ aP ≠ L + 3 ∧ aP ≠ L + 2) (nI : it ≠ L + 1 ∧ it ≠ L + 2 ∧ it ≠ L + 3)
    (V : Vers P (70 + 39 * (i + 1)) ts) (htl : ts.length ≤ i + 1) (Vv : Vec P v' ys) (Vi : Ints ys) (Vl : ys.length ≤ 70 + 39 * (i + 1))
    (hQ : ∀ s', Turned w mg mb L i P it io s s' → Q .next s') :
    wpAny (model prog w) (AL L fa cd) (execs tailStmts (envL L fa cd)) Q E s := by
  obtain ⟨nD1, nD2, nD3, nD4, nD5, nD6⟩ := nD
  obtain ⟨nM1, nM2, nM3, nM4, nM5⟩ := nM
  obtain ⟨nP1, nP2, nP3, nP4⟩ := nP
  obtain ⟨nI1, nI2, nI3⟩ := nI
  change wpAny _ _ (execs (List.cons _ _) _) _ _ _
  repeat (walk_at "W")
  have F1 := F.drop (own' := [(aM, listObj (ts.map fun t => .ref t.1) cM), (D, listObj ys c), (it, io), (L + 1, o1), (aP, listObj (ts.map fun t => .ref t.2.1) cP), (L + 3, o3), (L + 2, o2)]) (by walk_at "perm")
  clear F
  refine appendL F1 (fun p hp => ?_) (by simp; omega) (fun cM' h2 F2 => ?_)
  · revert p; walk_at "apart"
  clear F1
  repeat (walk_at "W")
  have F3 := F2.drop (own' := [(aP, listObj (ts.map fun t => .ref t.2.1) cP), (aM, listObj ((ts.map fun t => .ref t.1) ++ [.ref v']) cM'), (D, listObj ys c), (it, io), (L + 1, o1), (L + 3, o3), (L + 2, o2)]) (by walk_at "perm")
  clear F2
  refine appendL F3 (fun p hp => ?_) (by simp; omega) (fun cP' h4 F4 => ?_)
  · revert p; walk_at "apart"
  clear F3
  repeat (walk_at "W")
  have F5 := (F4.drop (own' := [(D, listObj ys c), (it, io), (L + 1, o1), (aM, listObj ((ts.map fun t => .ref t.1) ++ [.ref v']) cM'), (aP, listObj ((ts.map fun t => .ref t.2.1) ++ [.ref D]) cP'), (L + 3, o3), (L + 2, o2)]) (by walk_at "perm")).freeze (by walk_at "apart")
  refine hQ _ ⟨h4, _, _, m, _, o1, v1, rfl, F5, ?_, ?_, d1, fun _ _ q => .inl q, ts ++ [(v', D, ys)], aM, aP, cM', cP', o3, o2, _, _, by simp, d3, d2, by omega, by omega, by omega, by omega, by omega, m1, m2, (V.mono (fun _ _ q => .inl q) (Nat.le_refl _)).snoc (Vv.mono fun _ _ q => .inl q) ⟨c, .inr ⟨rfl, rfl⟩⟩ Vi Vl, by simp; omega⟩
  · walk_at "apart"
  · walk_at "apart"
/-- the deed's state: the row's copy D first -/
structure Mid (w : World) (mg mb : Str → Option Value) (L : Nat) (P : Nat → Obj → Prop) (h : Heap) (m : Str → Option Value) (D it aM aP : Nat) (c cM cP : Nat) (io o1 o2 o3 : Obj) (nb : Int) (tn tm : Tok) (vv : Nat) (xs : List Value) (ts : List (Nat × Nat × List Value)) : Prop where
  F : Fm w mg mb P L h m [(D, listObj xs c), (it, io), (L + 1, o1), (aM, listObj (ts.map fun t => .ref t.1) cM), (aP, listObj (ts.map fun t => .ref t.2.1) cP), (L + 3, o3), (L + 2, o2)]
  d1 : o1.data = .cell (some (.int nb tn))
  d2 : o2.data = .cell (some (.ref vv))
  d3 : o3.data = .cell (some (.ref D))
  m1 : m "made" = some (.ref aM)
  m2 : m "plain" = some (.ref aP)
  m3 : m "more" = some (.int (nb.fdiv 97) tm)
  nD : D ≠ it ∧ D ≠ L + 1 ∧ D ≠ aM ∧ D ≠ aP ∧ D ≠ L + 3 ∧ D ≠ L + 2
/-- the deed done: a new version, and its row -/
def Done (w : World) (mg mb : Str → Option Value) (L i : Nat) (P : Nat → Obj → Prop) (it aM aP : Nat) (cM cP : Nat) (io o1 o2 : Obj) (ts : List (Nat × Nat × List Value)) (s s' : Shared) : Prop :=
  ∃ h' tk' P' m' D' ys c' o3' v', s' = { s with heap := h', toks := tk' } ∧ Fm w mg mb P' L h' m' [(D', listObj ys c'), (it, io), (L + 1, o1), (aM, listObj (ts.map fun t => .ref t.1) cM), (aP, listObj (ts.map fun t => .ref t.2.1) cP), (L + 3, o3'), (L + 2, o2)] ∧
    o3'.data = .cell (some (.ref D')) ∧ m' "made" = some (.ref aM) ∧ m' "plain" = some (.ref aP) ∧ m' "new" = some (.ref v') ∧ (D' ≠ it ∧ D' ≠ L + 1 ∧ D' ≠ aM ∧ D' ≠ aP ∧ D' ≠ L + 3 ∧ D' ≠ L + 2) ∧ (∀ a o, P a o → P' a o) ∧ Vec P' v' ys ∧ Ints ys ∧ ys.length ≤ 70 + 39 * (i + 1)
def tryBody : List Stmt := match forBody with
  | [_, _, _, _, .Try b _ _ _ _, _, _] => b
  | _ => []
def thenOf : List Stmt → List Stmt
  | [.If _ b _ _] => b
  | _ => []
def elseOf : List Stmt → List Stmt
  | [.If _ _ b _] => b
  | _ => []
section
variable {w : World} {mg mb : Str → Option Value} {s : Shared} {L fa i : Nat} {cd : Value} {P : Nat → Obj → Prop} {m : Str → Option Value} {D it aM aP c cM cP vv : Nat} {io o1 o2 o3 : Obj} {nb : Int} {tn tm : Tok} {xs : List Value} {ts : List (Nat × Nat × List Value)} {Q : Flow → Shared → Prop} {E : Value → Shared → Prop}
theorem brA (M : Mid w mg mb L P s.heap m D it aM aP c cM cP io o1 o2 o3 nb tn tm vv xs ts) (hi : i < 14) (Vv : Vec P vv xs) (Vi : Ints xs) (Vl : xs.length ≤ 70 + 39 * i) (hQ : ∀ s', Done w mg mb L i P it aM aP cM cP io o1 o2 ts s s' → Q .next s') :
    wpAny (model prog w) (AL L fa cd) (execs (thenOf tryBody) (envL L fa cd)) Q E s := by
  obtain ⟨F, d1, d2, d3, m1, m2, m3, nD⟩ := M
  obtain ⟨nD1, nD2, nD3, nD4, nD5, nD6⟩ := id nD
  change wpAny _ _ (execs (List.cons _ _) _) _ _ _
  obtain ⟨dd, rr, tt, q1, q2, q3, q4, q5, q6, hv, hV, _⟩ := id Vv
  have hvd := hV.dict
  repeat (walk_at "W")
  refine appendV F.G rfl (by have := depAL L fa cd; omega) F.keep Vv (by omega) (fun v' h2 tk2 sb2 V2 => ?_)
  have F2 := F.nw sb2
  have mo := F.nwMono sb2
  clear F
  repeat (walk_at "W")
  rename_i h3 F3
  refine appendL F3 (fun p hp => ?_) (by omega) (fun c' h4 F4 => ?_)
  · revert p; walk_at "apart"
  repeat (walk_at "W")
  refine hQ _ ⟨h4, _, _, _, D, xs ++ [.int nb tn], c', o3, v', rfl, F4, d3, by walk_at "nm", by walk_at "nm", by walk_at "nm", nD, mo, V2, ?_, by simp; omega⟩
  intro y hy
  rcases List.mem_append.mp hy with h | h
  · exact Vi y h
  · rw [List.mem_singleton.mp h]; exact ⟨_, _, rfl⟩
end
theorem iaddL {w : World} {mg mb : Str → Option Value} {P : Nat → Obj → Prop} {L l b n n2 : Nat} {m : Str → Option Value} {own : List (Nat × Obj)} {A : Around} {E Q : Value → Shared → Prop} {s : Shared} {xs ys : List Value} (F : Fm w mg mb P L s.heap m ((l, listObj xs n) :: own)) (hne : ∀ p ∈ own, p.1 ≠ l) (hb : s.heap.get? b = some (listObj ys n2)) (hz : xs.length + ys.length < 2 ^ 20)
    (h : ∀ c h', Fm w mg mb P L h' m ((l, listObj (xs ++ ys) c) :: own) → Q (.ref l) { s with heap := h' }) : wpAny (model prog w) A (inplaceOp .Add (.ref l) (.ref b)) Q E s := by
  have z := F.own _ (.head _)
  have ha := (isList_at z.1).typeIs (s := s)
  have hbT := (isList_at hb).typeIs (s := s)
  have hlk : typeLookup (.type "list") (dunderI "add") = pure (some (.builtin "list.__iadd__")) := PySem.F.slot_list_iadd.lookup
  have hfi : fillsInplaceSlot (.type "list") "add" (Operator.Add == .Add) = pure false := by
    unfold fillsInplaceSlot
    show (typeLookup (.type "list") (dunderI "add") >>= fun fi => pure (fi.isSome && !isSeqSlot fi)) = pure false
    rw [hlk, pure_bind]
    exact congrArg (pure : Bool → Sem Bool) (by decide +kernel)
  have hsi : seqSlot? (.type "list") (dunderI "add") = pure (some (.builtin "list.__iadd__")) := PySem.seqSlot_of hlk (by decide +kernel)
  unfold inplaceOp
  refine wpAny_holding ?_
  refine wpAny_bind (wpAny_typeOf ha (wpAny_bind (wpAny_of_eq hfi ?_)))
  show wpAny _ A (if false = true then _ else _) Q E s
  rw [if_neg Bool.false_ne_true]
  refine wpAny_bind (wpAny_binaryOp1_none (nm := "add") ha hbT noFill_list_add ?_)
  refine wpAny_bind (wpAny_of_eq hsi ?_)
  refine wpAny_bind (wpAny_rule ?_)
  refine call_meets PySem.F.slot_list_iadd ha PySem.F.entry_list_iadd (PySem.F.args_list_iadd_2 _ _) (PySem.AutoSeq1.list___iadd___list_list_0 l xs.toArray n b ys.toArray n2 ?_ (by rw [sizeLine_eq, List.size_toArray]; omega) (by rw [sizeLine_eq, List.size_toArray, List.size_toArray]; omega)) ⟨z.1, hb, ?_⟩
  · have : Builtin.List.listTooLong (xs.toArray.size + ys.toArray.size) = false := by
      unfold Builtin.List.listTooLong
      simp [sizeLine_eq]
      omega
    rw [this, Bool.and_false]; decide
  · refine h (if (xs ++ ys).length = xs.length then n else n + 1) _ (F.turn (Heap.SameBut.update ..) ?_ hne)
    refine (Heap.get?_update_self _ z.1 rfl).trans ?_
    simp [Obj.mapSeq]
section
variable {w : World} {mg mb : Str → Option Value} {s : Shared} {L fa i : Nat} {cd : Value} {P : Nat → Obj → Prop} {m : Str → Option Value} {D it aM aP c cM cP vv : Nat} {io o1 o2 o3 : Obj} {nb : Int} {tn tm : Tok} {xs : List Value} {ts : List (Nat × Nat × List Value)} {Q : Flow → Shared → Prop} {E : Value → Shared → Prop}
theorem brC (M : Mid w mg mb L P s.heap m D it aM aP c cM cP io o1 o2 o3 nb tn tm vv xs ts) (hi : i < 14) (n3 : it ≠ L + 3 ∧ aM ≠ L + 3 ∧ aP ≠ L + 3) (Vv : Vec P vv xs) (Vi : Ints xs) (Vl : xs.length ≤ 70 + 39 * i) (hQ : ∀ s', Done w mg mb L i P it aM aP cM cP io o1 o2 ts s s' → Q .next s') :
    wpAny (model prog w) (AL L fa cd) (execs (thenOf (elseOf (elseOf tryBody))) (envL L fa cd)) Q E s := by
  obtain ⟨F, d1, d2, d3, m1, m2, m3, nD⟩ := M
  obtain ⟨nD1, nD2, nD3, nD4, nD5, nD6⟩ := id nD
  obtain ⟨n31, n32, n33⟩ := id n3
  change wpAny _ _ (execs (List.cons _ _) _) _ _ _
  obtain ⟨dd, rr, tt, q1, q2, q3, q4, q5, q6, hv, hV, _⟩ := id Vv
  have hvd := hV.dict
  repeat (walk_at "W")
  refine asgCompR (w := w) (mg := mg) (mb := mb) (L := L) (cl := [("number", L + 1)]) (fun n y => ∃ t, y = .int (nb + n) t) rfl (by rfl) (by rfl) (by decide) rfl (by decide) (by rfl) (by rfl) (by rfl) rfl ?_
  repeat (walk_at "W")
  refine range1L F (fun rg h7 t7 u7 tk7 F7 l7 n7 => ?_)
  obtain ⟨q, hq, hq40⟩ : ∃ q : Nat, (nb.fdiv 97).fmod 40 = q ∧ q < 40 := ⟨((nb.fdiv 97).fmod 40).toNat, by have := fmod_lo (nb.fdiv 97) (n := 40) (by decide); omega, by have := fmod_hi (nb.fdiv 97) (n := 40) (by decide); omega⟩
  rw [hq] at F7
  refine ⟨_, _, _, rg, 0, q, 1, t7, _, u7, q, rfl, F7.tl, F7.ownAt (.head _), small_one (by omega) (by omega) (by omega) (by omega), by rw [rangeSize_one]; split <;> omega, by omega, ?_, ?_⟩
  · intro C' k tv s₂ m₂ E' hk hC' hn₂ hm₂ sb
    have Fc := F7.ofNs sb hC' hn₂
    rw [show (0 : Int) + (k : Nat) * 1 = k by omega] at hm₂ ⊢
    have hc1 : At h7 (L + 1) o1 := F7.ownAt (.tail _ (.tail _ (.tail _ (.head _))))
    repeat (walk_at "W")
    exact ⟨⟨_, rfl⟩, _, _, rfl, fun _ _ e => e⟩
  · intro T ys n h8 tk8 F8 k8 hD8 hys hT
    have hyi : Ints ys := fun y hy => by
      obtain ⟨i, hi⟩ := List.mem_iff_getElem?.mp hy
      obtain ⟨t, e⟩ := hT i y hi
      exact ⟨_, _, e⟩
    have pT : Add P T (listObj ys n) T (listObj ys n) := .inr ⟨rfl, rfl⟩
    have hv' : Add P T (listObj ys n) vv _ := .inl hv
    have hvd' : Add P T (listObj ys n) dd _ := .inl hvd
    repeat (walk_at "W")
    refine extendV F8.G rfl (by have := depAL L fa cd; omega) F8.keep (Vv.mono fun _ _ q => .inl q) (F8.get pT) (by omega) (fun v' h9 tk9 sb9 V9 => ?_)
    have F9 := F8.nw sb9
    have mo := F8.nwMono sb9
    clear F8
    repeat (walk_at "W")
    rename_i h10 F10
    clear F9
    refine wpAny_loadName_cell (by rfl) (by rfl) (by rfl) ⟨o3, F10.ownAt (.tail _ (.tail _ (.tail _ (.tail _ (.tail _ (.head _)))))), d3⟩ ?_
    repeat (walk_at "W")
    refine iaddL F10 (fun p hp => ?_) (F10.get (mo _ _ pT)) (by omega) (fun c' h11 F11 => ?_)
    · revert p; walk_at "apart"
    have F12 := F11.drop (own' := [(L + 3, o3), (D, listObj (xs ++ ys) c'), (it, io), (L + 1, o1), (aM, listObj (ts.map fun t => .ref t.1) cM), (aP, listObj (ts.map fun t => .ref t.2.1) cP), (L + 2, o2)]) (by walk_at "perm")
    clear F11 F10
    refine stC F12 (fun p hp => ?_) (by rfl) d3 (fun h13 o3' F13 d3' => ?_)
    · revert p; walk_at "apart"
    have F14 := F13.drop (own' := [(D, listObj (xs ++ ys) c'), (it, io), (L + 1, o1), (aM, listObj (ts.map fun t => .ref t.1) cM), (aP, listObj (ts.map fun t => .ref t.2.1) cP), (L + 3, o3'), (L + 2, o2)]) (by walk_at "perm")
    repeat (walk_at "W")
    refine hQ _ ⟨h13, _, _, _, D, xs ++ ys, c', o3', v', rfl, F14, d3', by walk_at "nm", by walk_at "nm", by walk_at "nm", nD, fun a o q => mo _ _ (.inl q), V9, ?_, by simp; omega⟩
    intro y hy
    rcases List.mem_append.mp hy with h | h
    · exact Vi y h
    · exact hyi y h
end
/-- a vector, sliced -/
theorem subSliceV {w : World} {mg mb : Str → Option Value} {P : Nat → Obj → Prop} {L v : Nat} {m : Str → Option Value} {own : List (Nat × Obj)} {A : Around} {E Q : Value → Shared → Prop} {s : Shared} {xs : List Value} {value : Expr} {lo up : Option Expr} {p : Pos} {ix : Value}
    (F : Fm w mg mb P L s.heap m own) (V : Vec (At s.heap) v xs) (h : wpAny (model prog w) A (call (.ref fGetitem) [.ref v, ix]) Q E s) : wpAny (model prog w) A (subscriptTail value (.Slice lo up none p) (.ref v) ix) Q E s := by
  obtain ⟨h₀, f, X₀⟩ := F.fr
  obtain ⟨o, I⟩ := V.inst
  have X := F.G.X
  have hf := kn_getFn' w.params
  unfold fnIn at hf
  split at hf
  · rename_i e
    unfold subscriptTail getitemInPython
    refine wpAny_bind (wpAny_bind (wpAny_bind (I.type.here ((looks_findIn X (kn_get _)).here ?_))))
    dsimp only
    refine wpAny_bind (wpAny_load (X _ _ e) (wpAny_pure ?_))
    dsimp only
    refine wpAny_bind ?_
    show wpAny _ A (operate [ix, .ref v] (getItem (.ref v) ix)) _ E s
    refine wpAny_operate' (wpAny_mono (getItem_K f X₀ I (kn_noSeq _) (kn_get _) (kn_getFn _) h) (fun r s' z => ?_) fun _ _ z => z)
    exact wpAny_bind (wpAny_letTemporaryGo (wpAny_pure z))
  · cases hf
section
variable {w : World} {mg mb : Str → Option Value} {s : Shared} {L fa i : Nat} {cd : Value} {P : Nat → Obj → Prop} {m : Str → Option Value} {D it aM aP c cM cP vv : Nat} {io o1 o2 o3 : Obj} {nb : Int} {tn tm : Tok} {xs : List Value} {ts : List (Nat × Nat × List Value)} {Q : Flow → Shared → Prop} {E : Value → Shared → Prop}
theorem brE (M : Mid w mg mb L P s.heap m D it aM aP c cM cP io o1 o2 o3 nb tn tm vv xs ts) (hi : i < 14) (n3 : it ≠ L + 3 ∧ aM ≠ L + 3 ∧ aP ≠ L + 3) (VE : Vec P aEmpty []) (Vv : Vec P vv xs) (Vi : Ints xs) (Vl : xs.length ≤ 70 + 39 * i) (hQ : ∀ s', Done w mg mb L i P it aM aP cM cP io o1 o2 ts s s' → Q .next s') :
    wpAny (model prog w) (AL L fa cd) (execs (elseOf (elseOf (elseOf (elseOf tryBody)))) (envL L fa cd)) Q E s := by
  obtain ⟨F, d1, d2, d3, m1, m2, m3, nD⟩ := M
  obtain ⟨nD1, nD2, nD3, nD4, nD5, nD6⟩ := id nD
  obtain ⟨n31, n32, n33⟩ := id n3
  change wpAny _ _ (execs (List.cons _ _) _) _ _ _
  refine wpAny_execs_cons ?_
  refine wpAny_Assign_Name ?_
  refine Subscript_ ?_
  repeat (walk_at "W")
  refine wpAny_Slice ?_
  repeat (walk_at "W")
  obtain ⟨qa, ha, ha5⟩ : ∃ q : Nat, (nb.fdiv 97).fmod 5 = q ∧ q < 5 := ⟨((nb.fdiv 97).fmod 5).toNat, by have := fmod_lo (nb.fdiv 97) (n := 5) (by decide); omega, by have := fmod_hi (nb.fdiv 97) (n := 5) (by decide); omega⟩
  obtain ⟨qb, hb, hb40⟩ : ∃ q : Nat, (nb.fdiv 97).fmod 40 = q ∧ q < 40 := ⟨((nb.fdiv 97).fmod 40).toNat, by have := fmod_lo (nb.fdiv 97) (n := 40) (by decide); omega, by have := fmod_hi (nb.fdiv 97) (n := 40) (by decide); omega⟩
  rw [ha, hb]
  have F1 := F.alloc (sliceObj qa (s.toks + 1) qb (s.toks + 1 + 1 + 1))
  clear F
  have F1' := F1.tl
  refine subSliceV F1' (Vv.mono F1'.keep) ?_
  refine getSliceV F1'.G rfl (by have := depAL L fa cd; omega) F1'.keep VE (Vv.mono F1'.keep) (by omega) (F1.ownAt (.head _)) (fun v' h2 tk2 sb2 V2 => ?_)
  have F2 := F1'.nw sb2
  have mo := F1'.nwMono sb2
  clear F1 F1'
  repeat (walk_at "W")
  rename_i h3 F3
  clear F2
  refine ⟨D, xs.toArray, _, _, rfl, isList_at (F3.ownAt (.head _)), by rw [sizeLine_eq, List.size_toArray]; omega, .int _ _, .int _ _, ?_⟩
  rw [ha, hb, pick_nat]
  obtain ⟨F4, l4, n4⟩ := F3.sliced (sliceObj qa (tk2 + 1 + 1) qb (tk2 + 1 + 1 + 1 + 1)) (listObj ((xs.drop qa).take (qb - qa)) 0)
  have a1 := n4 (it, io) (by simp)
  have a2 := n4 (L + 1, o1) (by simp)
  have a3 := n4 (aM, listObj (ts.map fun t => .ref t.1) cM) (by simp)
  have a4 := n4 (aP, listObj (ts.map fun t => .ref t.2.1) cP) (by simp)
  have a5 := n4 (L + 3, o3) (by simp)
  have a6 := n4 (L + 2, o2) (by simp)
  dsimp only at a1 a2 a3 a4 a5 a6
  generalize h3.objs.size + 1 = D5 at *
  have F5 := F4.drop (own' := [(L + 3, o3), (D5, listObj ((xs.drop qa).take (qb - qa)) 0), (it, io), (L + 1, o1), (aM, listObj (ts.map fun t => .ref t.1) cM), (aP, listObj (ts.map fun t => .ref t.2.1) cP), (L + 2, o2)]) (by walk_at "perm")
  clear F4 F3
  refine stC F5 (fun p hp => ?_) (by rfl) d3 (fun h6 o3' F6 d3' => ?_)
  · revert p; walk_at "apart"
  have F7 := F6.drop (own' := [(D5, listObj ((xs.drop qa).take (qb - qa)) 0), (it, io), (L + 1, o1), (aM, listObj (ts.map fun t => .ref t.1) cM), (aP, listObj (ts.map fun t => .ref t.2.1) cP), (L + 3, o3'), (L + 2, o2)]) (by walk_at "perm")
  repeat (walk_at "W")
  refine hQ _ ⟨h6, _, _, _, D5, _, 0, o3', v', rfl, F7, d3', by walk_at "nm", by walk_at "nm", by walk_at "nm", by omega, mo, V2, fun y hy => Vi y (List.mem_of_mem_drop (List.mem_of_mem_take hy)), by simp; omega⟩
end
theorem popL {w : World} {mg mb : Str → Option Value} {P : Nat → Obj → Prop} {L l n : Nat} {m : Str → Option Value} {own : List (Nat × Obj)} {A : Around} {E Q : Value → Shared → Prop} {s : Shared} {xs : List Value} {k : Nat} {t : Tok} (F : Fm w mg mb P L s.heap m ((l, listObj xs n) :: own)) (hne : ∀ p ∈ own, p.1 ≠ l) (hk : k < xs.length) (hz : xs.length < 2 ^ 20)
    (h : ∀ x c h', Fm w mg mb P L h' m ((l, listObj (xs.eraseIdx k) c) :: own) → Q x { s with heap := h' }) : wpAny (model prog w) A (call (.builtin "list.pop") [.ref l, .int k t]) Q E s := by
  have z := F.own _ (.head _)
  have hx : xs.toArray[k]? = some xs[k] := by simp [hk]
  have hi : seqIndex? (k : Int) xs.toArray.size = some k := by rw [seqIdx, if_pos (by simpa using hk)]
  have hf : Builtin.List.listFitsIndex (k : Int) = true := fitsIndex_both (by omega) (by omega)
  generalize (k : Int) = kk at hi hf ⊢
  refine call_meets PySem.F.slot_list_pop (isList_at z.1).typeIs PySem.F.entry_list_pop (PySem.F.args_list_pop_2 _ _) (PySem.MeetsSeq.list_pop_at l xs.toArray n kk t k xs[k] hf hi hx (by rw [sizeLine_eq, List.size_toArray]; omega)) ⟨z.1, ?_⟩
  refine h _ (n + 1) _ (F.turn (Heap.SameBut.update ..) ?_ hne)
  refine (Heap.get?_update_self _ z.1 rfl).trans ?_
  rw [mapSeq_erase _ _ _ (by simpa using hk)]
section
variable {w : World} {mg mb : Str → Option Value} {s : Shared} {L fa i : Nat} {cd : Value} {P : Nat → Obj → Prop} {m : Str → Option Value} {D it aM aP c cM cP vv : Nat} {io o1 o2 o3 : Obj} {nb : Int} {tn tm : Tok} {xs : List Value} {ts : List (Nat × Nat × List Value)} {Q : Flow → Shared → Prop} {E : Value → Shared → Prop}
theorem brD (M : Mid w mg mb L P s.heap m D it aM aP c cM cP io o1 o2 o3 nb tn tm vv xs ts) (hi : i < 14) (VE : Vec P aEmpty []) (Vv : Vec P vv xs) (Vi : Ints xs) (Vl : xs.length ≤ 70 + 39 * i) (hQ : ∀ s', Done w mg mb L i P it aM aP cM cP io o1 o2 ts s s' → Q .next s')
    (hE : (xs.length : Int) ≤ (nb.fdiv 97).fmod ((xs.length : Int) + 2) → ∀ e h2 m2 h' tk', Mid w mg mb L P h2 m2 D it aM aP c cM cP io o1 o2 o3 nb tn tm vv xs ts → Thrown (envL L fa cd) L h2 e "IndexError" h' → E (.ref e) { s with heap := h', toks := tk' }) :
    wpAny (model prog w) (AL L fa cd) (execs (thenOf (elseOf (elseOf (elseOf tryBody)))) (envL L fa cd)) Q E s := by
  obtain ⟨F, d1, d2, d3, m1, m2, m3, nD⟩ := M
  obtain ⟨nD1, nD2, nD3, nD4, nD5, nD6⟩ := id nD
  change wpAny _ _ (execs (List.cons _ _) _) _ _ _
  obtain ⟨dd, rr, tt, q1, q2, q3, q4, q5, q6, hv, hV, _⟩ := id Vv
  have hvd := hV.dict
  repeat (walk_at "W")
  rename_i h2 F2
  clear F
  obtain ⟨q, hq, hq2⟩ : ∃ q : Nat, (nb.fdiv 97).fmod ((xs.length : Int) + 2) = q ∧ q < 2 ^ 20 := ⟨((nb.fdiv 97).fmod ((xs.length : Int) + 2)).toNat, by have := fmod_lo (nb.fdiv 97) (n := (xs.length : Int) + 2) (by omega); omega, by have := fmod_hi (nb.fdiv 97) (n := (xs.length : Int) + 2) (by omega); omega⟩
  rw [hq] at F2 hE ⊢
  obtain ⟨oo, es, ep, hoo, hod, _⟩ := F2.ns
  refine delV F2.G rfl (by have := depAL L fa cd; omega) F2.keep VE (Vv.mono F2.keep) (by omega) (by omega) (Around.frames_deeper rfl) rfl (show lawRec.scope.kind ≠ ScopeKind.module by decide +kernel) hoo (fun vs z => by rw [hod] at z; cases z) (fun hlt v' h4 tk4 sb4 V4 => ?_) (fun hge e h' tk' T => hE (by omega) e h2 _ h' tk' ⟨F2, d1, d2, d3, by walk_at "nm", by walk_at "nm", by walk_at "nm", nD⟩ T)
  have F4 := F2.nw sb4
  have mo := F2.nwMono sb4
  clear F2
  repeat (walk_at "W")
  rename_i h5 F5
  refine gm_list (F5.ownAt (.head _)) PySem.F.slot_list_pop PySem.F.type_list_pop ?_
  repeat (walk_at "W")
  refine popL F5 (fun p hp => ?_) hlt (by omega) (fun x c' h6 F6 => ?_)
  · revert p; walk_at "apart"
  repeat (walk_at "W")
  exact hQ _ ⟨h6, _, _, _, D, xs.eraseIdx q, c', o3, v', rfl, F6, d3, by walk_at "nm", by walk_at "nm", by walk_at "nm", nD, mo, V4, fun y hy => Vi y (List.mem_of_mem_eraseIdx hy), by have := List.length_eraseIdx_le xs q; omega⟩
end
theorem setLI {w : World} {mg mb : Str → Option Value} {P : Nat → Obj → Prop} {L l n : Nat} {m : Str → Option Value} {own : List (Nat × Obj)} {A : Around} {E : Value → Shared → Prop} {s : Shared} {xs : List Value} {k : Int} {t : Tok} {v : Value} {Q : Unit → Shared → Prop} (F : Fm w mg mb P L s.heap m ((l, listObj xs n) :: own)) (hne : ∀ p ∈ own, p.1 ≠ l) (h0 : -(xs.length : Int) ≤ k) (hk : k < xs.length) (hz : xs.length < 2 ^ 20)
    (h : ∀ c h', Fm w mg mb P L h' m ((l, listObj (xs.set (if k < 0 then k + xs.length else k).toNat v) c) :: own) → Q () { s with heap := h' }) : wpAny (model prog w) A (setItem (.ref l) (.int k t) v) Q E s := by
  have z := F.own _ (.head _)
  have fin : ∀ j, (s.heap.update l (Obj.mapSeq (·.setIfInBounds j v))).get? l = some (listObj (xs.set j v) n) := fun j => by
    refine (Heap.get?_update_self _ z.1 rfl).trans ?_
    simp [Obj.mapSeq]
  by_cases hi : k < 0
  · refine ki_setBack (items := xs.toArray) (n := n) z.1 hi (by rw [List.size_toArray]; omega) (by omega) ?_
    rw [List.size_toArray]
    rw [if_pos hi] at h
    exact h n _ (F.turn (Heap.SameBut.update ..) (fin _) hne)
  · refine ki_setAt (items := xs.toArray) (n := n) z.1 (by omega) (by omega) (by rw [List.size_toArray]; omega) ?_
    rw [if_neg hi] at h
    exact h n _ (F.turn (Heap.SameBut.update ..) (fin _) hne)
section
variable {w : World} {mg mb : Str → Option Value} {s : Shared} {L fa i : Nat} {cd : Value} {P : Nat → Obj → Prop} {m : Str → Option Value} {D it aM aP c cM cP vv : Nat} {io o1 o2 o3 : Obj} {nb : Int} {tn tm : Tok} {xs : List Value} {ts : List (Nat × Nat × List Value)} {Q : Flow → Shared → Prop} {E : Value → Shared → Prop}
theorem brB (M : Mid w mg mb L P s.heap m D it aM aP c cM cP io o1 o2 o3 nb tn tm vv xs ts) (hi : i < 14) (Vv : Vec P vv xs) (Vi : Ints xs) (Vl : xs.length ≤ 70 + 39 * i) (hQ : ∀ s', Done w mg mb L i P it aM aP cM cP io o1 o2 ts s s' → Q .next s')
    (hE : ∀ pl : Int, pl = (nb.fdiv 97).fmod (2 * (xs.length : Int) + 4) - xs.length - 2 → (pl < -(xs.length : Int) ∨ (xs.length : Int) < pl) → ∀ e h2 m2 h' tk', Mid w mg mb L P h2 m2 D it aM aP c cM cP io o1 o2 o3 nb tn tm vv xs ts → Thrown (envL L fa cd) L h2 e "IndexError" h' → E (.ref e) { s with heap := h', toks := tk' }) :
    wpAny (model prog w) (AL L fa cd) (execs (thenOf (elseOf tryBody)) (envL L fa cd)) Q E s := by
  obtain ⟨F, d1, d2, d3, m1, m2, m3, nD⟩ := M
  obtain ⟨nD1, nD2, nD3, nD4, nD5, nD6⟩ := id nD
  change wpAny _ _ (execs (List.cons _ _) _) _ _ _
  obtain ⟨dd, rr, tt, q1, q2, q3, q4, q5, q6, hv, hV, _⟩ := id Vv
  have hvd := hV.dict
  repeat (walk_at "W")
  rename_i h2 F2
  clear F
  have b1 := fmod_lo (nb.fdiv 97) (n := 2 * (xs.length : Int) + 4) (by omega)
  have b2 := fmod_hi (nb.fdiv 97) (n := 2 * (xs.length : Int) + 4) (by omega)
  have hE' := hE _ rfl
  clear hE
  generalize hpl : (nb.fdiv 97).fmod (2 * (xs.length : Int) + 4) - xs.length - 2 = pl at F2 hE' ⊢
  have out : (pl < -(xs.length : Int) ∨ (xs.length : Int) < pl) → ∀ {m3 : Str → Option Value} {h3 : Heap} {tk3 : Nat} {tp : Tok} {Q' : Value → Shared → Prop}, Fm w mg mb P L h3 m3 [(D, listObj xs c), (it, io), (L + 1, o1), (aM, listObj (ts.map fun t => .ref t.1) cM), (aP, listObj (ts.map fun t => .ref t.2.1) cP), (L + 3, o3), (L + 2, o2)] → m3 "made" = some (.ref aM) → m3 "plain" = some (.ref aP) → m3 "more" = some (.int (nb.fdiv 97) tm) →
      wpAny (model prog w) (AL L fa cd) (call (.ref fSet) [.ref vv, .int pl tp, .int nb tn]) Q' E { s with heap := h3, toks := tk3 } := by
    intro ho m3 h3 tk3 tp Q' F3 e1 e2 e3
    obtain ⟨oo, es, ep, hoo, hod, _⟩ := F3.ns
    exact setOut F3.G rfl (by have := depAL L fa cd; omega) (Vv.mono F3.keep) (by omega) (by omega) ho (Around.frames_deeper rfl) rfl (show lawRec.scope.kind ≠ ScopeKind.module by decide +kernel) hoo (fun vs z => by rw [hod] at z; cases z) (fun e h' tk' T => hE' ho e h3 m3 h' tk' ⟨F3, d1, d2, d3, e1, e2, e3, nD⟩ T)
  by_cases h1 : -(xs.length : Int) ≤ pl
  · refine ite_pos (by simpa using h1) ?_
    repeat (walk_at "W")
    rename_i h4 F4
    clear F2
    by_cases h2' : pl ≤ (xs.length : Int)
    · by_cases h3 : pl = (xs.length : Int)
      · subst h3
        refine setEnd F4.G rfl (by have := depAL L fa cd; omega) F4.keep Vv (by omega) (fun v' h5 tk5 sb5 V5 => ?_)
        have F5 := F4.nw sb5
        have mo := F4.nwMono sb5
        clear F4
        repeat (walk_at "W")
        refine ite_neg (by simp) ?_
        repeat (walk_at "W")
        refine ite_pos (by simp) ?_
        repeat (walk_at "W")
        rename_i h6 F6
        refine appendL F6 (fun p hp => ?_) (by omega) (fun c' h7 F7 => ?_)
        · revert p; walk_at "apart"
        repeat (walk_at "W")
        refine hQ _ ⟨h7, _, _, _, D, xs ++ [.int nb tn], c', o3, v', rfl, F7, d3, by walk_at "nm", by walk_at "nm", by walk_at "nm", nD, mo, V5, ?_, by simp; omega⟩
        intro y hy
        rcases List.mem_append.mp hy with h | h
        · exact Vi y h
        · rw [List.mem_singleton.mp h]; exact ⟨_, _, rfl⟩
      · refine setV F4.G rfl (by have := depAL L fa cd; omega) F4.keep Vv (by omega) h1 (by omega) (fun v' h5 tk5 sb5 V5 => ?_)
        have F5 := F4.nw sb5
        have mo := F4.nwMono sb5
        clear F4
        repeat (walk_at "W")
        refine ite_neg (by simpa using h2') ?_
        repeat (walk_at "W")
        refine ite_neg (by simpa using h3) ?_
        repeat (walk_at "W")
        rename_i h6 F6
        refine setLI F6 (fun p hp => ?_) h1 (by omega) (by omega) (fun c' h7 F7 => ?_)
        · revert p; walk_at "apart"
        repeat (walk_at "W")
        refine hQ _ ⟨h7, _, _, _, D, _, c', o3, v', rfl, F7, d3, by walk_at "nm", by walk_at "nm", by walk_at "nm", nD, mo, V5, ?_, by simp; omega⟩
        intro y hy
        rcases List.mem_or_eq_of_mem_set hy with h | h
        · exact Vi y h
        · rw [h]; exact ⟨_, _, rfl⟩
    · exact out (by omega) F4 (by walk_at "nm") (by walk_at "nm") (by walk_at "nm")
  · refine ite_neg (by simpa using h1) ?_
    repeat (walk_at "W")
    rename_i h4 F4
    exact out (by omega) F4 (by walk_at "nm") (by walk_at "nm") (by walk_at "nm")
end
theorem in23 {w : World} {A : Around} {E Q : Value → Shared → Prop} {s : Shared} {l n : Nat} {t2 t3 t : Tok} {k : Int} (hl : s.heap.get? l = some (listObj [.int 2 t2, .int 3 t3] n)) (h : Q (.bool (decide (k = 2 ∨ k = 3))) s) : wpAny (model prog w) A (compareOp .In (.int k t) (.ref l)) Q E s := by
  refine PySem.SeqRoads2.in_list (items := #[.int 2 t2, .int 3 t3]) (n := n) (fun y => match y with | .int i _ => i == k | _ => false) (fun y hy => ?_) hl ?_
  · have hy' : y = .int 2 t2 ∨ y = .int 3 t3 := by simpa using hy
    rcases hy' with rfl | rfl
    · exact PySem.MeetsSeq.EqGives.int _ _ _ _
    · exact PySem.MeetsSeq.EqGives.int _ _ _ _
  · have e : ((#[.int 2 t2, .int 3 t3] : Array Value).any fun y => match y with | .int i _ => i == k | _ => false) = decide (k = 2 ∨ k = 3) := by
      rw [← Array.any_toList]
      simp only [List.any_cons, List.any_nil, Bool.or_false]
      rw [Bool.eq_iff_iff]
      simp
      omega
    rw [e]
    exact h
def handlers : List ExceptHandler := match forBody with
  | [_, _, _, _, .Try _ hs _ _ _, _, _] => hs
  | _ => []
section
variable {w : World} {mg mb : Str → Option Value} {s : Shared} {L fa i : Nat} {cd : Value} {P : Nat → Obj → Prop} {m : Str → Option Value} {h : Heap} {D it aM aP c cM cP vv e : Nat} {io o1 o2 o3 : Obj} {nb : Int} {tn tm : Tok} {xs : List Value} {ts : List (Nat × Nat × List Value)} {Q : Flow → Shared → Prop} {E : Value → Shared → Prop}
theorem handler (M : Mid w mg mb L P h m D it aM aP c cM cP io o1 o2 o3 nb tn tm vv xs ts) (Vl : xs.length < 1056) (T : Thrown (envL L fa cd) L h e "IndexError" s.heap)
    (hk : ((nb.fmod 7 = 2 ∨ nb.fmod 7 = 3) ∧ ((nb.fdiv 97).fmod (2 * (xs.length : Int) + 4) - xs.length - 2 < -(xs.length : Int) ∨ (xs.length : Int) < (nb.fdiv 97).fmod (2 * (xs.length : Int) + 4) - xs.length - 2)) ∨ (nb.fmod 7 = 5 ∧ (xs.length : Int) ≤ (nb.fdiv 97).fmod ((xs.length : Int) + 2)))
    (hQ : ∀ h' tk' m', Fm w mg mb P L h' m' [(D, listObj xs c), (it, io), (L + 1, o1), (aM, listObj (ts.map fun t => .ref t.1) cM), (aP, listObj (ts.map fun t => .ref t.2.1) cP), (L + 3, o3), (L + 2, o2)] → m' "made" = some (.ref aM) → m' "plain" = some (.ref aP) → Q .cont { s with heap := h', toks := tk' }) :
    wpAny (model prog w) (AL L fa cd) (noteFrame (.ref e) (envL L fa cd)) (fun _ s₂ => wpAny (model prog w) (AL L fa cd) (setFlight (.ref e) none) (fun _ s₃ => wpAny (model prog w) (AL L fa cd) (handleBy (.ref e) (envL L fa cd) handlers) Q E s₃) E s₂) E s := by
  obtain ⟨F, d1, d2, d3, m1, m2, m3, nD⟩ := M
  refine noteX F (Around.frames_deeper rfl) rfl T (fun base h'' kb fl F2 => ?_)
  change wpAny _ _ (handleBy _ _ (List.cons (ExceptHandler.ExceptHandler (some _) none (List.cons _ _) _) _)) _ _ _
  refine wpAny_handleBy_builtin (X := "IndexError") (T := "IndexError") (b := true) PySem.F.isExc_IndexError PySem.F.notTuple_IndexError PySem.F.self_IndexError ?_
  obtain ⟨f1, f2, f3, oe, vs, T', oT, tts, he, hcls, hfl⟩ := id fl
  repeat (walk_at "W")
  refine ⟨rfl, ⟨oe, he, hcls⟩, ?_⟩
  rw [if_pos rfl]
  refine setFlightX F2 kb F fl (fun h3 F3 => ?_)
  clear F2 F
  repeat (walk_at "W")
  rename_i h4 F4 l5 h5 F5 lt5 ne5
  clear F3 F4
  refine in23 (F5.ownAt (.head _)) ?_
  repeat (walk_at "W")
  rcases hk with ⟨h7, hp⟩ | ⟨h7, hp⟩
  · refine ite_pos (by simpa using h7) ?_
    repeat (walk_at "W")
    generalize (nb.fdiv 97).fmod (2 * (xs.length : Int) + 4) - xs.length - 2 = pl at F5 hp ⊢
    by_cases h1 : -(xs.length : Int) ≤ pl
    · refine ite_pos (by simpa using h1) ?_
      repeat (walk_at "W")
      refine ite_pos (by simp; omega) ?_
      repeat (walk_at "W")
      refine ite_pos (by decide) ?_
      refine wpAny_execs_cons (wpAny_Continue ?_)
      exact hQ _ _ _ F5.tl (by walk_at "nm") (by walk_at "nm")
    · refine ite_neg (by simpa using h1) ?_
      repeat (walk_at "W")
      refine ite_pos (by decide) ?_
      repeat (walk_at "W")
      refine ite_pos (by decide) ?_
      refine wpAny_execs_cons (wpAny_Continue ?_)
      exact hQ _ _ _ F5.tl (by walk_at "nm") (by walk_at "nm")
  · refine ite_neg (by rw [h7]; decide) ?_
    repeat (walk_at "W")
    refine ite_neg (by decide) ?_
    repeat (walk_at "W")
    refine ite_pos (by rw [h7]; decide) ?_
    repeat (walk_at "W")
    refine ite_pos (by simpa using hp) ?_
    repeat (walk_at "W")
    refine ite_pos (by decide) ?_
    refine wpAny_execs_cons (wpAny_Continue ?_)
    exact hQ _ _ _ F5.tl (by walk_at "nm") (by walk_at "nm")
end
theorem deed {w : World} {mg mb : Str → Option Value} {hb : Heap} {s : Shared} {L fa : Nat} {cd : Value} {i : Nat} {nb : Int} {tn : Tok} {P : Nat → Obj → Prop} {m : Str → Option Value} {own : List (Nat × Obj)} {it : Nat} {io o1 : Obj} {R : Value → Shared → Prop} {E : Value → Shared → Prop}
    (hi : i < 14) (sr : hb.NoSeer) (hP : ∀ a o, At hb a o → P a o) (VE : Vec P aEmpty []) (J : LJ L i P m own) (h1i : L + 1 ≠ it) (hoi : ∀ p ∈ own, p.1 ≠ it) (ho1 : ∀ p ∈ own, p.1 ≠ L + 1) (d1 : o1.data = .cell (some (.int nb tn)))
    (F : Fm w mg mb P L s.heap m ((it, io) :: (L + 1, o1) :: own)) :
    wpAny (model prog w) (AL L fa cd) (execs forBody (envL L fa cd)) (fun f s' => match f with
      | .next | .cont => Turned w mg mb L i P it io s s'
      | .brk => False
      | .ret v => R v s') E s := by
  obtain ⟨ts, aM, aP, cM, cP, o3, o2, v3, v2, rfl, d3, d2, n1, n2, n3, n4, n5, m1, m2, V, htl⟩ := J
  have nI : it ≠ L + 1 ∧ it ≠ L + 2 ∧ it ≠ L + 3 := ⟨h1i.symm, (hoi (L + 2, o2) (by simp)).symm, (hoi (L + 3, o3) (by simp)).symm⟩
  have nM : aM ≠ it ∧ aM ≠ L + 1 ∧ aM ≠ aP ∧ aM ≠ L + 3 ∧ aM ≠ L + 2 := ⟨hoi (aM, listObj (ts.map fun t => .ref t.1) cM) (by simp), ho1 (aM, listObj (ts.map fun t => .ref t.1) cM) (by simp), n1, n2, n3⟩
  have nP : aP ≠ it ∧ aP ≠ L + 1 ∧ aP ≠ L + 3 ∧ aP ≠ L + 2 := ⟨hoi (aP, listObj (ts.map fun t => .ref t.2.1) cP) (by simp), ho1 (aP, listObj (ts.map fun t => .ref t.2.1) cP) (by simp), n4, n5⟩
  obtain ⟨nI1, nI2, nI3⟩ := id nI
  obtain ⟨nM1, nM2, nM3, nM4, nM5⟩ := id nM
  obtain ⟨nP1, nP2, nP3, nP4⟩ := id nP
  change wpAny _ _ (execs (List.cons _ _) _) _ _ _
  have hlM : (ts.map fun t => Value.ref t.1).length = ts.length := by simp
  have hts := V.some
  have hlP : (ts.map fun t => Value.ref t.2.1).length = ts.length := by simp
  repeat (walk_at "W")
  rename_i h2 F2
  clear F
  obtain ⟨q, hq, hql⟩ : ∃ q : Nat, (nb.fdiv 7).fmod ((ts.map fun t => Value.ref t.1).length : Nat) = q ∧ q < ts.length := by
    have a := fmod_lo (nb.fdiv 7) (n := ((ts.map fun t => Value.ref t.1).length : Nat)) (by omega)
    have b := fmod_hi (nb.fdiv 7) (n := ((ts.map fun t => Value.ref t.1).length : Nat)) (by omega)
    exact ⟨((nb.fdiv 7).fmod ((ts.map fun t => Value.ref t.1).length : Nat)).toNat, by omega, by omega⟩
  rw [hq] at F2 ⊢
  obtain ⟨⟨vv, rr, xs⟩, hte⟩ : ∃ t, ts[q] = t := ⟨_, rfl⟩
  have hmem : (vv, rr, xs) ∈ ts := hte ▸ List.getElem_mem hql
  obtain ⟨Vv, ⟨nr, Vr⟩, Vi, Vl⟩ := V.all _ hmem
  dsimp only at Vv Vr Vi Vl
  refine itemL (F2.ownAt (.tail _ (.tail _ (.head _)))) (by omega) (x := .ref vv) (by rw [List.getElem?_map, List.getElem?_eq_getElem hql, hte]; rfl) ?_
  have F3 := F2.drop (own' := [(L + 2, o2), (it, io), (L + 1, o1), (aM, listObj (ts.map fun t => .ref t.1) cM), (aP, listObj (ts.map fun t => .ref t.2.1) cP), (L + 3, o3)]) (by walk_at "perm")
  clear F2
  refine stC F3 (fun p hp => ?_) (by rfl) d2 (fun h4 o2' F4 d2' => ?_)
  · revert p; walk_at "apart"
  clear F3
  repeat (walk_at "W")
  refine itemL (F4.ownAt (.tail _ (.tail _ (.tail _ (.tail _ (.head _)))))) (by omega) (x := .ref rr) (by rw [List.getElem?_map, List.getElem?_eq_getElem hql, hte]; rfl) ?_
  repeat (walk_at "W")
  refine ⟨rr, xs.toArray, _, _, rfl, isList_at (F4.get Vr), by rw [sizeLine_eq, List.size_toArray]; omega, .none, .none, ?_⟩
  rw [pick_all]
  obtain ⟨F5, l5, n5'⟩ := F4.sliced { cls := .type "slice", data := .fields #[.none, .none, .none] } (listObj xs 0)
  generalize hD : h4.objs.size + 1 = D at F5 l5 n5'
  have e1 := n5' (L + 2, o2') (by simp)
  have e2 := n5' (it, io) (by simp)
  have e3 := n5' (L + 1, o1) (by simp)
  have e4 := n5' (aM, listObj (ts.map fun t => .ref t.1) cM) (by simp)
  have e5 := n5' (aP, listObj (ts.map fun t => .ref t.2.1) cP) (by simp)
  have e6 := n5' (L + 3, o3) (by simp)
  dsimp only at e1 e2 e3 e4 e5 e6
  have F6 := F5.drop (own' := [(L + 3, o3), (D, listObj xs 0), (it, io), (L + 1, o1), (aM, listObj (ts.map fun t => .ref t.1) cM), (aP, listObj (ts.map fun t => .ref t.2.1) cP), (L + 2, o2')]) (by walk_at "perm")
  clear F5
  refine stC F6 (fun p hp => ?_) (by rfl) d3 (fun h7 o3' F7 d3' => ?_)
  · revert p; walk_at "apart"
  clear F6
  have F8 := F7.drop (own' := [(D, listObj xs 0), (it, io), (L + 1, o1), (aM, listObj (ts.map fun t => .ref t.1) cM), (aP, listObj (ts.map fun t => .ref t.2.1) cP), (L + 3, o3'), (L + 2, o2')]) (by walk_at "perm")
  clear F7
  repeat (walk_at "W")
  rename_i h9 F9
  clear F8
  have nD : D ≠ it ∧ D ≠ L + 1 ∧ D ≠ aM ∧ D ≠ aP ∧ D ≠ L + 3 ∧ D ≠ L + 2 := ⟨e2.symm, e3.symm, e4.symm, e5.symm, e6.symm, e1.symm⟩
  refine wpAny_Try_except ?_
  generalize hs9 : ({ heap := h9, gens := s.gens, drawn := s.drawn, toks := _, os := s.os } : Shared) = s9
  obtain ⟨tm, m9, M9⟩ : ∃ tm m9, Mid w mg mb L P s9.heap m9 D it aM aP 0 cM cP io o1 o2' o3' nb tn tm vv xs ts := by
    rw [← hs9]
    exact ⟨_, _, F9, d1, d2', d3', by walk_at "nm", by walk_at "nm", by walk_at "nm", nD⟩
  have fin : ∀ s', Done w mg mb L i P it aM aP cM cP io o1 o2' ts s9 s' → wpAny (model prog w) (AL L fa cd) (execs tailStmts (envL L fa cd)) (fun f s' => match f with
      | .next | .cont => Turned w mg mb L i P it io s s'
      | .brk => False
      | .ret v => R v s') E s' := by
    rintro s' ⟨h', tk', P', m', D', ys, c', o3'', v', rfl, F', d3'', mm1, mm2, mm3, nD', mo, Vv', Vi', Vl'⟩
    refine tailD (s := { s9 with heap := h', toks := tk' }) hi F' d1 d2' d3'' mm1 mm2 mm3 nD' nM nP nI (V.mono mo (by omega)) htl Vv' Vi' Vl' ?_
    rintro s'' ⟨h2, tk2, P2, m2', own2, o12, v12, rfl, F2, z1, z2, z3, z4, z5⟩
    refine ⟨h2, tk2, P2, m2', own2, o12, v12, by rw [← hs9], F2, z1, z2, z3, fun a o q => z4 _ _ (mo _ _ q), z5⟩
  have exc : ∀ e h2 m2 h' tk', Mid w mg mb L P h2 m2 D it aM aP 0 cM cP io o1 o2' o3' nb tn tm vv xs ts → Thrown (envL L fa cd) L h2 e "IndexError" h' →
      (((nb.fmod 7 = 2 ∨ nb.fmod 7 = 3) ∧ ((nb.fdiv 97).fmod (2 * (xs.length : Int) + 4) - xs.length - 2 < -(xs.length : Int) ∨ (xs.length : Int) < (nb.fdiv 97).fmod (2 * (xs.length : Int) + 4) - xs.length - 2)) ∨ (nb.fmod 7 = 5 ∧ (xs.length : Int) ≤ (nb.fdiv 97).fmod ((xs.length : Int) + 2))) →
      wpAny (model prog w) (AL L fa cd) (noteFrame (.ref e) (envL L fa cd)) (fun _ s₂ => wpAny (model prog w) (AL L fa cd) (setFlight (.ref e) none) (fun _ s₃ => wpAny (model prog w) (AL L fa cd) (handleBy (.ref e) (envL L fa cd) handlers) (fun f s' =>
            match f with
            | .next => wpAny (model prog w) (AL L fa cd) (execs tailStmts (envL L fa cd)) (fun f s' => match f with
                | .next | .cont => Turned w mg mb L i P it io s s'
                | .brk => False
                | .ret v => R v s') E s'
            | f => (fun f s' => match f with
                | .next | .cont => Turned w mg mb L i P it io s s'
                | .brk => False
                | .ret v => R v s') f s') E s₃) E s₂) E { s9 with heap := h', toks := tk' } := by
    intro e h2 m2 h' tk' M2 T hk
    refine handler (s := { s9 with heap := h', toks := tk' }) M2 (by omega) T hk (fun h3 tk3 m3 F3 mm1 mm2 => ?_)
    refine ⟨h3, tk3, P, m3, [(aM, listObj (ts.map fun t => .ref t.1) cM), (aP, listObj (ts.map fun t => .ref t.2.1) cP), (L + 3, o3'), (L + 2, o2')], o1, _, by rw [← hs9], F3.tl, ?_, ?_, d1, fun _ _ q => q, ts, aM, aP, cM, cP, o3', o2', _, _, rfl, d3', d2', n1, n2, n3, n4, n5, mm1, mm2, V.mono (fun _ _ q => q) (by omega), by omega⟩
    · walk_at "apart"
    · walk_at "apart"
  clear F4 F9
  obtain ⟨F, _, _, _, _, _, _, _⟩ := id M9
  repeat (walk_at "W")
  have r0 := fmod_lo nb (n := 7) (by decide)
  have r1 := fmod_hi nb (n := 7) (by decide)
  by_cases c0 : nb.fmod 7 = 0
  · refine ite_pos (by rw [c0]; rfl) ?_
    refine ite_pos rfl ?_
    change wpAny _ _ (execs (thenOf tryBody) (envL L fa cd)) _ _ _
    refine brA M9 hi Vv Vi Vl (fun s' hD => ?_)
    refine wpAny_execs_nil (wpAny_execs_nil ?_)
    exact fin s' hD
  refine ite_neg (by simpa using c0) ?_
  repeat (walk_at "W")
  by_cases c1 : nb.fmod 7 = 1
  · refine ite_pos (by rw [c1]; rfl) ?_
    repeat (walk_at "W")
    refine ite_pos rfl ?_
    change wpAny _ _ (execs (thenOf tryBody) (envL L fa cd)) _ _ _
    refine brA M9 hi Vv Vi Vl (fun s' hD => ?_)
    refine wpAny_execs_nil (wpAny_execs_nil ?_)
    exact fin s' hD
  refine ite_neg (by simpa using c1) ?_
  repeat (walk_at "W")
  refine ite_neg (by decide) ?_
  repeat (walk_at "W")
  by_cases c2 : nb.fmod 7 = 2
  · refine ite_pos (by rw [c2]; rfl) ?_
    refine ite_pos rfl ?_
    change wpAny _ _ (execs (thenOf (elseOf tryBody)) (envL L fa cd)) _ _ _
    refine brB M9 hi Vv Vi Vl (fun s' hD => ?_) (fun pl hpl ho e h2 m2 h' tk' M T => exc e h2 m2 h' tk' M T (.inl ⟨.inl c2, hpl ▸ ho⟩))
    refine wpAny_execs_nil (wpAny_execs_nil (wpAny_execs_nil ?_))
    exact fin s' hD
  refine ite_neg (by simpa using c2) ?_
  repeat (walk_at "W")
  by_cases c3 : nb.fmod 7 = 3
  · refine ite_pos (by rw [c3]; rfl) ?_
    repeat (walk_at "W")
    refine ite_pos rfl ?_
    change wpAny _ _ (execs (thenOf (elseOf tryBody)) (envL L fa cd)) _ _ _
    refine brB M9 hi Vv Vi Vl (fun s' hD => ?_) (fun pl hpl ho e h2 m2 h' tk' M T => exc e h2 m2 h' tk' M T (.inl ⟨.inr c3, hpl ▸ ho⟩))
    refine wpAny_execs_nil (wpAny_execs_nil (wpAny_execs_nil ?_))
    exact fin s' hD
  refine ite_neg (by simpa using c3) ?_
  repeat (walk_at "W")
  refine ite_neg (by decide) ?_
  repeat (walk_at "W")
  by_cases c4 : nb.fmod 7 = 4
  · refine ite_pos (by rw [c4]; rfl) ?_
    change wpAny _ _ (execs (thenOf (elseOf (elseOf tryBody))) (envL L fa cd)) _ _ _
    refine brC M9 hi ⟨nI.2.2, n2, n4⟩ Vv Vi Vl (fun s' hD => ?_)
    refine wpAny_execs_nil (wpAny_execs_nil (wpAny_execs_nil (wpAny_execs_nil ?_)))
    exact fin s' hD
  refine ite_neg (by simpa using c4) ?_
  repeat (walk_at "W")
  by_cases c5 : nb.fmod 7 = 5
  · refine ite_pos (by rw [c5]; rfl) ?_
    change wpAny _ _ (execs (thenOf (elseOf (elseOf (elseOf tryBody)))) (envL L fa cd)) _ _ _
    refine brD M9 hi VE Vv Vi Vl (fun s' hD => ?_) (fun ho e h2 m2 h' tk' M T => exc e h2 m2 h' tk' M T (.inr ⟨c5, ho⟩))
    refine wpAny_execs_nil (wpAny_execs_nil (wpAny_execs_nil (wpAny_execs_nil (wpAny_execs_nil ?_))))
    exact fin s' hD
  refine ite_neg (by simpa using c5) ?_
  change wpAny _ _ (execs (elseOf (elseOf (elseOf (elseOf tryBody)))) (envL L fa cd)) _ _ _
  refine brE M9 hi ⟨nI.2.2, n2, n4⟩ VE Vv Vi Vl (fun s' hD => ?_)
  refine wpAny_execs_nil (wpAny_execs_nil (wpAny_execs_nil (wpAny_execs_nil (wpAny_execs_nil ?_))))
  exact fin s' hD
theorem Fm.weak {w : World} {mg mb : Str → Option Value} {P P' : Nat → Obj → Prop} {L : Nat} {h : Heap} {m : Str → Option Value} {own : List (Nat × Obj)} (F : Fm w mg mb P L h m own) (k : ∀ a o, P' a o → P a o) : Fm w mg mb P' L h m own :=
  ⟨F.G, F.ns, F.lo, fun a o q => F.off a o (k a o q), fun a o q => F.keep a o (k _ _ q), fun p hp => let ⟨a1, a2, a3, a4⟩ := F.own p hp; ⟨a1, a2, a3, fun o' q => a4 o' (k _ _ q)⟩⟩
theorem itemLI {w : World} {A : Around} {E Q : Value → Shared → Prop} {s : Shared} {xs : List Value} {n l : Nat} {value slice : PySem.Expr} {k : Int} {t : Tok} {x : Value} (hl : s.heap.get? l = some (listObj xs n)) (hz : xs.length < 2 ^ 30) (h0 : -(xs.length : Int) ≤ k) (h1 : k < xs.length) (hx : xs[(if k < 0 then k + xs.length else k).toNat]? = some x) (h : Q x s)
    (hs : subscripted slice false (.ref l) (.int k t) = operate [.ref l, .int k t] (getItem (.ref l) (.int k t)) := by rfl) : wpAny (model prog w) A (subscriptTail value slice (.ref l) (.int k t)) Q E s := by
  by_cases hi : k < 0
  · rw [if_pos hi] at hx
    exact tail_any (isList_at hl).typeIs slot_list_getitem.lookup (wpAny_getItem_list_neg (isList_at hl) hi (by rw [List.size_toArray]; omega) (by omega) (by rw [List.size_toArray]; simpa using hx) h) hs
  · rw [if_neg hi] at hx
    exact tail_any (isList_at hl).typeIs slot_list_getitem.lookup (wpAny_getItem_list (isList_at hl) (by omega) (by omega) (by simpa using hx) h) hs
theorem subV {w : World} {mg mb : Str → Option Value} {P : Nat → Obj → Prop} {L : Nat} {m : Str → Option Value} {own : List (Nat × Obj)} {A : Around} {s : Shared} {Q E : Value → Shared → Prop} {v : Nat} {xs : List Value} {i : Int} {ti : Tok} {x : Value} {value slice : PySem.Expr}
    (F : Fm w mg mb P L s.heap m own) (hA : A.handled = none) (hd : A.depth + 1 < recursionLimit) (V : Vec (At s.heap) v xs) (hz : xs.length < 1056) (h0 : -(xs.length : Int) ≤ i) (h1 : i < xs.length) (hx : xs[(if i < 0 then i + xs.length else i).toNat]? = some x)
    (ret : ∀ h' tk', Sub s.heap h' → Q x { s with heap := h', toks := tk' })
    (hsl : subscripted slice true (.ref v) (.int i ti) = runValue (.builtin "lifetime.subscript" ⟨[.ref v, .int i ti], []⟩) := by with_unfolding_all rfl) :
    wpAny (model prog w) A (subscriptTail value slice (.ref v) (.int i ti)) Q E s := by
  obtain ⟨h₀, f, X⟩ := F.fr
  obtain ⟨o, I⟩ := V.inst
  exact sub_K f X I (kn_get _) (kn_getFn' _) (kn_getFn _) (getV F.G hA hd V hz h0 h1 hx ret) hsl
theorem size5 (n : Nat) (hn : n < 1056) : ∃ k : Nat, Builtin.Range.rangeSize (-(n : Int)) n 5 = k ∧ k < 1056 ∧ ∀ i : Nat, i < k → -(n : Int) ≤ -(n : Int) + i * 5 ∧ -(n : Int) + i * 5 < n := by
  unfold Builtin.Range.rangeSize
  rw [if_pos (by decide)]
  by_cases h : -(n : Int) < n
  · rw [if_pos h]
    refine ⟨((n : Int) - -(n : Int) - 1).toNat / 5 + 1, by omega, by omega, fun i hi => ⟨by omega, by omega⟩⟩
  · rw [if_neg h]
    exact ⟨0, rfl, by decide, fun i hi => by omega⟩
theorem small5 (n : Nat) (hn : n < 1056) : Builtin.Range.small (-(n : Int)) n 5 = true := by
  obtain ⟨k, hk, hk2, _⟩ := size5 n hn
  unfold Builtin.Range.small
  rw [hk]
  have f : ∀ x : Int, -3000 < x → x < 3000 → Builtin.Range.rangeFitsLong x = true := fun x a b => by
    unfold Builtin.Range.rangeFitsLong
    simp
    omega
  rw [f _ (by omega) (by omega), f _ (by omega) (by omega), f 5 (by omega) (by omega), f _ (by omega) (by omega), if_pos (by decide), f _ (by omega) (by omega)]
  simp
theorem unAL (L fa : Nat) (cd : Value) : (AL L fa cd).units + 64 < cLine := of_decide_eq_true (by with_unfolding_all rfl)
def zipBody : List Stmt := match lawRec.body with
  | [_, _, _, _, _, .For _ _ b _ _, _] => b
  | _ => []
theorem turnZ {w : World} {mg mb : Str → Option Value} {s : Shared} {L fa : Nat} {cd : Value} {P : Nat → Obj → Prop} {m : Str → Option Value} {own : List (Nat × Obj)} {o2 o3 : Obj} {v r : Nat} {xs : List Value} {Q : Flow → Shared → Prop} {E : Value → Shared → Prop}
    (F : Fm w mg mb P L s.heap m ((L + 3, o3) :: (L + 2, o2) :: own)) (d3 : o3.data = .cell (some (.ref r))) (d2 : o2.data = .cell (some (.ref v))) (V : Vec P v xs) (R : PL P r xs) (I : Ints xs) (hz : xs.length < 1056)
    (hQ : ∀ h' tk', Fm w mg mb P L h' m ((L + 3, o3) :: (L + 2, o2) :: own) → Q .next { s with heap := h', toks := tk' }) :
    wpAny (model prog w) (AL L fa cd) (execs zipBody (envL L fa cd)) Q E s := by
  obtain ⟨nr, hr⟩ := R
  obtain ⟨ns, hI⟩ := I.are
  obtain ⟨dd, rr, tt, q1, q2, q3, q4, q5, q6, hv, hV, _⟩ := id V
  have hvd := hV.dict
  have dep := depAL L fa cd
  change wpAny _ _ (execs (List.cons _ _) _) _ _ _
  repeat (walk_at "W")
  refine lenV F (by omega) (V.mono F.keep) (by omega) (fun tc h2 tk2 sb2 => ?_)
  have F2 := F.kept sb2
  repeat (walk_at "W")
  refine ne_int ?_
  repeat (walk_at "W")
  refine ite_neg (by simp) ?_
  repeat (walk_at "W")
  refine tolistV F2.G rfl (by omega) (V.mono F2.keep) (by omega) (fun D c h3 tk3 sb3 hD lD => ?_)
  have F3 := F2.kept sb3
  repeat (walk_at "W")
  refine ne_intsK (isList_at hD) hI (isList_at (F3.get hr)) hI (unAL L fa cd) ?_
  repeat (walk_at "W")
  refine ite_neg (by simp) ?_
  repeat (walk_at "W")
  refine ite_neg (by decide) ?_
  repeat (walk_at "W")
  obtain ⟨k, hk, hk2, hk3⟩ := size5 xs.length hz
  refine compR (cl := [("vector", L + 2)]) (fun n y => xs[(if n < 0 then n + xs.length else n).toNat]? = some y) rfl (by rfl) (by decide) rfl (by decide) (by rfl) ?_
  repeat (walk_at "W")
  refine range3L F3 (by decide) (PyProof.noPylong_of_log2 (by decide +kernel)) (fun rg h4 F4 l4 n4 => ?_)
  refine ⟨rg, _, _, _, _, _, _, k, rfl, F4.ownAt (.head _), small5 _ hz, hk, by omega, ?_, ?_⟩
  · intro C' i tv s₂ m₂ E' hi hC' hn₂ hm₂ sb
    have Fc := F4.ofNs sb hC' hn₂
    have c2 : At h4 (L + 2) o2 := F4.ownAt (.tail _ (.tail _ (.head _)))
    repeat (walk_at "W")
    obtain ⟨b1, b2⟩ := hk3 i hi
    generalize -(xs.length : Int) + (i : Nat) * 5 = pl at b1 b2 ⊢
    have hlt : (if pl < 0 then pl + (xs.length : Int) else pl).toNat < xs.length := by split <;> omega
    refine subV Fc rfl (by omega) (V.mono fun a o q => sb _ _ (F4.keep _ _ q)) hz b1 b2 (List.getElem?_eq_getElem hlt) (fun h' tk' sb' => ⟨List.getElem?_eq_getElem hlt, _, _, rfl, sb'⟩)
  · intro D5 ys n5 h5 tk5 sb5 hD5n hD5 hys hT
    have F5 := F4.tl.known sb5 hD5 hD5n
    have hr5 : Add P D5 (listObj ys n5) r (listObj xs nr) := .inl hr
    refine compR (cl := [("row", L + 3)]) (fun n y => xs[(if n < 0 then n + xs.length else n).toNat]? = some y) rfl (by rfl) (by decide) rfl (by decide) (by rfl) ?_
    repeat (walk_at "W")
    refine range3L F5 (by decide) (PyProof.noPylong_of_log2 (by decide +kernel)) (fun rg h6 F6 l6 n6 => ?_)
    refine ⟨rg, _, _, _, _, _, _, k, rfl, F6.ownAt (.head _), small5 _ hz, hk, by omega, ?_, ?_⟩
    · intro C' i tv s₂ m₂ E' hi hC' hn₂ hm₂ sb
      have Fc := F6.ofNs sb hC' hn₂
      have c3 : At h6 (L + 3) o3 := F6.ownAt (.tail _ (.head _))
      repeat (walk_at "W")
      obtain ⟨b1, b2⟩ := hk3 i hi
      generalize -(xs.length : Int) + (i : Nat) * 5 = pl at b1 b2 ⊢
      have hlt : (if pl < 0 then pl + (xs.length : Int) else pl).toNat < xs.length := by split <;> omega
      refine itemLI (sb _ _ (F6.get hr5)) (by omega) b1 b2 (List.getElem?_eq_getElem hlt) ⟨List.getElem?_eq_getElem hlt, _, _, rfl, fun _ _ q => q⟩
    · intro D7 zs n7 h7 tk7 sb7 hD7n hD7 hzs hT7
      have F7 := F6.tl.kept sb7
      have e : ys = zs := by
        apply List.ext_getElem?
        intro j
        by_cases hj : j < k
        · have y1 := hT j _ (List.getElem?_eq_getElem (by omega))
          have y2 := hT7 j _ (List.getElem?_eq_getElem (by omega))
          rw [y1] at y2
          rw [List.getElem?_eq_getElem (by omega), List.getElem?_eq_getElem (by omega)]
          exact y2
        · rw [List.getElem?_eq_none (by omega), List.getElem?_eq_none (by omega)]
      subst e
      have Iy : Ints ys := fun y hy => by
        obtain ⟨j, hj⟩ := List.mem_iff_getElem?.mp hy
        exact I y (List.mem_of_getElem? (hT j y hj))
      obtain ⟨ms, hM⟩ := Iy.are
      refine ne_intsK (isList_at (F7.get (.inr ⟨rfl, rfl⟩))) hM (isList_at hD7) hM (unAL L fa cd) ?_
      repeat (walk_at "W")
      refine ite_neg (by simp) ?_
      repeat (walk_at "W")
      exact hQ _ _ (F7.weak fun _ _ q => .inl q)
abbrev zipObj (TI TO : Nat) : Obj := { cls := .type "zip", dict := none, data := .fields #[.none, .bool false, .bool false, .ref TI, .ref TO], slots := #[] }
abbrev pairObj (a b : Value) : Obj := { cls := .type "tuple", data := .seq #[a, b] }
theorem zipLoop {w : World} {mg mb : Str → Option Value} {s : Shared} {L fa : Nat} {cd : Value} {P : Nat → Obj → Prop} {m : Str → Option Value} {o2 o3 : Obj} {v2 v3 : Option Value} {aM aP cM cP B kx : Nat} {p1 p2 p3 : Pos} {ts : List (Nat × Nat × List Value)} {R : Result → Shared → Prop} {E : Value → Shared → Prop}
    (F : Fm w mg mb P L s.heap m [(L + 3, o3), (L + 2, o2)]) (d3 : o3.data = .cell v3) (d2 : o2.data = .cell v2) (hM : P aM (listObj (ts.map fun t => .ref t.1) cM)) (hPl : P aP (listObj (ts.map fun t => .ref t.2.1) cP)) (V : Vers P B ts) (hB : B < 1056)
    (done : ∀ h' tk' m', Fm w mg mb P L h' m' [] → R (.ok .next) { s with heap := h', toks := tk' }) :
    wpAny (model prog w) (AL L fa cd) (call (.type "zip") [.ref aM, .ref aP]) (fun xv s₁ => wpAny (model prog w) (AL L fa cd) (pyIter xv) (fun it s₂ => codeAny (model prog w) (AL L fa cd) (.forLoop (.Tuple [.Name "vector" p1, .Name "row" p2] kx p3) it zipBody [] (envL L fa cd)) R s₂) E s₁) E s := by
  have lM : aM < s.heap.objs.size := ltS (F.get hM)
  have lP : aP < s.heap.objs.size := ltS (F.get hPl)
  have l2 : L + 2 < s.heap.objs.size := ltS (F.ownAt (.tail _ (.head _)))
  have l3 : L + 3 < s.heap.objs.size := ltS (F.ownAt (.head _))
  refine call_zip_2 (isList_at (F.get hM)) (isList_at (F.get hPl)) fun h₁ hz hTI hTO hi1 hi2 hsz hk => ?_
  refine wpAny_pyIter_zip hz ?_
  have D := ktu_apart s.heap.objs.size aM aP lM lP
  obtain ⟨io1, hio1, c1, e1⟩ := hi1
  obtain ⟨io2, hio2, c2, e2⟩ := hi2
  generalize hN : s.heap.objs.size = N at *
  have F1 := F.after (own' := [(N + 4, zipObj (N + 2) (N + 3)), (N + 3, pairObj .none .none), (N, io1), (N + 1, io2), (N + 2, pairObj (.ref N) (.ref (N + 1))), (L + 3, o3), (L + 2, o2)]) (fun b o _ e => hk b o e) (after1 ⟨hz, .inr (by omega)⟩ (after1 ⟨hTO, .inr (by omega)⟩ (after1 ⟨hio1, .inr (by omega)⟩ (after1 ⟨hio2, .inr (by omega)⟩ (after1 ⟨hTI, .inr (by omega)⟩ (after1 ⟨hk _ _ (F.ownAt (.head _)), .inl (by walk_at "mem")⟩ (after1 ⟨hk _ _ (F.ownAt (.tail _ (.head _))), .inl (by walk_at "mem")⟩ after0)))))))
  clear hz hTI hTO hk F
  refine codeAny_forLoop_any (fun n s' => ∃ h tk m' o3' o2' v3' v2' a b io1 io2 i, s' = { s with heap := h, toks := tk } ∧ Fm w mg mb P L h m' [(N + 4, zipObj (N + 2) (N + 3)), (N + 3, pairObj a b), (N, io1), (N + 1, io2), (N + 2, pairObj (.ref N) (.ref (N + 1))), (L + 3, o3'), (L + 2, o2')] ∧
      o3'.data = .cell v3' ∧ o2'.data = .cell v2' ∧ h.IsListIter N aM i ∧ h.IsListIter (N + 1) aP i ∧ i ≤ ts.length ∧ n = ts.length + 1 - i) ?_ (ts.length + 1)
    ⟨h₁, s.toks, m, o3, o2, v3, v2, .none, .none, io1, io2, 0, rfl, F1, d3, d2, ⟨_, hio1, c1, e1⟩, ⟨_, hio2, c2, e2⟩, Nat.zero_le _, rfl⟩
  clear F1 d3 d2 hio1 hio2 c1 e1 c2 e2
  rintro n s' ⟨h, tk, m', o3', o2', v3', v2', a, b, io1, io2, i, rfl, F, d3, d2, hi1, hi2, hi, rfl⟩
  by_cases hlt : i < ts.length
  · obtain ⟨⟨vv, rr, xs⟩, hte⟩ : ∃ t, ts[i] = t := ⟨_, rfl⟩
    have hmem : (vv, rr, xs) ∈ ts := hte ▸ List.getElem_mem hlt
    obtain ⟨Vv, Vr, Vi, Vl⟩ := V.all _ hmem
    dsimp only at Vv Vr Vi Vl
    refine wpAny_pyNext_zip_item D (F.ownAt (.head _)) (F.ownAt (by walk_at "mem")) (F.ownAt (by walk_at "mem")) hi1 hi2 (isList_at (F.get hM)) (isList_at (F.get hPl)) (x := .ref vv) (y := .ref rr) (by simp [hlt, hte]) (by simp [hlt, hte]) fun h₂ z1 z2 z3 z4 z5 z6 z7 => ?_
    show wpAny _ _ (letOwnedTupleGo _ _ _) _ _ _
    have lN : N + 4 < h.objs.size := ltS (F.ownAt (.head _))
    refine wpAny_letOwnedTupleGo_zip z1 fun h₃ y1 hs₃ => ?_
    have y2 : h₃.get? (N + 3) = some (pairObj (.ref vv) (.ref rr)) := hs₃.extBut _ _ (by show (N + 3 : Nat) ≠ N + 4; omega) z2
    obtain ⟨io1', hio1, c1, e1⟩ := z3
    obtain ⟨io2', hio2, c2, e2⟩ := z4
    have up : ∀ (c : Nat) o, c ≠ N + 4 → c ≠ N + 3 → c ≠ N → c ≠ N + 1 → h.get? c = some o → h₃.get? c = some o := fun c o q1 q2 q3 q4 e => hs₃.extBut _ _ q1 (z7 c o q1 q2 q3 q4 e)
    have F3 := F.after (own' := [(L + 2, o2'), (N + 4, zipObj (N + 2) (N + 3)), (N + 3, pairObj (.ref vv) (.ref rr)), (N, io1'), (N + 1, io2'), (N + 2, pairObj (.ref N) (.ref (N + 1))), (L + 3, o3')]) (fun b o hb e => up b o (fun q => hb (by simp [q])) (fun q => hb (by simp [q])) (fun q => hb (by simp [q])) (fun q => hb (by simp [q])) e)
      (after1 ⟨up _ _ (by omega) (by omega) (by omega) (by omega) (F.ownAt (by walk_at "mem")), .inl (by walk_at "mem")⟩ (after1 ⟨y1, .inl (by walk_at "mem")⟩ (after1 ⟨y2, .inl (by walk_at "mem")⟩ (after1 ⟨hs₃.extBut _ _ (by show (N : Nat) ≠ N + 4; omega) hio1, .inl (by walk_at "mem")⟩ (after1 ⟨hs₃.extBut _ _ (by show (N + 1 : Nat) ≠ N + 4; omega) hio2, .inl (by walk_at "mem")⟩
      (after1 ⟨up _ _ (by omega) (by omega) (by omega) (by omega) (F.ownAt (by walk_at "mem")), .inl (by walk_at "mem")⟩ (after1 ⟨up _ _ (by omega) (by omega) (by omega) (by omega) (F.ownAt (by walk_at "mem")), .inl (by walk_at "mem")⟩ after0)))))))
    have hT : h₃.get? h.objs.size = some (pairObj (.ref vv) (.ref rr)) := hs₃.extBut _ _ (Nat.ne_of_gt lN) z5
    clear F
    refine assign2 F3 rfl hT rfl (fun h₄ F4 sb4 => ?_)
    clear F3
    refine assignN (stC F4 (fun p hp => ?_) (by rfl) d2 (fun h₅ o2'' F5 d2' => ?_))
    · revert p; walk_at "apart"
    clear F4
    have F6 := F5.drop (own' := [(L + 3, o3'), (L + 2, o2''), (N + 4, zipObj (N + 2) (N + 3)), (N + 3, pairObj (.ref vv) (.ref rr)), (N, io1'), (N + 1, io2'), (N + 2, pairObj (.ref N) (.ref (N + 1)))]) (by walk_at "perm")
    clear F5
    refine assignN (stC F6 (fun p hp => ?_) (by rfl) d3 (fun h₇ o3'' F7 d3' => ?_))
    · revert p; walk_at "apart"
    clear F6
    refine turnZ F7 d3' d2' Vv Vr Vi (by omega) (fun h₈ tk₈ F8 => ?_)
    have F9 := F8.drop (own' := [(N + 4, zipObj (N + 2) (N + 3)), (N + 3, pairObj (.ref vv) (.ref rr)), (N, io1'), (N + 1, io2'), (N + 2, pairObj (.ref N) (.ref (N + 1))), (L + 3, o3''), (L + 2, o2'')]) (by walk_at "perm")
    refine ⟨ts.length + 1 - (i + 1), by omega, h₈, tk₈, m', o3'', o2'', _, _, _, _, io1', io2', i + 1, rfl, F9, d3', d2', ⟨_, F8.ownAt (by walk_at "mem"), c1, e1⟩, ⟨_, F8.ownAt (by walk_at "mem"), c2, e2⟩, hlt, rfl⟩
  · have hsz : i = ts.length := by omega
    refine wpAny_pyNext_zip_end rfl D (F.ownAt (.head _)) (F.ownAt (by walk_at "mem")) (F.ownAt (by walk_at "mem")) hi1 hi2 (isList_at (F.get hM)) (isList_at (F.get hPl)) (.inl (by simp [hsz])) fun h₂ hk => wpAny_execs_nil ?_
    exact done _ _ _ (F.after (own' := []) (fun b o hb e => hk b o (fun q => hb (by simp [q])) (fun q => hb (by simp [q])) (fun q => hb (by simp [q])) (fun q => hb (by simp [q])) e) (fun p hp => nomatch hp))
theorem intsOf : ∀ {xs : List Value} {ns : List Int}, IntsAre xs ns → Ints xs
  | _, _, .nil => fun _ h => nomatch h
  | _, _, .cons n t r => fun y hy => by
    rcases List.mem_cons.mp hy with rfl | hy
    · exact ⟨_, _, rfl⟩
    · exact intsOf r y hy
theorem lawMain {w : World} {mg mb : Str → Option Value} {hb : Heap} {s : Shared} {L fa a : Nat} {cd : Value} {vs : List Value} {ns : List Int} {o1 o2 o3 : Obj} {m : Str → Option Value} {Q : Flow → Shared → Prop} {E : Value → Shared → Prop}
    (F : Fm w mg mb (At hb) L s.heap m [(L + 3, o3), (L + 2, o2), (L + 1, o1)]) (sr : hb.NoSeer) (X : (K w.params).In hb) (hm : m "script" = some (.ref a)) (d3 : o3.data = .cell none) (d2 : o2.data = .cell none) (d1 : o1.data = .cell none)
    (hl : hb.IsList a vs.toArray) (hI : IntsAre vs ns) (hn : ns.length ≤ 63)
    (ret : ∀ h' tk', Sub hb h' → Q (.ret (.bool true)) { s with heap := h', toks := tk' }) :
    wpAny (model prog w) (AL L fa cd) (execs lawRec.body (envL L fa cd)) Q E s := by
  have hP : ∀ a o, At hb a o → At hb a o := fun _ _ h => h
  have hlen := hI.length
  change wpAny _ _ (execs (List.cons _ _) _) _ _ _
  repeat (walk_at "W")
  rename_i l2 h2 F2 lt2 ne2
  refine Calls.call_len_list (hl.at fun o e => F2.keep _ _ e) (by simp; omega) ?_
  rw [List.size_toArray]
  repeat (walk_at "W")
  refine ⟨l2, [.int 33 s.toks].toArray, _, _, rfl, isList_at (F2.ownAt (.head _)), by rw [sizeLine_eq]; simp, .int _ _, .none, ?_⟩
  rw [pick_from]
  obtain ⟨F3, l3, n3⟩ := F2.sliced { cls := .type "slice", data := .fields #[.int vs.length (s.toks + 1 + 1), .none, .none] } (listObj (List.drop vs.length [.int 33 s.toks]) 0)
  refine addL F3 (hl.at fun o e => F3.keep _ _ e) (isList_at (F3.ownAt (.head _))) (by simp; omega) (fun D4 h4 F4 l4 n4 => ?_)
  clear F2 F3
  obtain ⟨ks, hks⟩ : ∃ ks, IntsAre (vs ++ List.drop vs.length [.int 33 s.toks]) ks := by
    rcases vs with _ | ⟨v, vs⟩
    · exact ⟨[33], .cons _ _ .nil⟩
    · exact ⟨ns, by simpa using hI⟩
  have hnl : 1 ≤ (vs ++ List.drop vs.length [Value.int 33 s.toks]).length := by simp; omega
  have hnu : (vs ++ List.drop vs.length [Value.int 33 s.toks]).length ≤ 63 := by simp; omega
  generalize vs ++ List.drop vs.length [Value.int 33 s.toks] = nums at *
  have F5 := (F4.drop (own' := [(D4, listObj nums 0), (L + 3, o3), (L + 2, o2), (L + 1, o1)]) (by walk_at "perm")).freeze (apartSub n4 (by walk_at "perm"))
  clear F4
  repeat (walk_at "W")
  rename_i h6 F6
  clear F5
  obtain ⟨k0, t0, hk0⟩ : ∃ k t, nums[0]? = some (.int k t) := by
    rcases nums with _ | ⟨x, nums⟩
    · simp at hnl
    · cases hks with | cons n t _ => exact ⟨n, t, rfl⟩
  refine asgCompR (w := w) (mg := mg) (mb := mb) (L := L) (cl := []) (fun n y => ∃ t, y = .int (7 * n) t) rfl (by rfl) (by rfl) (by decide) rfl (by decide) (by rfl) (by rfl) (by rfl) rfl ?_
  have hD4 : Add (At hb) D4 (listObj nums 0) D4 (listObj nums 0) := .inr ⟨rfl, rfl⟩
  repeat (walk_at "W")
  refine itemL (k := 0) (F6.get hD4) (by omega) hk0 ?_
  repeat (walk_at "W")
  refine range1L F6 (fun rg h7 t7 u7 tk7 F7 l7 n7 => ?_)
  obtain ⟨q, hq, hq71⟩ : ∃ q : Nat, k0.fmod 71 = q ∧ q < 71 := ⟨(k0.fmod 71).toNat, by have := fmod_lo k0 (n := 71) (by decide); omega, by have := fmod_hi k0 (n := 71) (by decide); omega⟩
  rw [hq] at F7
  refine ⟨_, _, _, rg, 0, q, 1, t7, _, u7, q, rfl, F7.tl, F7.ownAt (.head _), small_one (by omega) (by omega) (by omega) (by omega), by rw [rangeSize_one]; split <;> omega, by omega, ?_, ?_⟩
  · intro C' i tv s₂ m₂ E' hi hC' hn₂ hm₂ sb
    have Fc := F7.ofNs sb hC' hn₂
    rw [show (0 : Int) + (i : Nat) * 1 = i by omega] at hm₂ ⊢
    repeat (walk_at "W")
    exact mul_int ⟨⟨_, rfl⟩, _, _, rfl, fun _ _ e => e⟩ (.of_left (by decide))
  · intro D ys n h8 tk8 F8 k8 hD8 hys hT
    have hyi : Ints ys := fun y hy => by
      obtain ⟨i, hi⟩ := List.mem_iff_getElem?.mp hy
      obtain ⟨t, e⟩ := hT i y hi
      exact ⟨_, _, e⟩
    have pD : Add (Add (At hb) D4 (listObj nums 0)) D (listObj ys n) D (listObj ys n) := .inr ⟨rfl, rfl⟩
    repeat (walk_at "W")
    have VE := (emptyX X).mono (P' := Add (Add (At hb) D4 (listObj nums 0)) D (listObj ys n)) (fun _ _ q => .inl (.inl q))
    refine pvectorV F8.G rfl (by have := depAL L fa cd; omega) F8.keep VE (F8.get pD) (by omega) (fun v9 h9 tk9 sb9 V9 => ?_)
    have F9 := F8.nw sb9
    have mo := F8.nwMono sb9
    clear F8
    repeat (walk_at "W")
    rename_i l10 h10 F10 lt10 ne10 h11 F11 l12 h12 F12 lt12 ne12 h13 F13
    clear F9 F10 F11 F12
    have hD9 := mo _ _ (.inl hD4)
    refine ⟨D4, nums.toArray, _, _, rfl, isList_at (F13.get hD9), by rw [sizeLine_eq, List.size_toArray]; omega, .int _ _, .int _ _, ?_⟩
    rw [show (1 : Int) = ((1 : Nat) : Int) from rfl, show (15 : Int) = ((15 : Nat) : Int) from rfl, pick_nat]
    have hits : ∀ v ∈ (nums.drop 1).take (15 - 1), ∃ k t, v = .int k t := fun v hv => by
      have hv' : v ∈ nums := List.mem_of_mem_drop (List.mem_of_mem_take hv)
      exact (intsOf hks) v hv'
    have hitl : ((nums.drop 1).take (15 - 1)).length ≤ 14 := by rw [List.length_take]; omega
    obtain ⟨F14, l14, n14⟩ := F13.sliced { cls := .type "slice", data := .fields #[.int ((1 : Nat) : Int) (tk9 + 1 + 1), .int ((15 : Nat) : Int) (tk9 + 1 + 1 + 1), .none] } (listObj ((nums.drop 1).take (15 - 1)) 0)
    generalize (nums.drop 1).take (15 - 1) = its at *
    generalize hl15 : h13.objs.size + 1 = l15 at F14 l14 n14
    have F15 := F14.freeze n14
    clear F14 F13
    have F16 := F15.drop (own' := [(L + 1, o1), (l10, listObj [.ref v9] 0), (l12, listObj [.ref D] 0), (L + 3, o3), (L + 2, o2)]) (by walk_at "perm")
    clear F15
    have mo16 : ∀ a o, At hb a o → Add (Nw (Add (Add (At hb) D4 (listObj nums 0)) D (listObj ys n)) h8 h9) l15 (listObj its 0) a o := fun a o q => .inl (mo _ _ (.inl (.inl q)))
    have VE16 := (emptyX X).mono mo16
    have w1 := ne10 (L + 3, o3) (by simp)
    have w2 := ne10 (L + 2, o2) (by simp)
    have w3 := ne10 (L + 1, o1) (by simp)
    have w4 := ne12 (l10, listObj [.ref v9] 0) (by simp)
    have w5 := ne12 (L + 3, o3) (by simp)
    have w6 := ne12 (L + 2, o2) (by simp)
    have w7 := ne12 (L + 1, o1) (by simp)
    dsimp only at w1 w2 w3 w4 w5 w6 w7
    refine iterC (c := L + 1) (items := its) (n := 0) F16 d1 ?_ rfl (.inr ⟨rfl, rfl⟩) (LJ L) ?_ ?_ ?_
    · walk_at "apart"
    · refine ⟨[(v9, D, ys)], l10, l12, 0, 0, o3, o2, _, _, rfl, d3, d2, by omega, by omega, by omega, by omega, by omega, by walk_at "nm", by walk_at "nm", ⟨by simp, fun t ht => ?_⟩, by simp⟩
      rw [List.mem_singleton.mp ht]
      exact ⟨V9.mono fun _ _ q => .inl q, ⟨n, .inl (mo _ _ pD)⟩, hyi, by dsimp only; omega⟩
    · intro E' i v P' m' own' it io oc' h tk hv hmo hJ hci hni hnc hd F'
      obtain ⟨k, t, rfl⟩ := hits v (List.mem_of_getElem? hv)
      have hi : i < 14 := by have := (List.getElem?_eq_some_iff.mp hv).1; omega
      exact deed (s := { s with heap := h, toks := tk }) hi sr (fun a o q => hmo _ _ (mo16 _ _ q)) (VE16.mono hmo) hJ hci hni hnc hd F'
    · rintro h17 tk17 P17 m17 own17 oc17 v17 F17 d17 hne17 mo17 ⟨ts, aM, aP, cM, cP, o3', o2', v3, v2, rfl, d3', d2', n1, n2, n3, n4, n5, m1, m2, V, htl⟩
      have F18 := (F17.drop (own' := [(aM, listObj (ts.map fun t => .ref t.1) cM), (aP, listObj (ts.map fun t => .ref t.2.1) cP), (L + 3, o3'), (L + 2, o2')]) (by walk_at "perm")).freeze (by walk_at "apart")
      have F19 := F18.freeze (by walk_at "apart")
      clear F18 F17
      show wpAny _ _ (execs _ _) _ _ _
      repeat (walk_at "W")
      refine zipLoop (B := 70 + 39 * its.length) F19 d3' d2' (.inl (.inr ⟨rfl, rfl⟩)) (.inr ⟨rfl, rfl⟩) (V.mono (fun _ _ q => .inl (.inl q)) (Nat.le_refl _)) (by omega) (fun h20 tk20 m20 F20 => ?_)
      show wpAny _ _ (execs _ _) _ _ _
      repeat (walk_at "W")
      exact Constant_bool (ret _ _ fun a o q => F20.keep _ _ (.inl (.inl (mo17 _ _ (mo16 _ _ q)))))
theorem goodPost {args : List WData} : row.claim.post args (.bool true) args = true := by
  show (WShape.has [] (.bool true) .bool && (WTm.eq .res (.lit (.bool true))).holds [] { args := args, res := some (.bool true), after := args }) = true
  have e : (WTm.eq .res (.lit (.bool true))).value [] { args := args, res := some (.bool true), after := args } = some (.bool (same (.bool true) (.bool true))) := w_eq (by simp [WTm.value]) (by simp [WTm.value])
  have e2 : (WTm.eq .res (.lit (.bool true))).holds [] { args := args, res := some (.bool true), after := args } = true := by
    unfold WTm.holds
    rw [e, show same (WData.bool true) (WData.bool true) = true from by first | decide +kernel | kernel_rfl!]
  rw [e2]
  rfl
theorem goodTrue {cl : Str → Option Addr} {mean : ExcName → Option Value} {args : List WData} {s₁ s' : Shared} (hk : ∀ b o, s₁.heap.get? b = some o → s'.heap.get? b = some o) (hos : s'.os = s₁.os) (hg : s'.gens = #[]) : GoodW row.claim cl mean args s₁ (.ok (.ret (.bool true))) s' :=
  ⟨.inl ⟨.bool true, .bool true, [], rfl, fun cls => by rfl, .bool true, goodPost, fun _ => ⟨.nil, fun a h => nomatch h⟩⟩, hk, hos, hg⟩
theorem walk : WalkO qv loose (XL qv lv) hook.says row lawRec [] (fun f vs => PySem.call f vs) := by
  w_on
  k_go0
  rename_i w s0 s1 mg mb G Y fa o pm doc ho hg KX X V GL T B TE TW w12 w11 M w10 w9 hcd ns hs hlay0 hL1 hr1 hl2 w7 w6 a vs w3 hL ra wl1 r0 hI hr hc1 hc2 K0 hD h1 tk1 F o3 o2 o1 d3 d2 d1 N0 X0
  have G0 : Gr w mg mb s1.heap := ⟨KX, T.g, T.b, T.nolimit, T.builtins⟩
  have nw : ∀ {c : Nat} {o' : Obj}, s1.heap.get? c = none → ¬ At s1.heap c o' := fun {c o'} e q => by have q' : s1.heap.get? c = some o' := q; rw [e] at q'; cases q'
  have F0 := Fm.mk (w := w) (mg := mg) (mb := mb) (P := At s1.heap) (own := [(s1.heap.objs.size + 3, o3), (s1.heap.objs.size + 2, o2), (s1.heap.objs.size + 1, o1)]) (G0.sub F.keep) F.ns G0.size (fun a o q e => absurd (ltS q) (by rw [e]; exact Nat.lt_irrefl _)) F.keep (fun p hp => by
    obtain ⟨a1, a2, a3⟩ := N0 p hp
    refine ⟨a1, a2, ?_, fun o' => nw a3⟩
    have := G0.size
    simp only [List.mem_cons, List.not_mem_nil, or_false] at hp
    rcases hp with rfl | rfl | rfl <;> dsimp only <;> omega)
  refine lawMain (s := { s1 with heap := h1, toks := tk1 }) (a := a) F0 (T.seer (by decide +kernel)) KX (by rfl) (d3.trans (by rfl)) (d2.trans (by rfl)) (d1.trans (by rfl)) hL hI (by omega) (fun h' tk' sb => ?_)
  exact goodTrue sb rfl hg
end Mine
theorem PySem.Challenge.cw_md0020_01_holds : PySem.Challenge.rw_md0020_01.Holds :=
  Mine.hd Mine.walk
