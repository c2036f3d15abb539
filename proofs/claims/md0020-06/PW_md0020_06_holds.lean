import PyProof.Rows.All
import Wide.All
import OpenK.AllK
import Wide.FinOn
import PySem.Challenge.RW_md0020_06
open PySem PySem.W PyProof.Rows PySem.Calls
set_option Elab.async false
set_option maxRecDepth 1000000
set_option maxHeartbeats 4000000
set_option linter.unusedVariables false
set_option compiler.extract_closed false
namespace Mine
section
set_option maxHeartbeats 0
open PySem.W.Fast
noncomputable def topT (p : Program) (w : World) (n₀ : Nat) (ann : Option Value) : Nat → SharedT → Thread → Option SharedT
  | 0, _, _ => none
  | n + 1, s, t => match through t with
    | true => some s
    | false => match tw6613529449190102663 n₀ ann t with
      | false => none
      | true => match tw10156331382660048174 (tw11892475500146522536 tw14364793385576792824) p w s t with
        | some (s', t') => topT p w n₀ ann n s' t'
        | none => none
theorem topT_of {p : Program} {w : World} {n₀ : Nat} {ann : Option Value} : ∀ {n : Nat} {s r : SharedT} {t : Thread}, topT p w n₀ ann n s t = some r → topRun treeTable p w n₀ ann n s.abs t = some r.abs
  | 0, _, _, _, h => by cases h
  | n + 1, s, r, t, h => by
    unfold topT at h
    rw [← te6613529449190102663, ← te10156331382660048174, ← te11892475500146522536, ← te14364793385576792824] at h
    unfold topRun
    cases ht : through t with
    | true => rw [ht] at h; cases h; rfl
    | false =>
      rw [ht] at h
      cases hk : stepOk n₀ ann t with
      | false => rw [hk] at h; cases h
      | true =>
        rw [hk] at h
        cases hs : stepT (denote treeTable) p w s t with
        | none => rw [hs] at h; cases h
        | some x => obtain ⟨s₂, t₂⟩ := x; rw [hs] at h; dsimp only; rw [stepT_spec hs]; exact topT_of h
noncomputable def lay : List Obj → Nat → BT → Option (BT × Nat)
  | [], n, T => some (T, n)
  | o :: l, n, T => match ((T.ins n o).get n).isSome with
    | true => lay l (n + 1) (T.ins n o)
    | false => none
theorem lay_abs (life : Life) : ∀ (l : List Obj) (n : Nat) (T : BT) (T' : BT) (n' : Nat), lay l n T = some (T', n') → absHeap T' n' life = ⟨(absHeap T n life).objs ++ l.toArray, life⟩
  | [], n, T, T', n', h => by cases h; simp [absHeap]
  | o :: l, n, T, T', n', h => by
    unfold lay at h
    cases e : ((T.ins n o).get n).isSome with
    | false => rw [e] at h; cases h
    | true =>
      rw [e] at h
      rw [lay_abs life l _ _ _ _ h, absHeap_ins e]
      show Heap.mk ((absHeap T n life).objs.push o ++ l.toArray) life = _
      congr 1
      apply Array.toList_inj.mp
      simp
noncomputable def toT (s : Shared) : Option SharedT := (lay s.heap.objs.toList 0 .nil).map fun x => ⟨x.1, x.2, s.heap.life, s.gens, s.drawn, s.toks, s.os⟩
theorem toT_abs {s : Shared} {S : SharedT} (h : toT s = some S) : S.abs = s := by
  obtain ⟨⟨T, n⟩, e, rfl⟩ := Option.map_eq_some_iff.mp h
  obtain ⟨⟨objs, life⟩, gens, drawn, toks, os⟩ := s
  have q := lay_abs life _ _ _ _ _ e
  show Shared.mk (absHeap T n life) gens drawn toks os = _
  rw [q]
  have : (absHeap .nil 0 life).objs = #[] := rfl
  rw [this]
  simp
end
section
set_option maxHeartbeats 0
abbrev prog : Program := PySem.Challenge.pw_md0020_06
abbrev body0 : List Stmt := prog.main.body
def nth : List Stmt → Nat → Stmt
  | [], _ => default
  | s :: _, 0 => s
  | _ :: r, n + 1 => nth r n
def clsBody : List Stmt := match nth body0 8 with | .ClassDef _ _ _ b _ _ _ _ _ _ _ => b | _ => []
def fnD (st : Stmt) (qual : Str) (cl : List (Str × Addr)) (df doc pm : Value) (an : Option Addr) (code ct : Value) : FuncData := match st with
  | .FunctionDef n a b _ _ _ sc _ _ _ => { name := n, qualname := qual, params := a, body := .stmts b, scope := sc, globals := 3, closure := cl, defaults := df, kwdefaults := .none, doc := doc, pyModule := pm, annotations := an, code := code, closureTuple := ct, builtins := 0 }
  | _ => default
noncomputable def K : Params → Frag := fun P => [
  (nat_lit 2, ⟨.none, none, (.dict #[⟨PyData.keyHash P "\x69mport.loaded._operator", .str "\x69mport.loaded._operator" 189, .bool true⟩, ⟨PyData.keyHash P "class._frozen_importlib.BuiltinImporter", .str "class._frozen_importlib.BuiltinImporter" 191, .ref 15⟩, ⟨PyData.keyHash P "watched.\x69mport", .str "watched.\x69mport" 212, .ref 19⟩, ⟨PyData.keyHash P "class._frozen_importlib.ModuleSpec", .str "class._frozen_importlib.ModuleSpec" 222, .ref 23⟩, ⟨PyData.keyHash P "sys.modules.booked-epoch", .str "sys.modules.booked-epoch" 251, .int (3) 0⟩, ⟨PyData.keyHash P "sys.modules.landed._operator", .str "sys.modules.landed._operator" 252, .bool true⟩, ⟨PyData.keyHash P "\x69mport.later-laid._operator", .str "\x69mport.later-laid._operator" 316, .bool true⟩, ⟨PyData.keyHash P "watched.library", .str "watched.library" 318, .ref 28⟩, ⟨PyData.keyHash P "watched.library-objects", .str "watched.library-objects" 0, .str "\x0d" 0⟩, ⟨PyData.keyHash P "watched.library-deep._operator", .str "watched.library-deep._operator" 319, .str "\x04\x00\x00\x0c\x04\x00\x00\x0c\x04\x00\x00\x03\x04\x00\x00\x0c\x08\x04dict\x02" 0⟩] 10), #[]⟩),
  (nat_lit 3, ⟨.type "dict", none, (.dict #[⟨PyData.keyHash P "__name__", .str "__name__" 165, .str "law_md0020_06" 750⟩, ⟨PyData.keyHash P "__doc__", .str "__doc__" 166, .none⟩, ⟨PyData.keyHash P "__package__", .str "__package__" 167, .none⟩, ⟨PyData.keyHash P "__loader__", .str "__loader__" 168, .builtin "__main__.__loader__#opaque"⟩, ⟨PyData.keyHash P "__spec__", .str "__spec__" 169, .none⟩, ⟨PyData.keyHash P "__annotations__", .str "__annotations__" 170, .ref 6⟩, ⟨PyData.keyHash P "__builtins__", .str "__builtins__" 171, .ref 4⟩, ⟨PyData.keyHash P "__file__", .str "__file__" 173, .str "/claim/cut.py" 172⟩, ⟨PyData.keyHash P "__cached__", .str "__cached__" 174, .none⟩, ⟨PyData.keyHash P "eq", .str "eq" 325, .builtin "_operator.eq"⟩, ⟨PyData.keyHash P "ge", .str "ge" 328, .builtin "_operator.ge"⟩, ⟨PyData.keyHash P "gt", .str "gt" 331, .builtin "_operator.gt"⟩, ⟨PyData.keyHash P "le", .str "le" 334, .builtin "_operator.le"⟩, ⟨PyData.keyHash P "lt", .str "lt" 337, .builtin "_operator.lt"⟩, ⟨PyData.keyHash P "_wall", .str "_wall" 350, .ref 39⟩, ⟨PyData.keyHash P "_bitcount", .str "_bitcount" 359, .ref 46⟩, ⟨PyData.keyHash P "BRANCH_FACTOR", .str "BRANCH_FACTOR" 361, .int (32) 360⟩, ⟨PyData.keyHash P "BIT_MASK", .str "BIT_MASK" 364, .int (31) 363⟩, ⟨PyData.keyHash P "SHIFT", .str "SHIFT" 369, .int (5) 368⟩, ⟨PyData.keyHash P "compare_pvector", .str "compare_pvector" 378, .ref 54⟩, ⟨PyData.keyHash P "PythonPVector", .str "PythonPVector" 721, .ref 296⟩, ⟨PyData.keyHash P "_EMPTY_PVECTOR", .str "_EMPTY_PVECTOR" 741, .ref 311⟩, ⟨PyData.keyHash P "python_pvector", .str "python_pvector" 748, .ref 320⟩, ⟨PyData.keyHash P "pvector", .str "pvector" 749, .ref 320⟩, ⟨PyData.keyHash P "_law_path", .str "_law_path" 762, .ref 327⟩, ⟨PyData.keyHash P "_law_put", .str "_law_put" 771, .ref 334⟩, ⟨PyData.keyHash P "_law_put_plain", .str "_law_put_plain" 781, .ref 341⟩, ⟨PyData.keyHash P "_law_shared", .str "_law_shared" 793, .ref 348⟩, ⟨PyData.keyHash P "_law_plain", .str "_law_plain" 799, .ref 353⟩, ⟨PyData.keyHash P "_law_grown", .str "_law_grown" 808, .ref 360⟩, ⟨PyData.keyHash P "law", .str "law" 833, .ref 367⟩] 31), #[]⟩),
  (nat_lit 49, ⟨.none, none, (.fields #[]), #[]⟩),
  (nat_lit 53, ⟨.type "code", none, (.fields #[.str "compare_pvector" 370, .str "compare_pvector" 371, .str "/claim/cut.py" 372, .int (11) 0, .int (3) 0, .int (0) 0, .int (0) 0, .int (3) 0, .ref 48, .bool true, .int (338) 0, .ref 49, .none, .ref 50, .ref 51, .ref 52, .int (376) 0, .int (11) 0, .str "/claim/cut.py" 377]), #[]⟩),
  (nat_lit 54, ⟨.type "function", none, (.func (fnD (nth (body0) 7) "compare_pvector" [] .none .none (.str "pyrsistent._pvector" 351) none (.ref 53) .none)), #[]⟩),
  (nat_lit 58, ⟨.type "cell", none, (.cell (some (.ref 296))), #[]⟩),
  (nat_lit 66, ⟨.none, none, (.fields #[]), #[]⟩),
  (nat_lit 70, ⟨.type "code", none, (.fields #[.str "__new__" 398, .str "PythonPVector.__new__" 399, .str "/claim/cut.py" 400, .int (16) 0, .int (5) 0, .int (0) 0, .int (0) 0, .int (3) 0, .ref 65, .bool true, .int (338) 0, .ref 66, .none, .ref 67, .ref 68, .ref 69, .int (408) 0, .int (16) 0, .str "/claim/cut.py" 409]), #[]⟩),
  (nat_lit 71, ⟨.type "function", none, (.func (fnD (nth clsBody 1) "PythonPVector.__new__" [("__class__", 58)] .none .none (.str "pyrsistent._pvector" 351) none (.ref 70) (.ref 64))), #[]⟩),
  (nat_lit 73, ⟨.none, none, (.fields #[]), #[]⟩),
  (nat_lit 77, ⟨.type "code", none, (.fields #[.str "__len__" 411, .str "PythonPVector.__len__" 412, .str "/claim/cut.py" 413, .int (25) 0, .int (1) 0, .int (0) 0, .int (0) 0, .int (3) 0, .ref 72, .bool true, .int (338) 0, .ref 73, .none, .ref 74, .ref 75, .ref 76, .int (415) 0, .int (25) 0, .str "/claim/cut.py" 416]), #[]⟩),
  (nat_lit 78, ⟨.type "function", none, (.func (fnD (nth clsBody 2) "PythonPVector.__len__" [] .none .none (.str "pyrsistent._pvector" 351) none (.ref 77) .none)), #[]⟩),
  (nat_lit 80, ⟨.none, none, (.fields #[]), #[]⟩),
  (nat_lit 84, ⟨.type "code", none, (.fields #[.str "__getitem__" 418, .str "PythonPVector.__getitem__" 419, .str "/claim/cut.py" 420, .int (28) 0, .int (2) 0, .int (0) 0, .int (0) 0, .int (3) 0, .ref 79, .bool true, .int (338) 0, .ref 80, .none, .ref 81, .ref 82, .ref 83, .int (423) 0, .int (28) 0, .str "/claim/cut.py" 424]), #[]⟩),
  (nat_lit 85, ⟨.type "function", none, (.func (fnD (nth clsBody 3) "PythonPVector.__getitem__" [] .none .none (.str "pyrsistent._pvector" 351) none (.ref 84) .none)), #[]⟩),
  (nat_lit 87, ⟨.none, none, (.fields #[]), #[]⟩),
  (nat_lit 91, ⟨.type "code", none, (.fields #[.str "__add__" 426, .str "PythonPVector.__add__" 427, .str "/claim/cut.py" 428, .int (37) 0, .int (2) 0, .int (0) 0, .int (0) 0, .int (3) 0, .ref 86, .bool true, .int (338) 0, .ref 87, .none, .ref 88, .ref 89, .ref 90, .int (431) 0, .int (37) 0, .str "/claim/cut.py" 432]), #[]⟩),
  (nat_lit 92, ⟨.type "function", none, (.func (fnD (nth clsBody 4) "PythonPVector.__add__" [] .none .none (.str "pyrsistent._pvector" 351) none (.ref 91) .none)), #[]⟩),
  (nat_lit 94, ⟨.none, none, (.fields #[]), #[]⟩),
  (nat_lit 98, ⟨.type "code", none, (.fields #[.str "__repr__" 434, .str "PythonPVector.__repr__" 435, .str "/claim/cut.py" 436, .int (40) 0, .int (1) 0, .int (0) 0, .int (0) 0, .int (3) 0, .ref 93, .bool true, .int (338) 0, .ref 94, .none, .ref 95, .ref 96, .ref 97, .int (438) 0, .int (40) 0, .str "/claim/cut.py" 439]), #[]⟩),
  (nat_lit 99, ⟨.type "function", none, (.func (fnD (nth clsBody 5) "PythonPVector.__repr__" [] .none .none (.str "pyrsistent._pvector" 351) none (.ref 98) .none)), #[]⟩),
  (nat_lit 101, ⟨.none, none, (.fields #[]), #[]⟩),
  (nat_lit 105, ⟨.type "code", none, (.fields #[.str "__str__" 441, .str "PythonPVector.__str__" 442, .str "/claim/cut.py" 443, .int (43) 0, .int (1) 0, .int (0) 0, .int (0) 0, .int (3) 0, .ref 100, .bool true, .int (338) 0, .ref 101, .none, .ref 102, .ref 103, .ref 104, .int (445) 0, .int (43) 0, .str "/claim/cut.py" 446]), #[]⟩),
  (nat_lit 106, ⟨.type "function", none, (.func (fnD (nth clsBody 6) "PythonPVector.__str__" [] .none .none (.str "pyrsistent._pvector" 351) none (.ref 105) .none)), #[]⟩),
  (nat_lit 108, ⟨.none, none, (.fields #[]), #[]⟩),
  (nat_lit 112, ⟨.type "code", none, (.fields #[.str "__iter__" 448, .str "PythonPVector.__iter__" 449, .str "/claim/cut.py" 450, .int (46) 0, .int (1) 0, .int (0) 0, .int (0) 0, .int (3) 0, .ref 107, .bool true, .int (338) 0, .ref 108, .none, .ref 109, .ref 110, .ref 111, .int (452) 0, .int (46) 0, .str "/claim/cut.py" 453]), #[]⟩),
  (nat_lit 113, ⟨.type "function", none, (.func (fnD (nth clsBody 7) "PythonPVector.__iter__" [] .none .none (.str "pyrsistent._pvector" 351) none (.ref 112) .none)), #[]⟩),
  (nat_lit 115, ⟨.none, none, (.fields #[]), #[]⟩),
  (nat_lit 119, ⟨.type "code", none, (.fields #[.str "__ne__" 455, .str "PythonPVector.__ne__" 456, .str "/claim/cut.py" 457, .int (49) 0, .int (2) 0, .int (0) 0, .int (0) 0, .int (3) 0, .ref 114, .bool true, .int (338) 0, .ref 115, .none, .ref 116, .ref 117, .ref 118, .int (460) 0, .int (49) 0, .str "/claim/cut.py" 461]), #[]⟩),
  (nat_lit 120, ⟨.type "function", none, (.func (fnD (nth clsBody 8) "PythonPVector.__ne__" [] .none .none (.str "pyrsistent._pvector" 351) none (.ref 119) .none)), #[]⟩),
  (nat_lit 122, ⟨.none, none, (.fields #[]), #[]⟩),
  (nat_lit 126, ⟨.type "code", none, (.fields #[.str "__eq__" 463, .str "PythonPVector.__eq__" 464, .str "/claim/cut.py" 465, .int (52) 0, .int (2) 0, .int (0) 0, .int (0) 0, .int (3) 0, .ref 121, .bool true, .int (338) 0, .ref 122, .none, .ref 123, .ref 124, .ref 125, .int (468) 0, .int (52) 0, .str "/claim/cut.py" 469]), #[]⟩),
  (nat_lit 127, ⟨.type "function", none, (.func (fnD (nth clsBody 9) "PythonPVector.__eq__" [] .none .none (.str "pyrsistent._pvector" 351) none (.ref 126) .none)), #[]⟩),
  (nat_lit 129, ⟨.none, none, (.fields #[]), #[]⟩),
  (nat_lit 133, ⟨.type "code", none, (.fields #[.str "__gt__" 471, .str "PythonPVector.__gt__" 472, .str "/claim/cut.py" 473, .int (55) 0, .int (2) 0, .int (0) 0, .int (0) 0, .int (3) 0, .ref 128, .bool true, .int (338) 0, .ref 129, .none, .ref 130, .ref 131, .ref 132, .int (476) 0, .int (55) 0, .str "/claim/cut.py" 477]), #[]⟩),
  (nat_lit 134, ⟨.type "function", none, (.func (fnD (nth clsBody 10) "PythonPVector.__gt__" [] .none .none (.str "pyrsistent._pvector" 351) none (.ref 133) .none)), #[]⟩),
  (nat_lit 136, ⟨.none, none, (.fields #[]), #[]⟩),
  (nat_lit 140, ⟨.type "code", none, (.fields #[.str "__lt__" 479, .str "PythonPVector.__lt__" 480, .str "/claim/cut.py" 481, .int (58) 0, .int (2) 0, .int (0) 0, .int (0) 0, .int (3) 0, .ref 135, .bool true, .int (338) 0, .ref 136, .none, .ref 137, .ref 138, .ref 139, .int (484) 0, .int (58) 0, .str "/claim/cut.py" 485]), #[]⟩),
  (nat_lit 141, ⟨.type "function", none, (.func (fnD (nth clsBody 11) "PythonPVector.__lt__" [] .none .none (.str "pyrsistent._pvector" 351) none (.ref 140) .none)), #[]⟩),
  (nat_lit 143, ⟨.none, none, (.fields #[]), #[]⟩),
  (nat_lit 147, ⟨.type "code", none, (.fields #[.str "__ge__" 487, .str "PythonPVector.__ge__" 488, .str "/claim/cut.py" 489, .int (61) 0, .int (2) 0, .int (0) 0, .int (0) 0, .int (3) 0, .ref 142, .bool true, .int (338) 0, .ref 143, .none, .ref 144, .ref 145, .ref 146, .int (492) 0, .int (61) 0, .str "/claim/cut.py" 493]), #[]⟩),
  (nat_lit 148, ⟨.type "function", none, (.func (fnD (nth clsBody 12) "PythonPVector.__ge__" [] .none .none (.str "pyrsistent._pvector" 351) none (.ref 147) .none)), #[]⟩),
  (nat_lit 150, ⟨.none, none, (.fields #[]), #[]⟩),
  (nat_lit 154, ⟨.type "code", none, (.fields #[.str "__le__" 495, .str "PythonPVector.__le__" 496, .str "/claim/cut.py" 497, .int (64) 0, .int (2) 0, .int (0) 0, .int (0) 0, .int (3) 0, .ref 149, .bool true, .int (338) 0, .ref 150, .none, .ref 151, .ref 152, .ref 153, .int (500) 0, .int (64) 0, .str "/claim/cut.py" 501]), #[]⟩),
  (nat_lit 155, ⟨.type "function", none, (.func (fnD (nth clsBody 13) "PythonPVector.__le__" [] .none .none (.str "pyrsistent._pvector" 351) none (.ref 154) .none)), #[]⟩),
  (nat_lit 157, ⟨.none, none, (.fields #[]), #[]⟩),
  (nat_lit 161, ⟨.type "code", none, (.fields #[.str "__mul__" 503, .str "PythonPVector.__mul__" 504, .str "/claim/cut.py" 505, .int (67) 0, .int (2) 0, .int (0) 0, .int (0) 0, .int (3) 0, .ref 156, .bool true, .int (338) 0, .ref 157, .none, .ref 158, .ref 159, .ref 160, .int (508) 0, .int (67) 0, .str "/claim/cut.py" 509]), #[]⟩),
  (nat_lit 162, ⟨.type "function", none, (.func (fnD (nth clsBody 14) "PythonPVector.__mul__" [] .none .none (.str "pyrsistent._pvector" 351) none (.ref 161) .none)), #[]⟩),
  (nat_lit 164, ⟨.none, none, (.fields #[]), #[]⟩),
  (nat_lit 168, ⟨.type "code", none, (.fields #[.str "_fill_list" 512, .str "PythonPVector._fill_list" 513, .str "/claim/cut.py" 514, .int (75) 0, .int (4) 0, .int (0) 0, .int (0) 0, .int (3) 0, .ref 163, .bool true, .int (338) 0, .ref 164, .none, .ref 165, .ref 166, .ref 167, .int (520) 0, .int (75) 0, .str "/claim/cut.py" 521]), #[]⟩),
  (nat_lit 169, ⟨.type "function", none, (.func (fnD (nth clsBody 16) "PythonPVector._fill_list" [] .none .none (.str "pyrsistent._pvector" 351) none (.ref 168) .none)), #[]⟩),
  (nat_lit 171, ⟨.none, none, (.fields #[]), #[]⟩),
  (nat_lit 175, ⟨.type "code", none, (.fields #[.str "tolist" 523, .str "PythonPVector.tolist" 524, .str "/claim/cut.py" 525, .int (83) 0, .int (1) 0, .int (0) 0, .int (0) 0, .int (3) 0, .ref 170, .bool true, .int (338) 0, .ref 171, .none, .ref 172, .ref 173, .ref 174, .int (528) 0, .int (83) 0, .str "/claim/cut.py" 529]), #[]⟩),
  (nat_lit 176, ⟨.type "function", none, (.func (fnD (nth clsBody 17) "PythonPVector.tolist" [] .none .none (.str "pyrsistent._pvector" 351) none (.ref 175) .none)), #[]⟩),
  (nat_lit 178, ⟨.none, none, (.fields #[]), #[]⟩),
  (nat_lit 182, ⟨.type "code", none, (.fields #[.str "_totuple" 531, .str "PythonPVector._totuple" 532, .str "/claim/cut.py" 533, .int (89) 0, .int (1) 0, .int (0) 0, .int (0) 0, .int (3) 0, .ref 177, .bool true, .int (338) 0, .ref 178, .none, .ref 179, .ref 180, .ref 181, .int (535) 0, .int (89) 0, .str "/claim/cut.py" 536]), #[]⟩),
  (nat_lit 183, ⟨.type "function", none, (.func (fnD (nth clsBody 18) "PythonPVector._totuple" [] .none .none (.str "pyrsistent._pvector" 351) none (.ref 182) .none)), #[]⟩),
  (nat_lit 185, ⟨.none, none, (.fields #[]), #[]⟩),
  (nat_lit 189, ⟨.type "code", none, (.fields #[.str "set" 538, .str "PythonPVector.set" 539, .str "/claim/cut.py" 540, .int (92) 0, .int (3) 0, .int (0) 0, .int (0) 0, .int (3) 0, .ref 184, .bool true, .int (338) 0, .ref 185, .none, .ref 186, .ref 187, .ref 188, .int (545) 0, .int (92) 0, .str "/claim/cut.py" 546]), #[]⟩),
  (nat_lit 190, ⟨.type "function", none, (.func (fnD (nth clsBody 19) "PythonPVector.set" [] .none .none (.str "pyrsistent._pvector" 351) none (.ref 189) .none)), #[]⟩),
  (nat_lit 192, ⟨.none, none, (.fields #[]), #[]⟩),
  (nat_lit 196, ⟨.type "code", none, (.fields #[.str "_do_set" 548, .str "PythonPVector._do_set" 549, .str "/claim/cut.py" 550, .int (107) 0, .int (5) 0, .int (0) 0, .int (0) 0, .int (3) 0, .ref 191, .bool true, .int (338) 0, .ref 192, .none, .ref 193, .ref 194, .ref 195, .int (558) 0, .int (107) 0, .str "/claim/cut.py" 559]), #[]⟩),
  (nat_lit 197, ⟨.type "function", none, (.func (fnD (nth clsBody 20) "PythonPVector._do_set" [] .none .none (.str "pyrsistent._pvector" 351) none (.ref 196) .none)), #[]⟩),
  (nat_lit 199, ⟨.none, none, (.fields #[]), #[]⟩),
  (nat_lit 203, ⟨.type "code", none, (.fields #[.str "_node_for" 561, .str "PythonPVector._node_for" 562, .str "/claim/cut.py" 563, .int (116) 0, .int (2) 0, .int (0) 0, .int (0) 0, .int (3) 0, .ref 198, .bool true, .int (338) 0, .ref 199, .none, .ref 200, .ref 201, .ref 202, .int (568) 0, .int (116) 0, .str "/claim/cut.py" 569]), #[]⟩),
  (nat_lit 204, ⟨.type "function", none, (.func (fnD (nth clsBody 21) "PythonPVector._node_for" [] .none .none (.str "pyrsistent._pvector" 351) (some 207) (.ref 203) .none)), #[]⟩),
  (nat_lit 206, ⟨.type "staticmethod", (some 205), (.fields #[.ref 204, .bool false]), #[]⟩),
  (nat_lit 209, ⟨.none, none, (.fields #[]), #[]⟩),
  (nat_lit 213, ⟨.type "code", none, (.fields #[.str "_create_new_root" 583, .str "PythonPVector._create_new_root" 584, .str "/claim/cut.py" 585, .int (127) 0, .int (1) 0, .int (0) 0, .int (0) 0, .int (3) 0, .ref 208, .bool true, .int (338) 0, .ref 209, .none, .ref 210, .ref 211, .ref 212, .int (589) 0, .int (127) 0, .str "/claim/cut.py" 590]), #[]⟩),
  (nat_lit 214, ⟨.type "function", none, (.func (fnD (nth clsBody 22) "PythonPVector._create_new_root" [] .none .none (.str "pyrsistent._pvector" 351) none (.ref 213) .none)), #[]⟩),
  (nat_lit 216, ⟨.none, none, (.fields #[]), #[]⟩),
  (nat_lit 220, ⟨.type "code", none, (.fields #[.str "append" 592, .str "PythonPVector.append" 593, .str "/claim/cut.py" 594, .int (136) 0, .int (2) 0, .int (0) 0, .int (0) 0, .int (3) 0, .ref 215, .bool true, .int (338) 0, .ref 216, .none, .ref 217, .ref 218, .ref 219, .int (600) 0, .int (136) 0, .str "/claim/cut.py" 601]), #[]⟩),
  (nat_lit 221, ⟨.type "function", none, (.func (fnD (nth clsBody 23) "PythonPVector.append" [] .none .none (.str "pyrsistent._pvector" 351) none (.ref 220) .none)), #[]⟩),
  (nat_lit 223, ⟨.none, none, (.fields #[]), #[]⟩),
  (nat_lit 227, ⟨.type "code", none, (.fields #[.str "_new_path" 603, .str "PythonPVector._new_path" 604, .str "/claim/cut.py" 605, .int (144) 0, .int (3) 0, .int (0) 0, .int (0) 0, .int (3) 0, .ref 222, .bool true, .int (338) 0, .ref 223, .none, .ref 224, .ref 225, .ref 226, .int (609) 0, .int (144) 0, .str "/claim/cut.py" 610]), #[]⟩),
  (nat_lit 228, ⟨.type "function", none, (.func (fnD (nth clsBody 24) "PythonPVector._new_path" [] .none .none (.str "pyrsistent._pvector" 351) none (.ref 227) .none)), #[]⟩),
  (nat_lit 230, ⟨.none, none, (.fields #[]), #[]⟩),
  (nat_lit 234, ⟨.type "code", none, (.fields #[.str "_mutating_insert_tail" 612, .str "PythonPVector._mutating_insert_tail" 613, .str "/claim/cut.py" 614, .int (149) 0, .int (1) 0, .int (0) 0, .int (0) 0, .int (3) 0, .ref 229, .bool true, .int (338) 0, .ref 230, .none, .ref 231, .ref 232, .ref 233, .int (616) 0, .int (149) 0, .str "/claim/cut.py" 617]), #[]⟩),
  (nat_lit 235, ⟨.type "function", none, (.func (fnD (nth clsBody 25) "PythonPVector._mutating_insert_tail" [] .none .none (.str "pyrsistent._pvector" 351) none (.ref 234) .none)), #[]⟩),
  (nat_lit 237, ⟨.none, none, (.fields #[]), #[]⟩),
  (nat_lit 241, ⟨.type "code", none, (.fields #[.str "_mutating_fill_tail" 619, .str "PythonPVector._mutating_fill_tail" 620, .str "/claim/cut.py" 621, .int (153) 0, .int (3) 0, .int (0) 0, .int (0) 0, .int (3) 0, .ref 236, .bool true, .int (338) 0, .ref 237, .none, .ref 238, .ref 239, .ref 240, .int (628) 0, .int (153) 0, .str "/claim/cut.py" 629]), #[]⟩),
  (nat_lit 242, ⟨.type "function", none, (.func (fnD (nth clsBody 26) "PythonPVector._mutating_fill_tail" [] .none .none (.str "pyrsistent._pvector" 351) none (.ref 241) .none)), #[]⟩),
  (nat_lit 244, ⟨.none, none, (.fields #[]), #[]⟩),
  (nat_lit 248, ⟨.type "code", none, (.fields #[.str "_mutating_extend" 631, .str "PythonPVector._mutating_extend" 632, .str "/claim/cut.py" 633, .int (161) 0, .int (2) 0, .int (0) 0, .int (0) 0, .int (3) 0, .ref 243, .bool true, .int (338) 0, .ref 244, .none, .ref 245, .ref 246, .ref 247, .int (638) 0, .int (161) 0, .str "/claim/cut.py" 639]), #[]⟩),
  (nat_lit 249, ⟨.type "function", none, (.func (fnD (nth clsBody 27) "PythonPVector._mutating_extend" [] .none .none (.str "pyrsistent._pvector" 351) none (.ref 248) .none)), #[]⟩),
  (nat_lit 251, ⟨.none, none, (.fields #[]), #[]⟩),
  (nat_lit 255, ⟨.type "code", none, (.fields #[.str "extend" 641, .str "PythonPVector.extend" 642, .str "/claim/cut.py" 643, .int (170) 0, .int (2) 0, .int (0) 0, .int (0) 0, .int (3) 0, .ref 250, .bool true, .int (338) 0, .ref 251, .none, .ref 252, .ref 253, .ref 254, .int (648) 0, .int (170) 0, .str "/claim/cut.py" 649]), #[]⟩),
  (nat_lit 256, ⟨.type "function", none, (.func (fnD (nth clsBody 28) "PythonPVector.extend" [] .none .none (.str "pyrsistent._pvector" 351) none (.ref 255) .none)), #[]⟩),
  (nat_lit 258, ⟨.none, none, (.fields #[]), #[]⟩),
  (nat_lit 262, ⟨.type "code", none, (.fields #[.str "_push_tail" 651, .str "PythonPVector._push_tail" 652, .str "/claim/cut.py" 653, .int (178) 0, .int (4) 0, .int (0) 0, .int (0) 0, .int (3) 0, .ref 257, .bool true, .int (338) 0, .ref 258, .none, .ref 259, .ref 260, .ref 261, .int (660) 0, .int (178) 0, .str "/claim/cut.py" 661]), #[]⟩),
  (nat_lit 263, ⟨.type "function", none, (.func (fnD (nth clsBody 29) "PythonPVector._push_tail" [] .none .none (.str "pyrsistent._pvector" 351) none (.ref 262) .none)), #[]⟩),
  (nat_lit 265, ⟨.none, none, (.fields #[]), #[]⟩),
  (nat_lit 269, ⟨.type "code", none, (.fields #[.str "index" 663, .str "PythonPVector.index" 664, .str "/claim/cut.py" 665, .int (190) 0, .int (2) 0, .int (0) 0, .int (0) 0, .int (15) 0, .ref 264, .bool true, .int (338) 0, .ref 265, .none, .ref 266, .ref 267, .ref 268, .int (670) 0, .int (190) 0, .str "/claim/cut.py" 671]), #[]⟩),
  (nat_lit 270, ⟨.type "function", none, (.func (fnD (nth clsBody 30) "PythonPVector.index" [] .none .none (.str "pyrsistent._pvector" 351) none (.ref 269) .none)), #[]⟩),
  (nat_lit 272, ⟨.none, none, (.fields #[]), #[]⟩),
  (nat_lit 276, ⟨.type "code", none, (.fields #[.str "count" 673, .str "PythonPVector.count" 674, .str "/claim/cut.py" 675, .int (193) 0, .int (2) 0, .int (0) 0, .int (0) 0, .int (3) 0, .ref 271, .bool true, .int (338) 0, .ref 272, .none, .ref 273, .ref 274, .ref 275, .int (678) 0, .int (193) 0, .str "/claim/cut.py" 679]), #[]⟩),
  (nat_lit 277, ⟨.type "function", none, (.func (fnD (nth clsBody 31) "PythonPVector.count" [] .none .none (.str "pyrsistent._pvector" 351) none (.ref 276) .none)), #[]⟩),
  (nat_lit 278, ⟨.type "tuple", none, (.seq #[.none] 0), #[]⟩),
  (nat_lit 280, ⟨.none, none, (.fields #[]), #[]⟩),
  (nat_lit 284, ⟨.type "code", none, (.fields #[.str "delete" 681, .str "PythonPVector.delete" 682, .str "/claim/cut.py" 683, .int (196) 0, .int (3) 0, .int (0) 0, .int (0) 0, .int (3) 0, .ref 279, .bool true, .int (338) 0, .ref 280, .none, .ref 281, .ref 282, .ref 283, .int (687) 0, .int (196) 0, .str "/claim/cut.py" 688]), #[]⟩),
  (nat_lit 285, ⟨.type "function", none, (.func (fnD (nth clsBody 32) "PythonPVector.delete" [] (.ref 278) .none (.str "pyrsistent._pvector" 351) none (.ref 284) .none)), #[]⟩),
  (nat_lit 287, ⟨.none, none, (.fields #[]), #[]⟩),
  (nat_lit 291, ⟨.type "code", none, (.fields #[.str "remove" 690, .str "PythonPVector.remove" 691, .str "/claim/cut.py" 692, .int (199) 0, .int (2) 0, .int (0) 0, .int (0) 0, .int (3) 0, .ref 286, .bool true, .int (338) 0, .ref 287, .none, .ref 288, .ref 289, .ref 290, .int (695) 0, .int (199) 0, .str "/claim/cut.py" 696]), #[]⟩),
  (nat_lit 292, ⟨.type "function", none, (.func (fnD (nth clsBody 33) "PythonPVector.remove" [] .none .none (.str "pyrsistent._pvector" 351) none (.ref 291) .none)), #[]⟩),
  (nat_lit 295, ⟨.type "dict", none, (.dict #[⟨PyData.keyHash P "__module__", .str "__module__" 386, .str "pyrsistent._pvector" 351⟩, ⟨PyData.keyHash P "__firstlineno__", .str "__firstlineno__" 390, .int (13) 389⟩, ⟨PyData.keyHash P "__slots__", .str "__slots__" 397, .ref 63⟩, ⟨PyData.keyHash P "__new__", .str "__new__" 410, .ref 297⟩, ⟨PyData.keyHash P "__len__", .str "__len__" 417, .ref 78⟩, ⟨PyData.keyHash P "__getitem__", .str "__getitem__" 425, .ref 85⟩, ⟨PyData.keyHash P "__add__", .str "__add__" 433, .ref 92⟩, ⟨PyData.keyHash P "__repr__", .str "__repr__" 440, .ref 99⟩, ⟨PyData.keyHash P "__str__", .str "__str__" 447, .ref 106⟩, ⟨PyData.keyHash P "__iter__", .str "__iter__" 454, .ref 113⟩, ⟨PyData.keyHash P "__ne__", .str "__ne__" 462, .ref 120⟩, ⟨PyData.keyHash P "__eq__", .str "__eq__" 470, .ref 127⟩, ⟨PyData.keyHash P "__gt__", .str "__gt__" 478, .ref 134⟩, ⟨PyData.keyHash P "__lt__", .str "__lt__" 486, .ref 141⟩, ⟨PyData.keyHash P "__ge__", .str "__ge__" 494, .ref 148⟩, ⟨PyData.keyHash P "__le__", .str "__le__" 502, .ref 155⟩, ⟨PyData.keyHash P "__mul__", .str "__mul__" 510, .ref 162⟩, ⟨PyData.keyHash P "__rmul__", .str "__rmul__" 511, .ref 162⟩, ⟨PyData.keyHash P "_fill_list", .str "_fill_list" 522, .ref 169⟩, ⟨PyData.keyHash P "tolist", .str "tolist" 530, .ref 176⟩, ⟨PyData.keyHash P "_totuple", .str "_totuple" 537, .ref 183⟩, ⟨PyData.keyHash P "set", .str "set" 547, .ref 190⟩, ⟨PyData.keyHash P "_do_set", .str "_do_set" 560, .ref 197⟩, ⟨PyData.keyHash P "_node_for", .str "_node_for" 582, .ref 206⟩, ⟨PyData.keyHash P "_create_new_root", .str "_create_new_root" 591, .ref 214⟩, ⟨PyData.keyHash P "append", .str "append" 602, .ref 221⟩, ⟨PyData.keyHash P "_new_path", .str "_new_path" 611, .ref 228⟩, ⟨PyData.keyHash P "_mutating_insert_tail", .str "_mutating_insert_tail" 618, .ref 235⟩, ⟨PyData.keyHash P "_mutating_fill_tail", .str "_mutating_fill_tail" 630, .ref 242⟩, ⟨PyData.keyHash P "_mutating_extend", .str "_mutating_extend" 640, .ref 249⟩, ⟨PyData.keyHash P "extend", .str "extend" 650, .ref 256⟩, ⟨PyData.keyHash P "_push_tail", .str "_push_tail" 662, .ref 263⟩, ⟨PyData.keyHash P "index", .str "index" 672, .ref 270⟩, ⟨PyData.keyHash P "count", .str "count" 680, .ref 277⟩, ⟨PyData.keyHash P "delete", .str "delete" 689, .ref 285⟩, ⟨PyData.keyHash P "remove", .str "remove" 697, .ref 292⟩, ⟨PyData.keyHash P "__static_attributes__", .str "__static_attributes__" 703, .ref 293⟩, ⟨PyData.keyHash P "_count", .str "_count" 707, .ref 298⟩, ⟨PyData.keyHash P "_root", .str "_root" 709, .ref 299⟩, ⟨PyData.keyHash P "_shift", .str "_shift" 711, .ref 300⟩, ⟨PyData.keyHash P "_tail", .str "_tail" 713, .ref 301⟩, ⟨PyData.keyHash P "_tail_offset", .str "_tail_offset" 715, .ref 302⟩, ⟨PyData.keyHash P "__weakref__", .str "__weakref__" 717, .ref 303⟩, ⟨PyData.keyHash P "__doc__", .str "__doc__" 718, .none⟩, ⟨PyData.keyHash P "__hash__", .str "__hash__" 719, .none⟩] 10), #[]⟩),
  (nat_lit 296, ⟨.type "type", none, (.cls { name := "PythonPVector", bases := [.type "object"], mro := [.ref 296, .type "object"], ns := 295, qualname := "PythonPVector", hasDict := false, slotNames := ["_count", "_root", "_shift", "_tail", "_tail_offset"], subclasses := [], abstract := false, collection := none, hasDel := false }), #[(some (.ref 55)), none, (some (.str "PythonPVector" 379)), (some (.str "PythonPVector" 387)), (some .none), (some (.bool true))]⟩),
  (nat_lit 297, ⟨.type "staticmethod", none, (.fields #[.ref 71]), #[]⟩),
  (nat_lit 298, ⟨.type "member_descriptor", none, (.fields #[.str "_count" 706, .ref 296, .builtin "proto.slot", .builtin "proto.slot#set", .int (4) 0]), #[]⟩),
  (nat_lit 299, ⟨.type "member_descriptor", none, (.fields #[.str "_root" 708, .ref 296, .builtin "proto.slot", .builtin "proto.slot#set", .int (3) 0]), #[]⟩),
  (nat_lit 300, ⟨.type "member_descriptor", none, (.fields #[.str "_shift" 710, .ref 296, .builtin "proto.slot", .builtin "proto.slot#set", .int (2) 0]), #[]⟩),
  (nat_lit 301, ⟨.type "member_descriptor", none, (.fields #[.str "_tail" 712, .ref 296, .builtin "proto.slot", .builtin "proto.slot#set", .int (1) 0]), #[]⟩),
  (nat_lit 302, ⟨.type "member_descriptor", none, (.fields #[.str "_tail_offset" 714, .ref 296, .builtin "proto.slot", .builtin "proto.slot#set", .int (0) 0]), #[]⟩),
  (nat_lit 306, ⟨.type "list", none, (.seq #[] 0), #[]⟩),
  (nat_lit 307, ⟨.type "list", none, (.seq #[] 0), #[]⟩),
  (nat_lit 310, ⟨.type "dict", none, (.dict #[] 0), #[]⟩),
  (nat_lit 311, ⟨.ref 296, (some 310), .plain, #[(some (.int (0) 722)), (some (.ref 306)), (some (.int (5) 368)), (some (.ref 307)), (some (.int (0) 739))]⟩),
  (nat_lit 312, ⟨.type "tuple", none, (.seq #[] 0), #[]⟩),
  (nat_lit 313, ⟨.type "tuple", none, (.seq #[.ref 312] 0), #[]⟩),
  (nat_lit 315, ⟨.none, none, (.fields #[]), #[]⟩),
  (nat_lit 319, ⟨.type "code", none, (.fields #[.str "python_pvector" 742, .str "python_pvector" 743, .str "/claim/cut.py" 744, .int (202) 0, .int (1) 0, .int (0) 0, .int (0) 0, .int (3) 0, .ref 314, .bool true, .int (338) 0, .ref 315, .none, .ref 316, .ref 317, .ref 318, .int (746) 0, .int (202) 0, .str "/claim/cut.py" 747]), #[]⟩),
  (nat_lit 320, ⟨.type "function", none, (.func (fnD (nth (body0) 10) "python_pvector" [] (.ref 313) .none (.str "pyrsistent._pvector" 351) none (.ref 319) .none)), #[]⟩),
  (nat_lit 322, ⟨.none, none, (.fields #[]), #[]⟩),
  (nat_lit 326, ⟨.type "code", none, (.fields #[.str "_law_path" 752, .str "_law_path" 753, .str "/claim/cut.py" 754, .int (206) 0, .int (2) 0, .int (0) 0, .int (0) 0, .int (3) 0, .ref 321, .bool true, .int (338) 0, .ref 322, .none, .ref 323, .ref 324, .ref 325, .int (760) 0, .int (206) 0, .str "/claim/cut.py" 761]), #[]⟩),
  (nat_lit 327, ⟨.type "function", none, (.func (fnD (nth (body0) 13) "_law_path" [] .none .none (.str "law_md0020_06" 750) none (.ref 326) .none)), #[]⟩),
  (nat_lit 329, ⟨.none, none, (.fields #[]), #[]⟩),
  (nat_lit 333, ⟨.type "code", none, (.fields #[.str "_law_put" 763, .str "_law_put" 764, .str "/claim/cut.py" 765, .int (215) 0, .int (3) 0, .int (0) 0, .int (0) 0, .int (3) 0, .ref 328, .bool true, .int (338) 0, .ref 329, .none, .ref 330, .ref 331, .ref 332, .int (769) 0, .int (215) 0, .str "/claim/cut.py" 770]), #[]⟩),
  (nat_lit 334, ⟨.type "function", none, (.func (fnD (nth (body0) 14) "_law_put" [] .none .none (.str "law_md0020_06" 750) none (.ref 333) .none)), #[]⟩),
  (nat_lit 336, ⟨.none, none, (.fields #[]), #[]⟩),
  (nat_lit 340, ⟨.type "code", none, (.fields #[.str "_law_put_plain" 772, .str "_law_put_plain" 773, .str "/claim/cut.py" 774, .int (219) 0, .int (3) 0, .int (0) 0, .int (0) 0, .int (3) 0, .ref 335, .bool true, .int (338) 0, .ref 336, .none, .ref 337, .ref 338, .ref 339, .int (779) 0, .int (219) 0, .str "/claim/cut.py" 780]), #[]⟩),
  (nat_lit 341, ⟨.type "function", none, (.func (fnD (nth (body0) 15) "_law_put_plain" [] .none .none (.str "law_md0020_06" 750) none (.ref 340) .none)), #[]⟩),
  (nat_lit 343, ⟨.none, none, (.fields #[]), #[]⟩),
  (nat_lit 347, ⟨.type "code", none, (.fields #[.str "_law_shared" 782, .str "_law_shared" 783, .str "/claim/cut.py" 784, .int (223) 0, .int (3) 0, .int (0) 0, .int (0) 0, .int (3) 0, .ref 342, .bool true, .int (338) 0, .ref 343, .none, .ref 344, .ref 345, .ref 346, .int (791) 0, .int (223) 0, .str "/claim/cut.py" 792]), #[]⟩),
  (nat_lit 348, ⟨.type "function", none, (.func (fnD (nth (body0) 16) "_law_shared" [] .none .none (.str "law_md0020_06" 750) none (.ref 347) .none)), #[]⟩),
  (nat_lit 350, ⟨.none, none, (.fields #[]), #[]⟩),
  (nat_lit 352, ⟨.type "code", none, (.fields #[.str "_law_plain" 794, .str "_law_plain" 795, .str "/claim/cut.py" 796, .int (234) 0, .int (1) 0, .int (0) 0, .int (0) 0, .int (3) 0, .ref 349, .bool true, .int (338) 0, .ref 350, .none, .none, .none, .ref 351, .int (797) 0, .int (234) 0, .str "/claim/cut.py" 798]), #[]⟩),
  (nat_lit 353, ⟨.type "function", none, (.func (fnD (nth (body0) 17) "_law_plain" [] .none .none (.str "law_md0020_06" 750) none (.ref 352) .none)), #[]⟩),
  (nat_lit 355, ⟨.none, none, (.fields #[]), #[]⟩),
  (nat_lit 359, ⟨.type "code", none, (.fields #[.str "_law_grown" 800, .str "_law_grown" 801, .str "/claim/cut.py" 802, .int (236) 0, .int (1) 0, .int (0) 0, .int (0) 0, .int (3) 0, .ref 354, .bool true, .int (338) 0, .ref 355, .none, .ref 356, .ref 357, .ref 358, .int (806) 0, .int (236) 0, .str "/claim/cut.py" 807]), #[]⟩),
  (nat_lit 360, ⟨.type "function", none, (.func (fnD (nth (body0) 18) "_law_grown" [] .none .none (.str "law_md0020_06" 750) none (.ref 359) .none)), #[]⟩)]
abbrev kAs : List Addr := [2, 3, 49, 53, 54, 58, 66, 70, 71, 73, 77, 78, 80, 84, 85, 87, 91, 92, 94, 98, 99, 101, 105, 106, 108, 112, 113, 115, 119, 120, 122, 126, 127, 129, 133, 134, 136, 140, 141, 143, 147, 148, 150, 154, 155, 157, 161, 162, 164, 168, 169, 171, 175, 176, 178, 182, 183, 185, 189, 190, 192, 196, 197, 199, 203, 204, 206, 209, 213, 214, 216, 220, 221, 223, 227, 228, 230, 234, 235, 237, 241, 242, 244, 248, 249, 251, 255, 256, 258, 262, 263, 265, 269, 270, 272, 276, 277, 278, 280, 284, 285, 287, 291, 292, 295, 296, 297, 298, 299, 300, 301, 302, 306, 307, 310, 311, 312, 313, 315, 319, 320, 322, 326, 327, 329, 333, 334, 336, 340, 341, 343, 347, 348, 350, 352, 353, 355, 359, 360]

def keep : List Nat := [0, 1, 3, 4, 5, 6, 7, 8, 9, 11, 13, 14, 15, 16, 17, 18, 19]
def qv : Program := view prog keep
abbrev loose : List Str := ["BIT_MASK", "SHIFT", "PythonPVector", "_EMPTY_PVECTOR", "python_pvector", "pvector"]
abbrev lv : List (Str × WData) := [("BIT_MASK", .int 31), ("SHIFT", .int 5)]
abbrev row : RowW := PySem.Challenge.rw_md0020_06.row.toRowW
theorem kAs_eq : ∀ P, kAs = (K P).map (·.1) := fun _ => by kernel_rfl!
noncomputable abbrev hook : Hook := kHook K kAs kAs_eq
abbrev Xt : Shared → Bool := fun s => xlAt qv lv s && recOk row.records s
end
section
set_option maxHeartbeats 0
abbrev ucs (l : List Nat) : Str := ⟨⟨l⟩⟩
noncomputable def H0 : Params → Heap := fun P => ⟨#[
  ⟨.type "dict", none, (.dict #[⟨PyData.keyHash P (ucs [95,95,110,97,109,101,95,95]), .str (ucs [95,95,110,97,109,101,95,95]) 1, .str (ucs [98,117,105,108,116,105,110,115]) 160⟩, ⟨PyData.keyHash P (ucs [95,95,100,111,99,95,95]), .str (ucs [95,95,100,111,99,95,95]) 2, .builtin "builtins.__doc__:str#opaque"⟩, ⟨PyData.keyHash P (ucs [95,95,112,97,99,107,97,103,101,95,95]), .str (ucs [95,95,112,97,99,107,97,103,101,95,95]) 3, .builtin "builtins.__package__:str#opaque"⟩, ⟨PyData.keyHash P (ucs [95,95,108,111,97,100,101,114,95,95]), .str (ucs [95,95,108,111,97,100,101,114,95,95]) 4, .builtin "builtins.__loader__:shared#opaque"⟩, ⟨PyData.keyHash P (ucs [95,95,115,112,101,99,95,95]), .str (ucs [95,95,115,112,101,99,95,95]) 5, .builtin "builtins.__spec__#opaque"⟩, ⟨PyData.keyHash P (ucs [95,95,98,117,105,108,100,95,99,108,97,115,115,95,95]), .str (ucs [95,95,98,117,105,108,100,95,99,108,97,115,115,95,95]) 6, .builtin "__build_class__"⟩, ⟨PyData.keyHash P (ucs [95,95,105,109,112,111,114,116,95,95]), .str (ucs [95,95,105,109,112,111,114,116,95,95]) 7, .builtin "__import__"⟩, ⟨PyData.keyHash P (ucs [97,98,115]), .str (ucs [97,98,115]) 8, .builtin "abs"⟩, ⟨PyData.keyHash P (ucs [97,108,108]), .str (ucs [97,108,108]) 9, .builtin "all"⟩, ⟨PyData.keyHash P (ucs [97,110,121]), .str (ucs [97,110,121]) 10, .builtin "any"⟩, ⟨PyData.keyHash P (ucs [97,115,99,105,105]), .str (ucs [97,115,99,105,105]) 11, .builtin "ascii"⟩, ⟨PyData.keyHash P (ucs [98,105,110]), .str (ucs [98,105,110]) 12, .builtin "bin"⟩, ⟨PyData.keyHash P (ucs [98,114,101,97,107,112,111,105,110,116]), .str (ucs [98,114,101,97,107,112,111,105,110,116]) 13, .builtin "breakpoint"⟩, ⟨PyData.keyHash P (ucs [99,97,108,108,97,98,108,101]), .str (ucs [99,97,108,108,97,98,108,101]) 14, .builtin "callable"⟩, ⟨PyData.keyHash P (ucs [99,104,114]), .str (ucs [99,104,114]) 15, .builtin "chr"⟩, ⟨PyData.keyHash P (ucs [99,111,109,112,105,108,101]), .str (ucs [99,111,109,112,105,108,101]) 16, .builtin "compile"⟩, ⟨PyData.keyHash P (ucs [100,101,108,97,116,116,114]), .str (ucs [100,101,108,97,116,116,114]) 17, .builtin "delattr"⟩, ⟨PyData.keyHash P (ucs [100,105,114]), .str (ucs [100,105,114]) 18, .builtin "dir"⟩, ⟨PyData.keyHash P (ucs [100,105,118,109,111,100]), .str (ucs [100,105,118,109,111,100]) 19, .builtin "divmod"⟩, ⟨PyData.keyHash P (ucs [101,118,97,108]), .str (ucs [101,118,97,108]) 20, .builtin "eval"⟩, ⟨PyData.keyHash P (ucs [101,120,101,99]), .str (ucs [101,120,101,99]) 21, .builtin "exec"⟩, ⟨PyData.keyHash P (ucs [102,111,114,109,97,116]), .str (ucs [102,111,114,109,97,116]) 22, .builtin "format"⟩, ⟨PyData.keyHash P (ucs [103,101,116,97,116,116,114]), .str (ucs [103,101,116,97,116,116,114]) 23, .builtin "getattr"⟩, ⟨PyData.keyHash P (ucs [103,108,111,98,97,108,115]), .str (ucs [103,108,111,98,97,108,115]) 24, .builtin "globals"⟩, ⟨PyData.keyHash P (ucs [104,97,115,97,116,116,114]), .str (ucs [104,97,115,97,116,116,114]) 25, .builtin "hasattr"⟩, ⟨PyData.keyHash P (ucs [104,97,115,104]), .str (ucs [104,97,115,104]) 26, .builtin "hash"⟩, ⟨PyData.keyHash P (ucs [104,101,120]), .str (ucs [104,101,120]) 27, .builtin "hex"⟩, ⟨PyData.keyHash P (ucs [105,100]), .str (ucs [105,100]) 28, .builtin "id"⟩, ⟨PyData.keyHash P (ucs [105,110,112,117,116]), .str (ucs [105,110,112,117,116]) 29, .builtin "input"⟩, ⟨PyData.keyHash P (ucs [105,115,105,110,115,116,97,110,99,101]), .str (ucs [105,115,105,110,115,116,97,110,99,101]) 30, .builtin "isinstance"⟩, ⟨PyData.keyHash P (ucs [105,115,115,117,98,99,108,97,115,115]), .str (ucs [105,115,115,117,98,99,108,97,115,115]) 31, .builtin "issubclass"⟩, ⟨PyData.keyHash P (ucs [105,116,101,114]), .str (ucs [105,116,101,114]) 32, .builtin "iter"⟩, ⟨PyData.keyHash P (ucs [97,105,116,101,114]), .str (ucs [97,105,116,101,114]) 33, .builtin "aiter"⟩, ⟨PyData.keyHash P (ucs [108,101,110]), .str (ucs [108,101,110]) 34, .builtin "len"⟩, ⟨PyData.keyHash P (ucs [108,111,99,97,108,115]), .str (ucs [108,111,99,97,108,115]) 35, .builtin "locals"⟩, ⟨PyData.keyHash P (ucs [109,97,120]), .str (ucs [109,97,120]) 36, .builtin "max"⟩, ⟨PyData.keyHash P (ucs [109,105,110]), .str (ucs [109,105,110]) 37, .builtin "min"⟩, ⟨PyData.keyHash P (ucs [110,101,120,116]), .str (ucs [110,101,120,116]) 38, .builtin "next"⟩, ⟨PyData.keyHash P (ucs [97,110,101,120,116]), .str (ucs [97,110,101,120,116]) 39, .builtin "anext"⟩, ⟨PyData.keyHash P (ucs [111,99,116]), .str (ucs [111,99,116]) 40, .builtin "oct"⟩, ⟨PyData.keyHash P (ucs [111,114,100]), .str (ucs [111,114,100]) 41, .builtin "ord"⟩, ⟨PyData.keyHash P (ucs [112,111,119]), .str (ucs [112,111,119]) 42, .builtin "pow"⟩, ⟨PyData.keyHash P (ucs [112,114,105,110,116]), .str (ucs [112,114,105,110,116]) 43, .builtin "print"⟩, ⟨PyData.keyHash P (ucs [114,101,112,114]), .str (ucs [114,101,112,114]) 44, .builtin "repr"⟩, ⟨PyData.keyHash P (ucs [114,111,117,110,100]), .str (ucs [114,111,117,110,100]) 45, .builtin "round"⟩, ⟨PyData.keyHash P (ucs [115,101,116,97,116,116,114]), .str (ucs [115,101,116,97,116,116,114]) 46, .builtin "setattr"⟩, ⟨PyData.keyHash P (ucs [115,111,114,116,101,100]), .str (ucs [115,111,114,116,101,100]) 47, .builtin "sorted"⟩, ⟨PyData.keyHash P (ucs [115,117,109]), .str (ucs [115,117,109]) 48, .builtin "sum"⟩, ⟨PyData.keyHash P (ucs [118,97,114,115]), .str (ucs [118,97,114,115]) 49, .builtin "vars"⟩, ⟨PyData.keyHash P (ucs [78,111,110,101]), .str (ucs [78,111,110,101]) 50, .none⟩, ⟨PyData.keyHash P (ucs [69,108,108,105,112,115,105,115]), .str (ucs [69,108,108,105,112,115,105,115]) 51, .ellipsis⟩, ⟨PyData.keyHash P (ucs [78,111,116,73,109,112,108,101,109,101,110,116,101,100]), .str (ucs [78,111,116,73,109,112,108,101,109,101,110,116,101,100]) 52, .notImplemented⟩, ⟨PyData.keyHash P (ucs [70,97,108,115,101]), .str (ucs [70,97,108,115,101]) 53, .bool false⟩, ⟨PyData.keyHash P (ucs [84,114,117,101]), .str (ucs [84,114,117,101]) 54, .bool true⟩, ⟨PyData.keyHash P (ucs [98,111,111,108]), .str (ucs [98,111,111,108]) 55, .type "bool"⟩, ⟨PyData.keyHash P (ucs [109,101,109,111,114,121,118,105,101,119]), .str (ucs [109,101,109,111,114,121,118,105,101,119]) 56, .type "memoryview"⟩, ⟨PyData.keyHash P (ucs [98,121,116,101,97,114,114,97,121]), .str (ucs [98,121,116,101,97,114,114,97,121]) 57, .type "bytearray"⟩, ⟨PyData.keyHash P (ucs [98,121,116,101,115]), .str (ucs [98,121,116,101,115]) 58, .type "bytes"⟩, ⟨PyData.keyHash P (ucs [99,108,97,115,115,109,101,116,104,111,100]), .str (ucs [99,108,97,115,115,109,101,116,104,111,100]) 59, .type "classmethod"⟩, ⟨PyData.keyHash P (ucs [99,111,109,112,108,101,120]), .str (ucs [99,111,109,112,108,101,120]) 60, .type "complex"⟩, ⟨PyData.keyHash P (ucs [100,105,99,116]), .str (ucs [100,105,99,116]) 61, .type "dict"⟩, ⟨PyData.keyHash P (ucs [101,110,117,109,101,114,97,116,101]), .str (ucs [101,110,117,109,101,114,97,116,101]) 62, .type "enumerate"⟩, ⟨PyData.keyHash P (ucs [102,105,108,116,101,114]), .str (ucs [102,105,108,116,101,114]) 63, .type "filter"⟩, ⟨PyData.keyHash P (ucs [102,108,111,97,116]), .str (ucs [102,108,111,97,116]) 64, .type "float"⟩, ⟨PyData.keyHash P (ucs [102,114,111,122,101,110,115,101,116]), .str (ucs [102,114,111,122,101,110,115,101,116]) 65, .type "frozenset"⟩, ⟨PyData.keyHash P (ucs [112,114,111,112,101,114,116,121]), .str (ucs [112,114,111,112,101,114,116,121]) 66, .type "property"⟩, ⟨PyData.keyHash P (ucs [105,110,116]), .str (ucs [105,110,116]) 67, .type "int"⟩, ⟨PyData.keyHash P (ucs [108,105,115,116]), .str (ucs [108,105,115,116]) 68, .type "list"⟩, ⟨PyData.keyHash P (ucs [109,97,112]), .str (ucs [109,97,112]) 69, .type "map"⟩, ⟨PyData.keyHash P (ucs [111,98,106,101,99,116]), .str (ucs [111,98,106,101,99,116]) 70, .type "object"⟩, ⟨PyData.keyHash P (ucs [114,97,110,103,101]), .str (ucs [114,97,110,103,101]) 71, .type "range"⟩, ⟨PyData.keyHash P (ucs [114,101,118,101,114,115,101,100]), .str (ucs [114,101,118,101,114,115,101,100]) 72, .type "reversed"⟩, ⟨PyData.keyHash P (ucs [115,101,116]), .str (ucs [115,101,116]) 73, .type "set"⟩, ⟨PyData.keyHash P (ucs [115,108,105,99,101]), .str (ucs [115,108,105,99,101]) 74, .type "slice"⟩, ⟨PyData.keyHash P (ucs [115,116,97,116,105,99,109,101,116,104,111,100]), .str (ucs [115,116,97,116,105,99,109,101,116,104,111,100]) 75, .type "staticmethod"⟩, ⟨PyData.keyHash P (ucs [115,116,114]), .str (ucs [115,116,114]) 76, .type "str"⟩, ⟨PyData.keyHash P (ucs [115,117,112,101,114]), .str (ucs [115,117,112,101,114]) 77, .type "super"⟩, ⟨PyData.keyHash P (ucs [116,117,112,108,101]), .str (ucs [116,117,112,108,101]) 78, .type "tuple"⟩, ⟨PyData.keyHash P (ucs [116,121,112,101]), .str (ucs [116,121,112,101]) 79, .type "type"⟩, ⟨PyData.keyHash P (ucs [122,105,112]), .str (ucs [122,105,112]) 80, .type "zip"⟩, ⟨PyData.keyHash P (ucs [95,95,100,101,98,117,103,95,95]), .str (ucs [95,95,100,101,98,117,103,95,95]) 81, .bool true⟩, ⟨PyData.keyHash P (ucs [66,97,115,101,69,120,99,101,112,116,105,111,110]), .str (ucs [66,97,115,101,69,120,99,101,112,116,105,111,110]) 82, .type "BaseException"⟩, ⟨PyData.keyHash P (ucs [66,97,115,101,69,120,99,101,112,116,105,111,110,71,114,111,117,112]), .str (ucs [66,97,115,101,69,120,99,101,112,116,105,111,110,71,114,111,117,112]) 83, .type "BaseExceptionGroup"⟩, ⟨PyData.keyHash P (ucs [69,120,99,101,112,116,105,111,110]), .str (ucs [69,120,99,101,112,116,105,111,110]) 84, .type "Exception"⟩, ⟨PyData.keyHash P (ucs [71,101,110,101,114,97,116,111,114,69,120,105,116]), .str (ucs [71,101,110,101,114,97,116,111,114,69,120,105,116]) 85, .type "GeneratorExit"⟩, ⟨PyData.keyHash P (ucs [75,101,121,98,111,97,114,100,73,110,116,101,114,114,117,112,116]), .str (ucs [75,101,121,98,111,97,114,100,73,110,116,101,114,114,117,112,116]) 86, .type "KeyboardInterrupt"⟩, ⟨PyData.keyHash P (ucs [83,121,115,116,101,109,69,120,105,116]), .str (ucs [83,121,115,116,101,109,69,120,105,116]) 87, .type "SystemExit"⟩, ⟨PyData.keyHash P (ucs [65,114,105,116,104,109,101,116,105,99,69,114,114,111,114]), .str (ucs [65,114,105,116,104,109,101,116,105,99,69,114,114,111,114]) 88, .type "ArithmeticError"⟩, ⟨PyData.keyHash P (ucs [65,115,115,101,114,116,105,111,110,69,114,114,111,114]), .str (ucs [65,115,115,101,114,116,105,111,110,69,114,114,111,114]) 89, .type "AssertionError"⟩, ⟨PyData.keyHash P (ucs [65,116,116,114,105,98,117,116,101,69,114,114,111,114]), .str (ucs [65,116,116,114,105,98,117,116,101,69,114,114,111,114]) 90, .type "AttributeError"⟩, ⟨PyData.keyHash P (ucs [66,117,102,102,101,114,69,114,114,111,114]), .str (ucs [66,117,102,102,101,114,69,114,114,111,114]) 91, .type "BufferError"⟩, ⟨PyData.keyHash P (ucs [69,79,70,69,114,114,111,114]), .str (ucs [69,79,70,69,114,114,111,114]) 92, .type "EOFError"⟩, ⟨PyData.keyHash P (ucs [73,109,112,111,114,116,69,114,114,111,114]), .str (ucs [73,109,112,111,114,116,69,114,114,111,114]) 93, .type "ImportError"⟩, ⟨PyData.keyHash P (ucs [76,111,111,107,117,112,69,114,114,111,114]), .str (ucs [76,111,111,107,117,112,69,114,114,111,114]) 94, .type "LookupError"⟩, ⟨PyData.keyHash P (ucs [77,101,109,111,114,121,69,114,114,111,114]), .str (ucs [77,101,109,111,114,121,69,114,114,111,114]) 95, .type "MemoryError"⟩, ⟨PyData.keyHash P (ucs [78,97,109,101,69,114,114,111,114]), .str (ucs [78,97,109,101,69,114,114,111,114]) 96, .type "NameError"⟩, ⟨PyData.keyHash P (ucs [79,83,69,114,114,111,114]), .str (ucs [79,83,69,114,114,111,114]) 97, .type "OSError"⟩, ⟨PyData.keyHash P (ucs [82,101,102,101,114,101,110,99,101,69,114,114,111,114]), .str (ucs [82,101,102,101,114,101,110,99,101,69,114,114,111,114]) 98, .type "ReferenceError"⟩, ⟨PyData.keyHash P (ucs [82,117,110,116,105,109,101,69,114,114,111,114]), .str (ucs [82,117,110,116,105,109,101,69,114,114,111,114]) 99, .type "RuntimeError"⟩, ⟨PyData.keyHash P (ucs [83,116,111,112,65,115,121,110,99,73,116,101,114,97,116,105,111,110]), .str (ucs [83,116,111,112,65,115,121,110,99,73,116,101,114,97,116,105,111,110]) 100, .type "StopAsyncIteration"⟩, ⟨PyData.keyHash P (ucs [83,116,111,112,73,116,101,114,97,116,105,111,110]), .str (ucs [83,116,111,112,73,116,101,114,97,116,105,111,110]) 101, .type "StopIteration"⟩, ⟨PyData.keyHash P (ucs [83,121,110,116,97,120,69,114,114,111,114]), .str (ucs [83,121,110,116,97,120,69,114,114,111,114]) 102, .type "SyntaxError"⟩, ⟨PyData.keyHash P (ucs [83,121,115,116,101,109,69,114,114,111,114]), .str (ucs [83,121,115,116,101,109,69,114,114,111,114]) 103, .type "SystemError"⟩, ⟨PyData.keyHash P (ucs [84,121,112,101,69,114,114,111,114]), .str (ucs [84,121,112,101,69,114,114,111,114]) 104, .type "TypeError"⟩, ⟨PyData.keyHash P (ucs [86,97,108,117,101,69,114,114,111,114]), .str (ucs [86,97,108,117,101,69,114,114,111,114]) 105, .type "ValueError"⟩, ⟨PyData.keyHash P (ucs [87,97,114,110,105,110,103]), .str (ucs [87,97,114,110,105,110,103]) 106, .type "Warning"⟩, ⟨PyData.keyHash P (ucs [70,108,111,97,116,105,110,103,80,111,105,110,116,69,114,114,111,114]), .str (ucs [70,108,111,97,116,105,110,103,80,111,105,110,116,69,114,114,111,114]) 107, .type "FloatingPointError"⟩, ⟨PyData.keyHash P (ucs [79,118,101,114,102,108,111,119,69,114,114,111,114]), .str (ucs [79,118,101,114,102,108,111,119,69,114,114,111,114]) 108, .type "OverflowError"⟩, ⟨PyData.keyHash P (ucs [90,101,114,111,68,105,118,105,115,105,111,110,69,114,114,111,114]), .str (ucs [90,101,114,111,68,105,118,105,115,105,111,110,69,114,114,111,114]) 109, .type "ZeroDivisionError"⟩, ⟨PyData.keyHash P (ucs [66,121,116,101,115,87,97,114,110,105,110,103]), .str (ucs [66,121,116,101,115,87,97,114,110,105,110,103]) 110, .type "BytesWarning"⟩, ⟨PyData.keyHash P (ucs [68,101,112,114,101,99,97,116,105,111,110,87,97,114,110,105,110,103]), .str (ucs [68,101,112,114,101,99,97,116,105,111,110,87,97,114,110,105,110,103]) 111, .type "DeprecationWarning"⟩, ⟨PyData.keyHash P (ucs [69,110,99,111,100,105,110,103,87,97,114,110,105,110,103]), .str (ucs [69,110,99,111,100,105,110,103,87,97,114,110,105,110,103]) 112, .type "EncodingWarning"⟩, ⟨PyData.keyHash P (ucs [70,117,116,117,114,101,87,97,114,110,105,110,103]), .str (ucs [70,117,116,117,114,101,87,97,114,110,105,110,103]) 113, .type "FutureWarning"⟩, ⟨PyData.keyHash P (ucs [73,109,112,111,114,116,87,97,114,110,105,110,103]), .str (ucs [73,109,112,111,114,116,87,97,114,110,105,110,103]) 114, .type "ImportWarning"⟩, ⟨PyData.keyHash P (ucs [80,101,110,100,105,110,103,68,101,112,114,101,99,97,116,105,111,110,87,97,114,110,105,110,103]), .str (ucs [80,101,110,100,105,110,103,68,101,112,114,101,99,97,116,105,111,110,87,97,114,110,105,110,103]) 115, .type "PendingDeprecationWarning"⟩, ⟨PyData.keyHash P (ucs [82,101,115,111,117,114,99,101,87,97,114,110,105,110,103]), .str (ucs [82,101,115,111,117,114,99,101,87,97,114,110,105,110,103]) 116, .type "ResourceWarning"⟩, ⟨PyData.keyHash P (ucs [82,117,110,116,105,109,101,87,97,114,110,105,110,103]), .str (ucs [82,117,110,116,105,109,101,87,97,114,110,105,110,103]) 117, .type "RuntimeWarning"⟩, ⟨PyData.keyHash P (ucs [83,121,110,116,97,120,87,97,114,110,105,110,103]), .str (ucs [83,121,110,116,97,120,87,97,114,110,105,110,103]) 118, .type "SyntaxWarning"⟩, ⟨PyData.keyHash P (ucs [85,110,105,99,111,100,101,87,97,114,110,105,110,103]), .str (ucs [85,110,105,99,111,100,101,87,97,114,110,105,110,103]) 119, .type "UnicodeWarning"⟩, ⟨PyData.keyHash P (ucs [85,115,101,114,87,97,114,110,105,110,103]), .str (ucs [85,115,101,114,87,97,114,110,105,110,103]) 120, .type "UserWarning"⟩, ⟨PyData.keyHash P (ucs [66,108,111,99,107,105,110,103,73,79,69,114,114,111,114]), .str (ucs [66,108,111,99,107,105,110,103,73,79,69,114,114,111,114]) 121, .type "BlockingIOError"⟩, ⟨PyData.keyHash P (ucs [67,104,105,108,100,80,114,111,99,101,115,115,69,114,114,111,114]), .str (ucs [67,104,105,108,100,80,114,111,99,101,115,115,69,114,114,111,114]) 122, .type "ChildProcessError"⟩, ⟨PyData.keyHash P (ucs [67,111,110,110,101,99,116,105,111,110,69,114,114,111,114]), .str (ucs [67,111,110,110,101,99,116,105,111,110,69,114,114,111,114]) 123, .type "ConnectionError"⟩, ⟨PyData.keyHash P (ucs [70,105,108,101,69,120,105,115,116,115,69,114,114,111,114]), .str (ucs [70,105,108,101,69,120,105,115,116,115,69,114,114,111,114]) 124, .type "FileExistsError"⟩, ⟨PyData.keyHash P (ucs [70,105,108,101,78,111,116,70,111,117,110,100,69,114,114,111,114]), .str (ucs [70,105,108,101,78,111,116,70,111,117,110,100,69,114,114,111,114]) 125, .type "FileNotFoundError"⟩, ⟨PyData.keyHash P (ucs [73,110,116,101,114,114,117,112,116,101,100,69,114,114,111,114]), .str (ucs [73,110,116,101,114,114,117,112,116,101,100,69,114,114,111,114]) 126, .type "InterruptedError"⟩, ⟨PyData.keyHash P (ucs [73,115,65,68,105,114,101,99,116,111,114,121,69,114,114,111,114]), .str (ucs [73,115,65,68,105,114,101,99,116,111,114,121,69,114,114,111,114]) 127, .type "IsADirectoryError"⟩, ⟨PyData.keyHash P (ucs [78,111,116,65,68,105,114,101,99,116,111,114,121,69,114,114,111,114]), .str (ucs [78,111,116,65,68,105,114,101,99,116,111,114,121,69,114,114,111,114]) 128, .type "NotADirectoryError"⟩, ⟨PyData.keyHash P (ucs [80,101,114,109,105,115,115,105,111,110,69,114,114,111,114]), .str (ucs [80,101,114,109,105,115,115,105,111,110,69,114,114,111,114]) 129, .type "PermissionError"⟩, ⟨PyData.keyHash P (ucs [80,114,111,99,101,115,115,76,111,111,107,117,112,69,114,114,111,114]), .str (ucs [80,114,111,99,101,115,115,76,111,111,107,117,112,69,114,114,111,114]) 130, .type "ProcessLookupError"⟩, ⟨PyData.keyHash P (ucs [84,105,109,101,111,117,116,69,114,114,111,114]), .str (ucs [84,105,109,101,111,117,116,69,114,114,111,114]) 131, .type "TimeoutError"⟩, ⟨PyData.keyHash P (ucs [73,110,100,101,110,116,97,116,105,111,110,69,114,114,111,114]), .str (ucs [73,110,100,101,110,116,97,116,105,111,110,69,114,114,111,114]) 132, .type "IndentationError"⟩, ⟨PyData.keyHash P (ucs [95,73,110,99,111,109,112,108,101,116,101,73,110,112,117,116,69,114,114,111,114]), .str (ucs [95,73,110,99,111,109,112,108,101,116,101,73,110,112,117,116,69,114,114,111,114]) 133, .type "_IncompleteInputError"⟩, ⟨PyData.keyHash P (ucs [73,110,100,101,120,69,114,114,111,114]), .str (ucs [73,110,100,101,120,69,114,114,111,114]) 134, .type "IndexError"⟩, ⟨PyData.keyHash P (ucs [75,101,121,69,114,114,111,114]), .str (ucs [75,101,121,69,114,114,111,114]) 135, .type "KeyError"⟩, ⟨PyData.keyHash P (ucs [77,111,100,117,108,101,78,111,116,70,111,117,110,100,69,114,114,111,114]), .str (ucs [77,111,100,117,108,101,78,111,116,70,111,117,110,100,69,114,114,111,114]) 136, .type "ModuleNotFoundError"⟩, ⟨PyData.keyHash P (ucs [78,111,116,73,109,112,108,101,109,101,110,116,101,100,69,114,114,111,114]), .str (ucs [78,111,116,73,109,112,108,101,109,101,110,116,101,100,69,114,114,111,114]) 137, .type "NotImplementedError"⟩, ⟨PyData.keyHash P (ucs [80,121,116,104,111,110,70,105,110,97,108,105,122,97,116,105,111,110,69,114,114,111,114]), .str (ucs [80,121,116,104,111,110,70,105,110,97,108,105,122,97,116,105,111,110,69,114,114,111,114]) 138, .type "PythonFinalizationError"⟩, ⟨PyData.keyHash P (ucs [82,101,99,117,114,115,105,111,110,69,114,114,111,114]), .str (ucs [82,101,99,117,114,115,105,111,110,69,114,114,111,114]) 139, .type "RecursionError"⟩, ⟨PyData.keyHash P (ucs [85,110,98,111,117,110,100,76,111,99,97,108,69,114,114,111,114]), .str (ucs [85,110,98,111,117,110,100,76,111,99,97,108,69,114,114,111,114]) 140, .type "UnboundLocalError"⟩, ⟨PyData.keyHash P (ucs [85,110,105,99,111,100,101,69,114,114,111,114]), .str (ucs [85,110,105,99,111,100,101,69,114,114,111,114]) 141, .type "UnicodeError"⟩, ⟨PyData.keyHash P (ucs [66,114,111,107,101,110,80,105,112,101,69,114,114,111,114]), .str (ucs [66,114,111,107,101,110,80,105,112,101,69,114,114,111,114]) 142, .type "BrokenPipeError"⟩, ⟨PyData.keyHash P (ucs [67,111,110,110,101,99,116,105,111,110,65,98,111,114,116,101,100,69,114,114,111,114]), .str (ucs [67,111,110,110,101,99,116,105,111,110,65,98,111,114,116,101,100,69,114,114,111,114]) 143, .type "ConnectionAbortedError"⟩, ⟨PyData.keyHash P (ucs [67,111,110,110,101,99,116,105,111,110,82,101,102,117,115,101,100,69,114,114,111,114]), .str (ucs [67,111,110,110,101,99,116,105,111,110,82,101,102,117,115,101,100,69,114,114,111,114]) 144, .type "ConnectionRefusedError"⟩, ⟨PyData.keyHash P (ucs [67,111,110,110,101,99,116,105,111,110,82,101,115,101,116,69,114,114,111,114]), .str (ucs [67,111,110,110,101,99,116,105,111,110,82,101,115,101,116,69,114,114,111,114]) 145, .type "ConnectionResetError"⟩, ⟨PyData.keyHash P (ucs [84,97,98,69,114,114,111,114]), .str (ucs [84,97,98,69,114,114,111,114]) 146, .type "TabError"⟩, ⟨PyData.keyHash P (ucs [85,110,105,99,111,100,101,68,101,99,111,100,101,69,114,114,111,114]), .str (ucs [85,110,105,99,111,100,101,68,101,99,111,100,101,69,114,114,111,114]) 147, .type "UnicodeDecodeError"⟩, ⟨PyData.keyHash P (ucs [85,110,105,99,111,100,101,69,110,99,111,100,101,69,114,114,111,114]), .str (ucs [85,110,105,99,111,100,101,69,110,99,111,100,101,69,114,114,111,114]) 148, .type "UnicodeEncodeError"⟩, ⟨PyData.keyHash P (ucs [85,110,105,99,111,100,101,84,114,97,110,115,108,97,116,101,69,114,114,111,114]), .str (ucs [85,110,105,99,111,100,101,84,114,97,110,115,108,97,116,101,69,114,114,111,114]) 149, .type "UnicodeTranslateError"⟩, ⟨PyData.keyHash P (ucs [69,120,99,101,112,116,105,111,110,71,114,111,117,112]), .str (ucs [69,120,99,101,112,116,105,111,110,71,114,111,117,112]) 150, .type "ExceptionGroup"⟩, ⟨PyData.keyHash P (ucs [69,110,118,105,114,111,110,109,101,110,116,69,114,114,111,114]), .str (ucs [69,110,118,105,114,111,110,109,101,110,116,69,114,114,111,114]) 151, .type "OSError"⟩, ⟨PyData.keyHash P (ucs [73,79,69,114,114,111,114]), .str (ucs [73,79,69,114,114,111,114]) 152, .type "OSError"⟩, ⟨PyData.keyHash P (ucs [111,112,101,110]), .str (ucs [111,112,101,110]) 153, .builtin "open"⟩, ⟨PyData.keyHash P (ucs [113,117,105,116]), .str (ucs [113,117,105,116]) 154, .builtin "builtins.quit#opaque"⟩, ⟨PyData.keyHash P (ucs [101,120,105,116]), .str (ucs [101,120,105,116]) 155, .builtin "builtins.exit#opaque"⟩, ⟨PyData.keyHash P (ucs [99,111,112,121,114,105,103,104,116]), .str (ucs [99,111,112,121,114,105,103,104,116]) 156, .builtin "builtins.copyright#opaque"⟩, ⟨PyData.keyHash P (ucs [99,114,101,100,105,116,115]), .str (ucs [99,114,101,100,105,116,115]) 157, .builtin "builtins.credits#opaque"⟩, ⟨PyData.keyHash P (ucs [108,105,99,101,110,115,101]), .str (ucs [108,105,99,101,110,115,101]) 158, .builtin "builtins.license#opaque"⟩, ⟨PyData.keyHash P (ucs [104,101,108,112]), .str (ucs [104,101,108,112]) 159, .builtin "builtins.help#opaque"⟩] 159), #[]⟩,
  ⟨.type "dict", none, (.dict #[⟨PyData.keyHash P (ucs [98,117,105,108,116,105,110,115]), .str (ucs [98,117,105,108,116,105,110,115]) 162, .ref 4⟩, ⟨PyData.keyHash P (ucs [95,95,109,97,105,110,95,95]), .str (ucs [95,95,109,97,105,110,95,95]) 163, .ref 5⟩, ⟨PyData.keyHash P (ucs [95,111,112,101,114,97,116,111,114]), .str (ucs [95,111,112,101,114,97,116,111,114]) 250, .ref 13⟩] 3), #[]⟩,
  ⟨.none, none, (.dict #[⟨PyData.keyHash P (ucs [105,109,112,111,114,116,46,108,111,97,100,101,100,46,95,111,112,101,114,97,116,111,114]), .str (ucs [105,109,112,111,114,116,46,108,111,97,100,101,100,46,95,111,112,101,114,97,116,111,114]) 189, .bool true⟩, ⟨PyData.keyHash P (ucs [99,108,97,115,115,46,95,102,114,111,122,101,110,95,105,109,112,111,114,116,108,105,98,46,66,117,105,108,116,105,110,73,109,112,111,114,116,101,114]), .str (ucs [99,108,97,115,115,46,95,102,114,111,122,101,110,95,105,109,112,111,114,116,108,105,98,46,66,117,105,108,116,105,110,73,109,112,111,114,116,101,114]) 191, .ref 15⟩, ⟨PyData.keyHash P (ucs [119,97,116,99,104,101,100,46,105,109,112,111,114,116]), .str (ucs [119,97,116,99,104,101,100,46,105,109,112,111,114,116]) 212, .ref 19⟩, ⟨PyData.keyHash P (ucs [99,108,97,115,115,46,95,102,114,111,122,101,110,95,105,109,112,111,114,116,108,105,98,46,77,111,100,117,108,101,83,112,101,99]), .str (ucs [99,108,97,115,115,46,95,102,114,111,122,101,110,95,105,109,112,111,114,116,108,105,98,46,77,111,100,117,108,101,83,112,101,99]) 222, .ref 23⟩, ⟨PyData.keyHash P (ucs [115,121,115,46,109,111,100,117,108,101,115,46,98,111,111,107,101,100,45,101,112,111,99,104]), .str (ucs [115,121,115,46,109,111,100,117,108,101,115,46,98,111,111,107,101,100,45,101,112,111,99,104]) 251, .int (3) 0⟩, ⟨PyData.keyHash P (ucs [115,121,115,46,109,111,100,117,108,101,115,46,108,97,110,100,101,100,46,95,111,112,101,114,97,116,111,114]), .str (ucs [115,121,115,46,109,111,100,117,108,101,115,46,108,97,110,100,101,100,46,95,111,112,101,114,97,116,111,114]) 252, .bool true⟩, ⟨PyData.keyHash P (ucs [105,109,112,111,114,116,46,108,97,116,101,114,45,108,97,105,100,46,95,111,112,101,114,97,116,111,114]), .str (ucs [105,109,112,111,114,116,46,108,97,116,101,114,45,108,97,105,100,46,95,111,112,101,114,97,116,111,114]) 316, .bool true⟩, ⟨PyData.keyHash P (ucs [119,97,116,99,104,101,100,46,108,105,98,114,97,114,121]), .str (ucs [119,97,116,99,104,101,100,46,108,105,98,114,97,114,121]) 318, .ref 28⟩, ⟨PyData.keyHash P (ucs [119,97,116,99,104,101,100,46,108,105,98,114,97,114,121,45,111,98,106,101,99,116,115]), .str (ucs [119,97,116,99,104,101,100,46,108,105,98,114,97,114,121,45,111,98,106,101,99,116,115]) 0, .str (ucs [13]) 0⟩, ⟨PyData.keyHash P (ucs [119,97,116,99,104,101,100,46,108,105,98,114,97,114,121,45,100,101,101,112,46,95,111,112,101,114,97,116,111,114]), .str (ucs [119,97,116,99,104,101,100,46,108,105,98,114,97,114,121,45,100,101,101,112,46,95,111,112,101,114,97,116,111,114]) 319, .str (ucs [4,0,0,12,4,0,0,12,4,0,0,3,4,0,0,12,8,4,100,105,99,116,2]) 0⟩] 10), #[]⟩,
  ⟨.type "dict", none, (.dict #[⟨PyData.keyHash P (ucs [95,95,110,97,109,101,95,95]), .str (ucs [95,95,110,97,109,101,95,95]) 165, .str (ucs [95,95,109,97,105,110,95,95]) 164⟩, ⟨PyData.keyHash P (ucs [95,95,100,111,99,95,95]), .str (ucs [95,95,100,111,99,95,95]) 166, .none⟩, ⟨PyData.keyHash P (ucs [95,95,112,97,99,107,97,103,101,95,95]), .str (ucs [95,95,112,97,99,107,97,103,101,95,95]) 167, .none⟩, ⟨PyData.keyHash P (ucs [95,95,108,111,97,100,101,114,95,95]), .str (ucs [95,95,108,111,97,100,101,114,95,95]) 168, .builtin "__main__.__loader__#opaque"⟩, ⟨PyData.keyHash P (ucs [95,95,115,112,101,99,95,95]), .str (ucs [95,95,115,112,101,99,95,95]) 169, .none⟩, ⟨PyData.keyHash P (ucs [95,95,97,110,110,111,116,97,116,105,111,110,115,95,95]), .str (ucs [95,95,97,110,110,111,116,97,116,105,111,110,115,95,95]) 170, .ref 6⟩, ⟨PyData.keyHash P (ucs [95,95,98,117,105,108,116,105,110,115,95,95]), .str (ucs [95,95,98,117,105,108,116,105,110,115,95,95]) 171, .ref 4⟩, ⟨PyData.keyHash P (ucs [95,95,102,105,108,101,95,95]), .str (ucs [95,95,102,105,108,101,95,95]) 173, .str (ucs [47,99,108,97,105,109,47,99,117,116,46,112,121]) 172⟩, ⟨PyData.keyHash P (ucs [95,95,99,97,99,104,101,100,95,95]), .str (ucs [95,95,99,97,99,104,101,100,95,95]) 174, .none⟩, ⟨PyData.keyHash P (ucs [101,113]), .str (ucs [101,113]) 325, .builtin "_operator.eq"⟩, ⟨PyData.keyHash P (ucs [103,101]), .str (ucs [103,101]) 328, .builtin "_operator.ge"⟩, ⟨PyData.keyHash P (ucs [103,116]), .str (ucs [103,116]) 331, .builtin "_operator.gt"⟩, ⟨PyData.keyHash P (ucs [108,101]), .str (ucs [108,101]) 334, .builtin "_operator.le"⟩, ⟨PyData.keyHash P (ucs [108,116]), .str (ucs [108,116]) 337, .builtin "_operator.lt"⟩] 14), #[]⟩,
  ⟨.type "module", (some 0), .plain, #[]⟩,
  ⟨.type "module", (some 3), .plain, #[]⟩,
  ⟨.type "dict", none, (.dict #[] 0), #[]⟩,
  ⟨.type "tuple", none, (.seq #[] 0), #[]⟩,
  ⟨.none, none, (.fields #[]), #[]⟩,
  ⟨.type "code", none, (.fields #[.str (ucs [60,109,111,100,117,108,101,62]) 176, .str (ucs [60,109,111,100,117,108,101,62]) 177, .str (ucs [47,99,108,97,105,109,47,99,117,116,46,112,121]) 178, .int (1) 0, .int (0) 0, .int (0) 0, .int (0) 0, .int (0) 0, .ref 7, .bool false, .int (175) 0, .ref 8, .none, .none, .none, .none, .int (179) 0, .int (1) 0, .str (ucs [47,99,108,97,105,109,47,99,117,116,46,112,121]) 180]), #[]⟩,
  ⟨.type "frame", none, .plain, #[(some (.ref 9)), (some (.ref 3)), (some (.ref 3)), none, (some (.str (ucs [95,95,109,97,105,110,95,95]) 164)), none, (some (.ref 0))]⟩,
  ⟨.type "tuple", none, (.seq #[.str (ucs [101,113]) 182, .str (ucs [103,101]) 183, .str (ucs [103,116]) 184, .str (ucs [108,101]) 185, .str (ucs [108,116]) 186] 0), #[]⟩,
  ⟨.type "dict", none, (.dict #[⟨PyData.keyHash P (ucs [95,95,110,97,109,101,95,95]), .str (ucs [95,95,110,97,109,101,95,95]) 254, .str (ucs [95,111,112,101,114,97,116,111,114]) 253⟩, ⟨PyData.keyHash P (ucs [95,95,100,111,99,95,95]), .str (ucs [95,95,100,111,99,95,95]) 255, .builtin "off-the-table:_operator.__doc__:shared#opaque"⟩, ⟨PyData.keyHash P (ucs [95,95,112,97,99,107,97,103,101,95,95]), .str (ucs [95,95,112,97,99,107,97,103,101,95,95]) 257, .str (ucs []) 256⟩, ⟨PyData.keyHash P (ucs [95,95,108,111,97,100,101,114,95,95]), .str (ucs [95,95,108,111,97,100,101,114,95,95]) 258, .builtin "off-the-table:_operator.__loader__:shared#opaque"⟩, ⟨PyData.keyHash P (ucs [95,95,115,112,101,99,95,95]), .str (ucs [95,95,115,112,101,99,95,95]) 259, .builtin "off-the-table:_operator.__spec__:shared#opaque"⟩, ⟨PyData.keyHash P (ucs [116,114,117,116,104]), .str (ucs [116,114,117,116,104]) 260, .builtin "_operator.truth"⟩, ⟨PyData.keyHash P (ucs [99,111,110,116,97,105,110,115]), .str (ucs [99,111,110,116,97,105,110,115]) 261, .builtin "_operator.contains"⟩, ⟨PyData.keyHash P (ucs [105,110,100,101,120,79,102]), .str (ucs [105,110,100,101,120,79,102]) 262, .builtin "_operator.indexOf"⟩, ⟨PyData.keyHash P (ucs [99,111,117,110,116,79,102]), .str (ucs [99,111,117,110,116,79,102]) 263, .builtin "_operator.countOf"⟩, ⟨PyData.keyHash P (ucs [105,115,95]), .str (ucs [105,115,95]) 264, .builtin "_operator.is_"⟩, ⟨PyData.keyHash P (ucs [105,115,95,110,111,116]), .str (ucs [105,115,95,110,111,116]) 265, .builtin "_operator.is_not"⟩, ⟨PyData.keyHash P (ucs [105,110,100,101,120]), .str (ucs [105,110,100,101,120]) 266, .builtin "_operator.index"⟩, ⟨PyData.keyHash P (ucs [97,100,100]), .str (ucs [97,100,100]) 267, .builtin "_operator.add"⟩, ⟨PyData.keyHash P (ucs [115,117,98]), .str (ucs [115,117,98]) 268, .builtin "_operator.sub"⟩, ⟨PyData.keyHash P (ucs [109,117,108]), .str (ucs [109,117,108]) 269, .builtin "_operator.mul"⟩, ⟨PyData.keyHash P (ucs [109,97,116,109,117,108]), .str (ucs [109,97,116,109,117,108]) 270, .builtin "_operator.matmul"⟩, ⟨PyData.keyHash P (ucs [102,108,111,111,114,100,105,118]), .str (ucs [102,108,111,111,114,100,105,118]) 271, .builtin "_operator.floordiv"⟩, ⟨PyData.keyHash P (ucs [116,114,117,101,100,105,118]), .str (ucs [116,114,117,101,100,105,118]) 272, .builtin "_operator.truediv"⟩, ⟨PyData.keyHash P (ucs [109,111,100]), .str (ucs [109,111,100]) 273, .builtin "_operator.mod"⟩, ⟨PyData.keyHash P (ucs [110,101,103]), .str (ucs [110,101,103]) 274, .builtin "_operator.neg"⟩, ⟨PyData.keyHash P (ucs [112,111,115]), .str (ucs [112,111,115]) 275, .builtin "_operator.pos"⟩, ⟨PyData.keyHash P (ucs [97,98,115]), .str (ucs [97,98,115]) 276, .builtin "_operator.abs"⟩, ⟨PyData.keyHash P (ucs [105,110,118]), .str (ucs [105,110,118]) 277, .builtin "_operator.inv"⟩, ⟨PyData.keyHash P (ucs [105,110,118,101,114,116]), .str (ucs [105,110,118,101,114,116]) 278, .builtin "_operator.invert"⟩, ⟨PyData.keyHash P (ucs [108,115,104,105,102,116]), .str (ucs [108,115,104,105,102,116]) 279, .builtin "_operator.lshift"⟩, ⟨PyData.keyHash P (ucs [114,115,104,105,102,116]), .str (ucs [114,115,104,105,102,116]) 280, .builtin "_operator.rshift"⟩, ⟨PyData.keyHash P (ucs [110,111,116,95]), .str (ucs [110,111,116,95]) 281, .builtin "_operator.not_"⟩, ⟨PyData.keyHash P (ucs [97,110,100,95]), .str (ucs [97,110,100,95]) 282, .builtin "_operator.and_"⟩, ⟨PyData.keyHash P (ucs [120,111,114]), .str (ucs [120,111,114]) 283, .builtin "_operator.xor"⟩, ⟨PyData.keyHash P (ucs [111,114,95]), .str (ucs [111,114,95]) 284, .builtin "_operator.or_"⟩, ⟨PyData.keyHash P (ucs [105,97,100,100]), .str (ucs [105,97,100,100]) 285, .builtin "_operator.iadd"⟩, ⟨PyData.keyHash P (ucs [105,115,117,98]), .str (ucs [105,115,117,98]) 286, .builtin "_operator.isub"⟩, ⟨PyData.keyHash P (ucs [105,109,117,108]), .str (ucs [105,109,117,108]) 287, .builtin "_operator.imul"⟩, ⟨PyData.keyHash P (ucs [105,109,97,116,109,117,108]), .str (ucs [105,109,97,116,109,117,108]) 288, .builtin "_operator.imatmul"⟩, ⟨PyData.keyHash P (ucs [105,102,108,111,111,114,100,105,118]), .str (ucs [105,102,108,111,111,114,100,105,118]) 289, .builtin "_operator.ifloordiv"⟩, ⟨PyData.keyHash P (ucs [105,116,114,117,101,100,105,118]), .str (ucs [105,116,114,117,101,100,105,118]) 290, .builtin "_operator.itruediv"⟩, ⟨PyData.keyHash P (ucs [105,109,111,100]), .str (ucs [105,109,111,100]) 291, .builtin "_operator.imod"⟩, ⟨PyData.keyHash P (ucs [105,108,115,104,105,102,116]), .str (ucs [105,108,115,104,105,102,116]) 292, .builtin "_operator.ilshift"⟩, ⟨PyData.keyHash P (ucs [105,114,115,104,105,102,116]), .str (ucs [105,114,115,104,105,102,116]) 293, .builtin "_operator.irshift"⟩, ⟨PyData.keyHash P (ucs [105,97,110,100]), .str (ucs [105,97,110,100]) 294, .builtin "_operator.iand"⟩, ⟨PyData.keyHash P (ucs [105,120,111,114]), .str (ucs [105,120,111,114]) 295, .builtin "_operator.ixor"⟩, ⟨PyData.keyHash P (ucs [105,111,114]), .str (ucs [105,111,114]) 296, .builtin "_operator.ior"⟩, ⟨PyData.keyHash P (ucs [99,111,110,99,97,116]), .str (ucs [99,111,110,99,97,116]) 297, .builtin "_operator.concat"⟩, ⟨PyData.keyHash P (ucs [105,99,111,110,99,97,116]), .str (ucs [105,99,111,110,99,97,116]) 298, .builtin "_operator.iconcat"⟩, ⟨PyData.keyHash P (ucs [103,101,116,105,116,101,109]), .str (ucs [103,101,116,105,116,101,109]) 299, .builtin "_operator.getitem"⟩, ⟨PyData.keyHash P (ucs [115,101,116,105,116,101,109]), .str (ucs [115,101,116,105,116,101,109]) 300, .builtin "_operator.setitem"⟩, ⟨PyData.keyHash P (ucs [100,101,108,105,116,101,109]), .str (ucs [100,101,108,105,116,101,109]) 301, .builtin "_operator.delitem"⟩, ⟨PyData.keyHash P (ucs [112,111,119]), .str (ucs [112,111,119]) 302, .builtin "_operator.pow"⟩, ⟨PyData.keyHash P (ucs [105,112,111,119]), .str (ucs [105,112,111,119]) 303, .builtin "_operator.ipow"⟩, ⟨PyData.keyHash P (ucs [101,113]), .str (ucs [101,113]) 304, .builtin "_operator.eq"⟩, ⟨PyData.keyHash P (ucs [110,101]), .str (ucs [110,101]) 305, .builtin "_operator.ne"⟩, ⟨PyData.keyHash P (ucs [108,116]), .str (ucs [108,116]) 306, .builtin "_operator.lt"⟩, ⟨PyData.keyHash P (ucs [108,101]), .str (ucs [108,101]) 307, .builtin "_operator.le"⟩, ⟨PyData.keyHash P (ucs [103,116]), .str (ucs [103,116]) 308, .builtin "_operator.gt"⟩, ⟨PyData.keyHash P (ucs [103,101]), .str (ucs [103,101]) 309, .builtin "_operator.ge"⟩, ⟨PyData.keyHash P (ucs [95,99,111,109,112,97,114,101,95,100,105,103,101,115,116]), .str (ucs [95,99,111,109,112,97,114,101,95,100,105,103,101,115,116]) 310, .builtin "off-the-table:_operator._compare_digest:shared#opaque"⟩, ⟨PyData.keyHash P (ucs [108,101,110,103,116,104,95,104,105,110,116]), .str (ucs [108,101,110,103,116,104,95,104,105,110,116]) 311, .builtin "_operator.length_hint"⟩, ⟨PyData.keyHash P (ucs [99,97,108,108]), .str (ucs [99,97,108,108]) 312, .builtin "_operator.call"⟩, ⟨PyData.keyHash P (ucs [97,116,116,114,103,101,116,116,101,114]), .str (ucs [97,116,116,114,103,101,116,116,101,114]) 313, .builtin "off-the-table:_operator.attrgetter:shared#opaque"⟩, ⟨PyData.keyHash P (ucs [105,116,101,109,103,101,116,116,101,114]), .str (ucs [105,116,101,109,103,101,116,116,101,114]) 314, .type "operator.itemgetter"⟩, ⟨PyData.keyHash P (ucs [109,101,116,104,111,100,99,97,108,108,101,114]), .str (ucs [109,101,116,104,111,100,99,97,108,108,101,114]) 315, .builtin "off-the-table:_operator.methodcaller:shared#opaque"⟩] 61), #[]⟩,
  ⟨.type "module", (some 12), .plain, #[]⟩,
  ⟨.type "dict", none, (.dict #[⟨PyData.keyHash P (ucs [95,95,109,111,100,117,108,101,95,95]), .str (ucs [95,95,109,111,100,117,108,101,95,95]) 195, .str (ucs [95,102,114,111,122,101,110,95,105,109,112,111,114,116,108,105,98]) 192⟩, ⟨PyData.keyHash P (ucs [95,95,102,105,114,115,116,108,105,110,101,110,111,95,95]), .str (ucs [95,95,102,105,114,115,116,108,105,110,101,110,111,95,95]) 196, .int (971) 193⟩, ⟨PyData.keyHash P (ucs [95,95,100,111,99,95,95]), .str (ucs [95,95,100,111,99,95,95]) 197, .builtin "_frozen_importlib.BuiltinImporter.__doc__:str#opaque"⟩, ⟨PyData.keyHash P (ucs [95,79,82,73,71,73,78]), .str (ucs [95,79,82,73,71,73,78]) 198, .str (ucs [98,117,105,108,116,45,105,110]) 194⟩, ⟨PyData.keyHash P (ucs [102,105,110,100,95,115,112,101,99]), .str (ucs [102,105,110,100,95,115,112,101,99]) 199, .builtin "_frozen_importlib.BuiltinImporter.find_spec#opaque"⟩, ⟨PyData.keyHash P (ucs [99,114,101,97,116,101,95,109,111,100,117,108,101]), .str (ucs [99,114,101,97,116,101,95,109,111,100,117,108,101]) 200, .builtin "_frozen_importlib.BuiltinImporter.create_module#opaque"⟩, ⟨PyData.keyHash P (ucs [101,120,101,99,95,109,111,100,117,108,101]), .str (ucs [101,120,101,99,95,109,111,100,117,108,101]) 201, .builtin "_frozen_importlib.BuiltinImporter.exec_module#opaque"⟩, ⟨PyData.keyHash P (ucs [103,101,116,95,99,111,100,101]), .str (ucs [103,101,116,95,99,111,100,101]) 202, .builtin "_frozen_importlib.BuiltinImporter.get_code#opaque"⟩, ⟨PyData.keyHash P (ucs [103,101,116,95,115,111,117,114,99,101]), .str (ucs [103,101,116,95,115,111,117,114,99,101]) 203, .builtin "_frozen_importlib.BuiltinImporter.get_source#opaque"⟩, ⟨PyData.keyHash P (ucs [105,115,95,112,97,99,107,97,103,101]), .str (ucs [105,115,95,112,97,99,107,97,103,101]) 204, .builtin "_frozen_importlib.BuiltinImporter.is_package#opaque"⟩, ⟨PyData.keyHash P (ucs [108,111,97,100,95,109,111,100,117,108,101]), .str (ucs [108,111,97,100,95,109,111,100,117,108,101]) 205, .builtin "_frozen_importlib.BuiltinImporter.load_module#opaque"⟩, ⟨PyData.keyHash P (ucs [95,95,115,116,97,116,105,99,95,97,116,116,114,105,98,117,116,101,115,95,95]), .str (ucs [95,95,115,116,97,116,105,99,95,97,116,116,114,105,98,117,116,101,115,95,95]) 206, .ref 16⟩, ⟨PyData.keyHash P (ucs [95,95,100,105,99,116,95,95]), .str (ucs [95,95,100,105,99,116,95,95]) 208, .ref 17⟩, ⟨PyData.keyHash P (ucs [95,95,119,101,97,107,114,101,102,95,95]), .str (ucs [95,95,119,101,97,107,114,101,102,95,95]) 210, .ref 18⟩] 14), #[]⟩,
  ⟨.type "type", none, (.cls { name := (ucs [66,117,105,108,116,105,110,73,109,112,111,114,116,101,114]), bases := [.type "object"], mro := [.ref 15, .type "object"], ns := 14, qualname := (ucs [66,117,105,108,116,105,110,73,109,112,111,114,116,101,114]), hasDict := true, slotNames := [], subclasses := [], abstract := false, collection := none, hasDel := false }), #[]⟩,
  ⟨.type "tuple", none, (.seq #[] 0), #[]⟩,
  ⟨.type "getset_descriptor", none, (.fields #[.str (ucs [95,95,100,105,99,116,95,95]) 207, .ref 15, .builtin "function.__dict__", .builtin "function.__dict__#set"]), #[]⟩,
  ⟨.type "getset_descriptor", none, (.fields #[.str (ucs [95,95,119,101,97,107,114,101,102,95,95]) 209, .ref 15, .builtin "ExceptionGroup.__weakref__", .none]), #[]⟩,
  ⟨.none, none, (.seq #[.int (14) 0, .str (ucs [6,195,10,95,95,109,111,100,117,108,101,95,95,6,192,17,95,102,114,111,122,101,110,95,105,109,112,111,114,116,108,105,98,6,196,15,95,95,102,105,114,115,116,108,105,110,101,110,111,95,95,4,193,0,971,6,197,7,95,95,100,111,99,95,95,9,52,95,102,114,111,122,101,110,95,105,109,112,111,114,116,108,105,98,46,66,117,105,108,116,105,110,73,109,112,111,114,116,101,114,46,95,95,100,111,99,95,95,58,115,116,114,35,111,112,97,113,117,101,6,198,7,95,79,82,73,71,73,78,6,194,8,98,117,105,108,116,45,105,110,6,199,9,102,105,110,100,95,115,112,101,99,9,50,95,102,114,111,122,101,110,95,105,109,112,111,114,116,108,105,98,46,66,117,105,108,116,105,110,73,109,112,111,114,116,101,114,46,102,105,110,100,95,115,112,101,99,35,111,112,97,113,117,101,6,200,13,99,114,101,97,116,101,95,109,111,100,117,108,101,9,54,95,102,114,111,122,101,110,95,105,109,112,111,114,116,108,105,98,46,66,117,105,108,116,105,110,73,109,112,111,114,116,101,114,46,99,114,101,97,116,101,95,109,111,100,117,108,101,35,111,112,97,113,117,101,6,201,11,101,120,101,99,95,109,111,100,117,108,101,9,52,95,102,114,111,122,101,110,95,105,109,112,111,114,116,108,105,98,46,66,117,105,108,116,105,110,73,109,112,111,114,116,101,114,46,101,120,101,99,95,109,111,100,117,108,101,35,111,112,97,113,117,101,6,202,8,103,101,116,95,99,111,100,101,9,49,95,102,114,111,122,101,110,95,105,109,112,111,114,116,108,105,98,46,66,117,105,108,116,105,110,73,109,112,111,114,116,101,114,46,103,101,116,95,99,111,100,101,35,111,112,97,113,117,101,6,203,10,103,101,116,95,115,111,117,114,99,101,9,51,95,102,114,111,122,101,110,95,105,109,112,111,114,116,108,105,98,46,66,117,105,108,116,105,110,73,109,112,111,114,116,101,114,46,103,101,116,95,115,111,117,114,99,101,35,111,112,97,113,117,101,6,204,10,105,115,95,112,97,99,107,97,103,101,9,51,95,102,114,111,122,101,110,95,105,109,112,111,114,116,108,105,98,46,66,117,105,108,116,105,110,73,109,112,111,114,116,101,114,46,105,115,95,112,97,99,107,97,103,101,35,111,112,97,113,117,101,6,205,11,108,111,97,100,95,109,111,100,117,108,101,9,52,95,102,114,111,122,101,110,95,105,109,112,111,114,116,108,105,98,46,66,117,105,108,116,105,110,73,109,112,111,114,116,101,114,46,108,111,97,100,95,109,111,100,117,108,101,35,111,112,97,113,117,101,6,206,21,95,95,115,116,97,116,105,99,95,97,116,116,114,105,98,117,116,101,115,95,95,4,0,0,16,6,208,8,95,95,100,105,99,116,95,95,4,0,0,17,6,210,11,95,95,119,101,97,107,114,101,102,95,95,4,0,0,18]) 0, .bool true, .bool true, .str (ucs []) 211, .int (22) 0, .str (ucs [6,233,10,95,95,109,111,100,117,108,101,95,95,6,223,17,95,102,114,111,122,101,110,95,105,109,112,111,114,116,108,105,98,6,234,15,95,95,102,105,114,115,116,108,105,110,101,110,111,95,95,4,224,0,562,6,235,7,95,95,100,111,99,95,95,9,47,95,102,114,111,122,101,110,95,105,109,112,111,114,116,108,105,98,46,77,111,100,117,108,101,83,112,101,99,46,95,95,100,111,99,95,95,58,115,116,114,35,111,112,97,113,117,101,6,236,8,95,95,105,110,105,116,95,95,9,44,95,102,114,111,122,101,110,95,105,109,112,111,114,116,108,105,98,46,77,111,100,117,108,101,83,112,101,99,46,95,95,105,110,105,116,95,95,35,111,112,97,113,117,101,6,237,8,95,95,114,101,112,114,95,95,9,44,95,102,114,111,122,101,110,95,105,109,112,111,114,116,108,105,98,46,77,111,100,117,108,101,83,112,101,99,46,95,95,114,101,112,114,95,95,35,111,112,97,113,117,101,6,238,6,95,95,101,113,95,95,9,42,95,102,114,111,122,101,110,95,105,109,112,111,114,116,108,105,98,46,77,111,100,117,108,101,83,112,101,99,46,95,95,101,113,95,95,35,111,112,97,113,117,101,6,239,6,99,97,99,104,101,100,9,42,95,102,114,111,122,101,110,95,105,109,112,111,114,116,108,105,98,46,77,111,100,117,108,101,83,112,101,99,46,99,97,99,104,101,100,35,111,112,97,113,117,101,6,240,6,112,97,114,101,110,116,9,42,95,102,114,111,122,101,110,95,105,109,112,111,114,116,108,105,98,46,77,111,100,117,108,101,83,112,101,99,46,112,97,114,101,110,116,35,111,112,97,113,117,101,6,241,12,104,97,115,95,108,111,99,97,116,105,111,110,9,48,95,102,114,111,122,101,110,95,105,109,112,111,114,116,108,105,98,46,77,111,100,117,108,101,83,112,101,99,46,104,97,115,95,108,111,99,97,116,105,111,110,35,111,112,97,113,117,101,6,242,21,95,95,115,116,97,116,105,99,95,97,116,116,114,105,98,117,116,101,115,95,95,4,0,0,24,6,244,8,95,95,100,105,99,116,95,95,4,0,0,25,6,246,11,95,95,119,101,97,107,114,101,102,95,95,4,0,0,26,6,247,8,95,95,104,97,115,104,95,95,0]) 0, .bool true, .bool true, .str (ucs []) 248] 1), #[]⟩,
  ⟨.type "list", none, (.seq #[] 0), #[]⟩,
  ⟨.type "dict", none, (.dict #[⟨PyData.keyHash P (ucs [110,97,109,101]), .str (ucs [110,97,109,101]) 214, .str (ucs [95,111,112,101,114,97,116,111,114]) 213⟩, ⟨PyData.keyHash P (ucs [108,111,97,100,101,114]), .str (ucs [108,111,97,100,101,114]) 215, .ref 15⟩, ⟨PyData.keyHash P (ucs [111,114,105,103,105,110]), .str (ucs [111,114,105,103,105,110]) 216, .str (ucs [98,117,105,108,116,45,105,110]) 190⟩, ⟨PyData.keyHash P (ucs [108,111,97,100,101,114,95,115,116,97,116,101]), .str (ucs [108,111,97,100,101,114,95,115,116,97,116,101]) 217, .none⟩, ⟨PyData.keyHash P (ucs [115,117,98,109,111,100,117,108,101,95,115,101,97,114,99,104,95,108,111,99,97,116,105,111,110,115]), .str (ucs [115,117,98,109,111,100,117,108,101,95,115,101,97,114,99,104,95,108,111,99,97,116,105,111,110,115]) 218, .none⟩, ⟨PyData.keyHash P (ucs [95,117,110,105,110,105,116,105,97,108,105,122,101,100,95,115,117,98,109,111,100,117,108,101,115]), .str (ucs [95,117,110,105,110,105,116,105,97,108,105,122,101,100,95,115,117,98,109,111,100,117,108,101,115]) 219, .ref 20⟩, ⟨PyData.keyHash P (ucs [95,115,101,116,95,102,105,108,101,97,116,116,114]), .str (ucs [95,115,101,116,95,102,105,108,101,97,116,116,114]) 220, .bool false⟩, ⟨PyData.keyHash P (ucs [95,99,97,99,104,101,100]), .str (ucs [95,99,97,99,104,101,100]) 221, .none⟩, ⟨PyData.keyHash P (ucs [95,105,110,105,116,105,97,108,105,122,105,110,103]), .str (ucs [95,105,110,105,116,105,97,108,105,122,105,110,103]) 249, .bool false⟩] 9), #[]⟩,
  ⟨.type "dict", none, (.dict #[⟨PyData.keyHash P (ucs [95,95,109,111,100,117,108,101,95,95]), .str (ucs [95,95,109,111,100,117,108,101,95,95]) 233, .str (ucs [95,102,114,111,122,101,110,95,105,109,112,111,114,116,108,105,98]) 223⟩, ⟨PyData.keyHash P (ucs [95,95,102,105,114,115,116,108,105,110,101,110,111,95,95]), .str (ucs [95,95,102,105,114,115,116,108,105,110,101,110,111,95,95]) 234, .int (562) 224⟩, ⟨PyData.keyHash P (ucs [95,95,100,111,99,95,95]), .str (ucs [95,95,100,111,99,95,95]) 235, .builtin "_frozen_importlib.ModuleSpec.__doc__:str#opaque"⟩, ⟨PyData.keyHash P (ucs [95,95,105,110,105,116,95,95]), .str (ucs [95,95,105,110,105,116,95,95]) 236, .builtin "_frozen_importlib.ModuleSpec.__init__#opaque"⟩, ⟨PyData.keyHash P (ucs [95,95,114,101,112,114,95,95]), .str (ucs [95,95,114,101,112,114,95,95]) 237, .builtin "_frozen_importlib.ModuleSpec.__repr__#opaque"⟩, ⟨PyData.keyHash P (ucs [95,95,101,113,95,95]), .str (ucs [95,95,101,113,95,95]) 238, .builtin "_frozen_importlib.ModuleSpec.__eq__#opaque"⟩, ⟨PyData.keyHash P (ucs [99,97,99,104,101,100]), .str (ucs [99,97,99,104,101,100]) 239, .builtin "_frozen_importlib.ModuleSpec.cached#opaque"⟩, ⟨PyData.keyHash P (ucs [112,97,114,101,110,116]), .str (ucs [112,97,114,101,110,116]) 240, .builtin "_frozen_importlib.ModuleSpec.parent#opaque"⟩, ⟨PyData.keyHash P (ucs [104,97,115,95,108,111,99,97,116,105,111,110]), .str (ucs [104,97,115,95,108,111,99,97,116,105,111,110]) 241, .builtin "_frozen_importlib.ModuleSpec.has_location#opaque"⟩, ⟨PyData.keyHash P (ucs [95,95,115,116,97,116,105,99,95,97,116,116,114,105,98,117,116,101,115,95,95]), .str (ucs [95,95,115,116,97,116,105,99,95,97,116,116,114,105,98,117,116,101,115,95,95]) 242, .ref 24⟩, ⟨PyData.keyHash P (ucs [95,95,100,105,99,116,95,95]), .str (ucs [95,95,100,105,99,116,95,95]) 244, .ref 25⟩, ⟨PyData.keyHash P (ucs [95,95,119,101,97,107,114,101,102,95,95]), .str (ucs [95,95,119,101,97,107,114,101,102,95,95]) 246, .ref 26⟩, ⟨PyData.keyHash P (ucs [95,95,104,97,115,104,95,95]), .str (ucs [95,95,104,97,115,104,95,95]) 247, .none⟩] 13), #[]⟩,
  ⟨.type "type", none, (.cls { name := (ucs [77,111,100,117,108,101,83,112,101,99]), bases := [.type "object"], mro := [.ref 23, .type "object"], ns := 22, qualname := (ucs [77,111,100,117,108,101,83,112,101,99]), hasDict := true, slotNames := [], subclasses := [], abstract := false, collection := none, hasDel := false }), #[]⟩,
  ⟨.type "tuple", none, (.seq #[.str (ucs [95,99,97,99,104,101,100]) 225, .str (ucs [95,115,101,116,95,102,105,108,101,97,116,116,114]) 226, .str (ucs [95,117,110,105,110,105,116,105,97,108,105,122,101,100,95,115,117,98,109,111,100,117,108,101,115]) 227, .str (ucs [108,111,97,100,101,114]) 228, .str (ucs [108,111,97,100,101,114,95,115,116,97,116,101]) 229, .str (ucs [110,97,109,101]) 230, .str (ucs [111,114,105,103,105,110]) 231, .str (ucs [115,117,98,109,111,100,117,108,101,95,115,101,97,114,99,104,95,108,111,99,97,116,105,111,110,115]) 232] 0), #[]⟩,
  ⟨.type "getset_descriptor", none, (.fields #[.str (ucs [95,95,100,105,99,116,95,95]) 243, .ref 23, .builtin "function.__dict__", .builtin "function.__dict__#set"]), #[]⟩,
  ⟨.type "getset_descriptor", none, (.fields #[.str (ucs [95,95,119,101,97,107,114,101,102,95,95]) 245, .ref 23, .builtin "ExceptionGroup.__weakref__", .none]), #[]⟩,
  ⟨.ref 23, (some 21), .plain, #[]⟩,
  ⟨.none, none, (.seq #[.int (12) 0, .str (ucs [6,254,8,95,95,110,97,109,101,95,95,6,253,9,95,111,112,101,114,97,116,111,114,6,255,7,95,95,100,111,99,95,95,9,28,95,111,112,101,114,97,116,111,114,46,95,95,100,111,99,95,95,58,115,116,114,35,111,112,97,113,117,101,6,257,11,95,95,112,97,99,107,97,103,101,95,95,6,256,0,6,258,10,95,95,108,111,97,100,101,114,95,95,4,0,0,15,6,259,8,95,95,115,112,101,99,95,95,4,0,0,27,6,260,5,116,114,117,116,104,9,15,95,111,112,101,114,97,116,111,114,46,116,114,117,116,104,6,261,8,99,111,110,116,97,105,110,115,9,18,95,111,112,101,114,97,116,111,114,46,99,111,110,116,97,105,110,115,6,262,7,105,110,100,101,120,79,102,9,17,95,111,112,101,114,97,116,111,114,46,105,110,100,101,120,79,102,6,263,7,99,111,117,110,116,79,102,9,17,95,111,112,101,114,97,116,111,114,46,99,111,117,110,116,79,102,6,264,3,105,115,95,9,13,95,111,112,101,114,97,116,111,114,46,105,115,95,6,265,6,105,115,95,110,111,116,9,16,95,111,112,101,114,97,116,111,114,46,105,115,95,110,111,116,6,266,5,105,110,100,101,120,9,15,95,111,112,101,114,97,116,111,114,46,105,110,100,101,120,6,267,3,97,100,100,9,13,95,111,112,101,114,97,116,111,114,46,97,100,100,6,268,3,115,117,98,9,13,95,111,112,101,114,97,116,111,114,46,115,117,98,6,269,3,109,117,108,9,13,95,111,112,101,114,97,116,111,114,46,109,117,108,6,270,6,109,97,116,109,117,108,9,16,95,111,112,101,114,97,116,111,114,46,109,97,116,109,117,108,6,271,8,102,108,111,111,114,100,105,118,9,18,95,111,112,101,114,97,116,111,114,46,102,108,111,111,114,100,105,118,6,272,7,116,114,117,101,100,105,118,9,17,95,111,112,101,114,97,116,111,114,46,116,114,117,101,100,105,118,6,273,3,109,111,100,9,13,95,111,112,101,114,97,116,111,114,46,109,111,100,6,274,3,110,101,103,9,13,95,111,112,101,114,97,116,111,114,46,110,101,103,6,275,3,112,111,115,9,13,95,111,112,101,114,97,116,111,114,46,112,111,115,6,276,3,97,98,115,9,13,95,111,112,101,114,97,116,111,114,46,97,98,115,6,277,3,105,110,118,9,13,95,111,112,101,114,97,116,111,114,46,105,110,118,6,278,6,105,110,118,101,114,116,9,16,95,111,112,101,114,97,116,111,114,46,105,110,118,101,114,116,6,279,6,108,115,104,105,102,116,9,16,95,111,112,101,114,97,116,111,114,46,108,115,104,105,102,116,6,280,6,114,115,104,105,102,116,9,16,95,111,112,101,114,97,116,111,114,46,114,115,104,105,102,116,6,281,4,110,111,116,95,9,14,95,111,112,101,114,97,116,111,114,46,110,111,116,95,6,282,4,97,110,100,95,9,14,95,111,112,101,114,97,116,111,114,46,97,110,100,95,6,283,3,120,111,114,9,13,95,111,112,101,114,97,116,111,114,46,120,111,114,6,284,3,111,114,95,9,13,95,111,112,101,114,97,116,111,114,46,111,114,95,6,285,4,105,97,100,100,9,14,95,111,112,101,114,97,116,111,114,46,105,97,100,100,6,286,4,105,115,117,98,9,14,95,111,112,101,114,97,116,111,114,46,105,115,117,98,6,287,4,105,109,117,108,9,14,95,111,112,101,114,97,116,111,114,46,105,109,117,108,6,288,7,105,109,97,116,109,117,108,9,17,95,111,112,101,114,97,116,111,114,46,105,109,97,116,109,117,108,6,289,9,105,102,108,111,111,114,100,105,118,9,19,95,111,112,101,114,97,116,111,114,46,105,102,108,111,111,114,100,105,118,6,290,8,105,116,114,117,101,100,105,118,9,18,95,111,112,101,114,97,116,111,114,46,105,116,114,117,101,100,105,118,6,291,4,105,109,111,100,9,14,95,111,112,101,114,97,116,111,114,46,105,109,111,100,6,292,7,105,108,115,104,105,102,116,9,17,95,111,112,101,114,97,116,111,114,46,105,108,115,104,105,102,116,6,293,7,105,114,115,104,105,102,116,9,17,95,111,112,101,114,97,116,111,114,46,105,114,115,104,105,102,116,6,294,4,105,97,110,100,9,14,95,111,112,101,114,97,116,111,114,46,105,97,110,100,6,295,4,105,120,111,114,9,14,95,111,112,101,114,97,116,111,114,46,105,120,111,114,6,296,3,105,111,114,9,13,95,111,112,101,114,97,116,111,114,46,105,111,114,6,297,6,99,111,110,99,97,116,9,16,95,111,112,101,114,97,116,111,114,46,99,111,110,99,97,116,6,298,7,105,99,111,110,99,97,116,9,17,95,111,112,101,114,97,116,111,114,46,105,99,111,110,99,97,116,6,299,7,103,101,116,105,116,101,109,9,17,95,111,112,101,114,97,116,111,114,46,103,101,116,105,116,101,109,6,300,7,115,101,116,105,116,101,109,9,17,95,111,112,101,114,97,116,111,114,46,115,101,116,105,116,101,109,6,301,7,100,101,108,105,116,101,109,9,17,95,111,112,101,114,97,116,111,114,46,100,101,108,105,116,101,109,6,302,3,112,111,119,9,13,95,111,112,101,114,97,116,111,114,46,112,111,119,6,303,4,105,112,111,119,9,14,95,111,112,101,114,97,116,111,114,46,105,112,111,119,6,304,2,101,113,9,12,95,111,112,101,114,97,116,111,114,46,101,113,6,305,2,110,101,9,12,95,111,112,101,114,97,116,111,114,46,110,101,6,306,2,108,116,9,12,95,111,112,101,114,97,116,111,114,46,108,116,6,307,2,108,101,9,12,95,111,112,101,114,97,116,111,114,46,108,101,6,308,2,103,116,9,12,95,111,112,101,114,97,116,111,114,46,103,116,6,309,2,103,101,9,12,95,111,112,101,114,97,116,111,114,46,103,101,6,310,15,95,99,111,109,112,97,114,101,95,100,105,103,101,115,116,9,25,95,111,112,101,114,97,116,111,114,46,95,99,111,109,112,97,114,101,95,100,105,103,101,115,116,6,311,11,108,101,110,103,116,104,95,104,105,110,116,9,21,95,111,112,101,114,97,116,111,114,46,108,101,110,103,116,104,95,104,105,110,116,6,312,4,99,97,108,108,9,14,95,111,112,101,114,97,116,111,114,46,99,97,108,108,6,313,10,97,116,116,114,103,101,116,116,101,114,8,19,111,112,101,114,97,116,111,114,46,97,116,116,114,103,101,116,116,101,114,6,314,10,105,116,101,109,103,101,116,116,101,114,8,19,111,112,101,114,97,116,111,114,46,105,116,101,109,103,101,116,116,101,114,6,315,12,109,101,116,104,111,100,99,97,108,108,101,114,8,21,111,112,101,114,97,116,111,114,46,109,101,116,104,111,100,99,97,108,108,101,114]) 0, .bool true, .bool false, .str (ucs [95,111,112,101,114,97,116,111,114]) 317] 0), #[]⟩], {}⟩
noncomputable def H1 : Params → Heap := fun P => ⟨#[
  ⟨.type "dict", none, (.dict #[⟨PyData.keyHash P (ucs [95,95,110,97,109,101,95,95]), .str (ucs [95,95,110,97,109,101,95,95]) 1, .str (ucs [98,117,105,108,116,105,110,115]) 160⟩, ⟨PyData.keyHash P (ucs [95,95,100,111,99,95,95]), .str (ucs [95,95,100,111,99,95,95]) 2, .builtin "builtins.__doc__:str#opaque"⟩, ⟨PyData.keyHash P (ucs [95,95,112,97,99,107,97,103,101,95,95]), .str (ucs [95,95,112,97,99,107,97,103,101,95,95]) 3, .builtin "builtins.__package__:str#opaque"⟩, ⟨PyData.keyHash P (ucs [95,95,108,111,97,100,101,114,95,95]), .str (ucs [95,95,108,111,97,100,101,114,95,95]) 4, .builtin "builtins.__loader__:shared#opaque"⟩, ⟨PyData.keyHash P (ucs [95,95,115,112,101,99,95,95]), .str (ucs [95,95,115,112,101,99,95,95]) 5, .builtin "builtins.__spec__#opaque"⟩, ⟨PyData.keyHash P (ucs [95,95,98,117,105,108,100,95,99,108,97,115,115,95,95]), .str (ucs [95,95,98,117,105,108,100,95,99,108,97,115,115,95,95]) 6, .builtin "__build_class__"⟩, ⟨PyData.keyHash P (ucs [95,95,105,109,112,111,114,116,95,95]), .str (ucs [95,95,105,109,112,111,114,116,95,95]) 7, .builtin "__import__"⟩, ⟨PyData.keyHash P (ucs [97,98,115]), .str (ucs [97,98,115]) 8, .builtin "abs"⟩, ⟨PyData.keyHash P (ucs [97,108,108]), .str (ucs [97,108,108]) 9, .builtin "all"⟩, ⟨PyData.keyHash P (ucs [97,110,121]), .str (ucs [97,110,121]) 10, .builtin "any"⟩, ⟨PyData.keyHash P (ucs [97,115,99,105,105]), .str (ucs [97,115,99,105,105]) 11, .builtin "ascii"⟩, ⟨PyData.keyHash P (ucs [98,105,110]), .str (ucs [98,105,110]) 12, .builtin "bin"⟩, ⟨PyData.keyHash P (ucs [98,114,101,97,107,112,111,105,110,116]), .str (ucs [98,114,101,97,107,112,111,105,110,116]) 13, .builtin "breakpoint"⟩, ⟨PyData.keyHash P (ucs [99,97,108,108,97,98,108,101]), .str (ucs [99,97,108,108,97,98,108,101]) 14, .builtin "callable"⟩, ⟨PyData.keyHash P (ucs [99,104,114]), .str (ucs [99,104,114]) 15, .builtin "chr"⟩, ⟨PyData.keyHash P (ucs [99,111,109,112,105,108,101]), .str (ucs [99,111,109,112,105,108,101]) 16, .builtin "compile"⟩, ⟨PyData.keyHash P (ucs [100,101,108,97,116,116,114]), .str (ucs [100,101,108,97,116,116,114]) 17, .builtin "delattr"⟩, ⟨PyData.keyHash P (ucs [100,105,114]), .str (ucs [100,105,114]) 18, .builtin "dir"⟩, ⟨PyData.keyHash P (ucs [100,105,118,109,111,100]), .str (ucs [100,105,118,109,111,100]) 19, .builtin "divmod"⟩, ⟨PyData.keyHash P (ucs [101,118,97,108]), .str (ucs [101,118,97,108]) 20, .builtin "eval"⟩, ⟨PyData.keyHash P (ucs [101,120,101,99]), .str (ucs [101,120,101,99]) 21, .builtin "exec"⟩, ⟨PyData.keyHash P (ucs [102,111,114,109,97,116]), .str (ucs [102,111,114,109,97,116]) 22, .builtin "format"⟩, ⟨PyData.keyHash P (ucs [103,101,116,97,116,116,114]), .str (ucs [103,101,116,97,116,116,114]) 23, .builtin "getattr"⟩, ⟨PyData.keyHash P (ucs [103,108,111,98,97,108,115]), .str (ucs [103,108,111,98,97,108,115]) 24, .builtin "globals"⟩, ⟨PyData.keyHash P (ucs [104,97,115,97,116,116,114]), .str (ucs [104,97,115,97,116,116,114]) 25, .builtin "hasattr"⟩, ⟨PyData.keyHash P (ucs [104,97,115,104]), .str (ucs [104,97,115,104]) 26, .builtin "hash"⟩, ⟨PyData.keyHash P (ucs [104,101,120]), .str (ucs [104,101,120]) 27, .builtin "hex"⟩, ⟨PyData.keyHash P (ucs [105,100]), .str (ucs [105,100]) 28, .builtin "id"⟩, ⟨PyData.keyHash P (ucs [105,110,112,117,116]), .str (ucs [105,110,112,117,116]) 29, .builtin "input"⟩, ⟨PyData.keyHash P (ucs [105,115,105,110,115,116,97,110,99,101]), .str (ucs [105,115,105,110,115,116,97,110,99,101]) 30, .builtin "isinstance"⟩, ⟨PyData.keyHash P (ucs [105,115,115,117,98,99,108,97,115,115]), .str (ucs [105,115,115,117,98,99,108,97,115,115]) 31, .builtin "issubclass"⟩, ⟨PyData.keyHash P (ucs [105,116,101,114]), .str (ucs [105,116,101,114]) 32, .builtin "iter"⟩, ⟨PyData.keyHash P (ucs [97,105,116,101,114]), .str (ucs [97,105,116,101,114]) 33, .builtin "aiter"⟩, ⟨PyData.keyHash P (ucs [108,101,110]), .str (ucs [108,101,110]) 34, .builtin "len"⟩, ⟨PyData.keyHash P (ucs [108,111,99,97,108,115]), .str (ucs [108,111,99,97,108,115]) 35, .builtin "locals"⟩, ⟨PyData.keyHash P (ucs [109,97,120]), .str (ucs [109,97,120]) 36, .builtin "max"⟩, ⟨PyData.keyHash P (ucs [109,105,110]), .str (ucs [109,105,110]) 37, .builtin "min"⟩, ⟨PyData.keyHash P (ucs [110,101,120,116]), .str (ucs [110,101,120,116]) 38, .builtin "next"⟩, ⟨PyData.keyHash P (ucs [97,110,101,120,116]), .str (ucs [97,110,101,120,116]) 39, .builtin "anext"⟩, ⟨PyData.keyHash P (ucs [111,99,116]), .str (ucs [111,99,116]) 40, .builtin "oct"⟩, ⟨PyData.keyHash P (ucs [111,114,100]), .str (ucs [111,114,100]) 41, .builtin "ord"⟩, ⟨PyData.keyHash P (ucs [112,111,119]), .str (ucs [112,111,119]) 42, .builtin "pow"⟩, ⟨PyData.keyHash P (ucs [112,114,105,110,116]), .str (ucs [112,114,105,110,116]) 43, .builtin "print"⟩, ⟨PyData.keyHash P (ucs [114,101,112,114]), .str (ucs [114,101,112,114]) 44, .builtin "repr"⟩, ⟨PyData.keyHash P (ucs [114,111,117,110,100]), .str (ucs [114,111,117,110,100]) 45, .builtin "round"⟩, ⟨PyData.keyHash P (ucs [115,101,116,97,116,116,114]), .str (ucs [115,101,116,97,116,116,114]) 46, .builtin "setattr"⟩, ⟨PyData.keyHash P (ucs [115,111,114,116,101,100]), .str (ucs [115,111,114,116,101,100]) 47, .builtin "sorted"⟩, ⟨PyData.keyHash P (ucs [115,117,109]), .str (ucs [115,117,109]) 48, .builtin "sum"⟩, ⟨PyData.keyHash P (ucs [118,97,114,115]), .str (ucs [118,97,114,115]) 49, .builtin "vars"⟩, ⟨PyData.keyHash P (ucs [78,111,110,101]), .str (ucs [78,111,110,101]) 50, .none⟩, ⟨PyData.keyHash P (ucs [69,108,108,105,112,115,105,115]), .str (ucs [69,108,108,105,112,115,105,115]) 51, .ellipsis⟩, ⟨PyData.keyHash P (ucs [78,111,116,73,109,112,108,101,109,101,110,116,101,100]), .str (ucs [78,111,116,73,109,112,108,101,109,101,110,116,101,100]) 52, .notImplemented⟩, ⟨PyData.keyHash P (ucs [70,97,108,115,101]), .str (ucs [70,97,108,115,101]) 53, .bool false⟩, ⟨PyData.keyHash P (ucs [84,114,117,101]), .str (ucs [84,114,117,101]) 54, .bool true⟩, ⟨PyData.keyHash P (ucs [98,111,111,108]), .str (ucs [98,111,111,108]) 55, .type "bool"⟩, ⟨PyData.keyHash P (ucs [109,101,109,111,114,121,118,105,101,119]), .str (ucs [109,101,109,111,114,121,118,105,101,119]) 56, .type "memoryview"⟩, ⟨PyData.keyHash P (ucs [98,121,116,101,97,114,114,97,121]), .str (ucs [98,121,116,101,97,114,114,97,121]) 57, .type "bytearray"⟩, ⟨PyData.keyHash P (ucs [98,121,116,101,115]), .str (ucs [98,121,116,101,115]) 58, .type "bytes"⟩, ⟨PyData.keyHash P (ucs [99,108,97,115,115,109,101,116,104,111,100]), .str (ucs [99,108,97,115,115,109,101,116,104,111,100]) 59, .type "classmethod"⟩, ⟨PyData.keyHash P (ucs [99,111,109,112,108,101,120]), .str (ucs [99,111,109,112,108,101,120]) 60, .type "complex"⟩, ⟨PyData.keyHash P (ucs [100,105,99,116]), .str (ucs [100,105,99,116]) 61, .type "dict"⟩, ⟨PyData.keyHash P (ucs [101,110,117,109,101,114,97,116,101]), .str (ucs [101,110,117,109,101,114,97,116,101]) 62, .type "enumerate"⟩, ⟨PyData.keyHash P (ucs [102,105,108,116,101,114]), .str (ucs [102,105,108,116,101,114]) 63, .type "filter"⟩, ⟨PyData.keyHash P (ucs [102,108,111,97,116]), .str (ucs [102,108,111,97,116]) 64, .type "float"⟩, ⟨PyData.keyHash P (ucs [102,114,111,122,101,110,115,101,116]), .str (ucs [102,114,111,122,101,110,115,101,116]) 65, .type "frozenset"⟩, ⟨PyData.keyHash P (ucs [112,114,111,112,101,114,116,121]), .str (ucs [112,114,111,112,101,114,116,121]) 66, .type "property"⟩, ⟨PyData.keyHash P (ucs [105,110,116]), .str (ucs [105,110,116]) 67, .type "int"⟩, ⟨PyData.keyHash P (ucs [108,105,115,116]), .str (ucs [108,105,115,116]) 68, .type "list"⟩, ⟨PyData.keyHash P (ucs [109,97,112]), .str (ucs [109,97,112]) 69, .type "map"⟩, ⟨PyData.keyHash P (ucs [111,98,106,101,99,116]), .str (ucs [111,98,106,101,99,116]) 70, .type "object"⟩, ⟨PyData.keyHash P (ucs [114,97,110,103,101]), .str (ucs [114,97,110,103,101]) 71, .type "range"⟩, ⟨PyData.keyHash P (ucs [114,101,118,101,114,115,101,100]), .str (ucs [114,101,118,101,114,115,101,100]) 72, .type "reversed"⟩, ⟨PyData.keyHash P (ucs [115,101,116]), .str (ucs [115,101,116]) 73, .type "set"⟩, ⟨PyData.keyHash P (ucs [115,108,105,99,101]), .str (ucs [115,108,105,99,101]) 74, .type "slice"⟩, ⟨PyData.keyHash P (ucs [115,116,97,116,105,99,109,101,116,104,111,100]), .str (ucs [115,116,97,116,105,99,109,101,116,104,111,100]) 75, .type "staticmethod"⟩, ⟨PyData.keyHash P (ucs [115,116,114]), .str (ucs [115,116,114]) 76, .type "str"⟩, ⟨PyData.keyHash P (ucs [115,117,112,101,114]), .str (ucs [115,117,112,101,114]) 77, .type "super"⟩, ⟨PyData.keyHash P (ucs [116,117,112,108,101]), .str (ucs [116,117,112,108,101]) 78, .type "tuple"⟩, ⟨PyData.keyHash P (ucs [116,121,112,101]), .str (ucs [116,121,112,101]) 79, .type "type"⟩, ⟨PyData.keyHash P (ucs [122,105,112]), .str (ucs [122,105,112]) 80, .type "zip"⟩, ⟨PyData.keyHash P (ucs [95,95,100,101,98,117,103,95,95]), .str (ucs [95,95,100,101,98,117,103,95,95]) 81, .bool true⟩, ⟨PyData.keyHash P (ucs [66,97,115,101,69,120,99,101,112,116,105,111,110]), .str (ucs [66,97,115,101,69,120,99,101,112,116,105,111,110]) 82, .type "BaseException"⟩, ⟨PyData.keyHash P (ucs [66,97,115,101,69,120,99,101,112,116,105,111,110,71,114,111,117,112]), .str (ucs [66,97,115,101,69,120,99,101,112,116,105,111,110,71,114,111,117,112]) 83, .type "BaseExceptionGroup"⟩, ⟨PyData.keyHash P (ucs [69,120,99,101,112,116,105,111,110]), .str (ucs [69,120,99,101,112,116,105,111,110]) 84, .type "Exception"⟩, ⟨PyData.keyHash P (ucs [71,101,110,101,114,97,116,111,114,69,120,105,116]), .str (ucs [71,101,110,101,114,97,116,111,114,69,120,105,116]) 85, .type "GeneratorExit"⟩, ⟨PyData.keyHash P (ucs [75,101,121,98,111,97,114,100,73,110,116,101,114,114,117,112,116]), .str (ucs [75,101,121,98,111,97,114,100,73,110,116,101,114,114,117,112,116]) 86, .type "KeyboardInterrupt"⟩, ⟨PyData.keyHash P (ucs [83,121,115,116,101,109,69,120,105,116]), .str (ucs [83,121,115,116,101,109,69,120,105,116]) 87, .type "SystemExit"⟩, ⟨PyData.keyHash P (ucs [65,114,105,116,104,109,101,116,105,99,69,114,114,111,114]), .str (ucs [65,114,105,116,104,109,101,116,105,99,69,114,114,111,114]) 88, .type "ArithmeticError"⟩, ⟨PyData.keyHash P (ucs [65,115,115,101,114,116,105,111,110,69,114,114,111,114]), .str (ucs [65,115,115,101,114,116,105,111,110,69,114,114,111,114]) 89, .type "AssertionError"⟩, ⟨PyData.keyHash P (ucs [65,116,116,114,105,98,117,116,101,69,114,114,111,114]), .str (ucs [65,116,116,114,105,98,117,116,101,69,114,114,111,114]) 90, .type "AttributeError"⟩, ⟨PyData.keyHash P (ucs [66,117,102,102,101,114,69,114,114,111,114]), .str (ucs [66,117,102,102,101,114,69,114,114,111,114]) 91, .type "BufferError"⟩, ⟨PyData.keyHash P (ucs [69,79,70,69,114,114,111,114]), .str (ucs [69,79,70,69,114,114,111,114]) 92, .type "EOFError"⟩, ⟨PyData.keyHash P (ucs [73,109,112,111,114,116,69,114,114,111,114]), .str (ucs [73,109,112,111,114,116,69,114,114,111,114]) 93, .type "ImportError"⟩, ⟨PyData.keyHash P (ucs [76,111,111,107,117,112,69,114,114,111,114]), .str (ucs [76,111,111,107,117,112,69,114,114,111,114]) 94, .type "LookupError"⟩, ⟨PyData.keyHash P (ucs [77,101,109,111,114,121,69,114,114,111,114]), .str (ucs [77,101,109,111,114,121,69,114,114,111,114]) 95, .type "MemoryError"⟩, ⟨PyData.keyHash P (ucs [78,97,109,101,69,114,114,111,114]), .str (ucs [78,97,109,101,69,114,114,111,114]) 96, .type "NameError"⟩, ⟨PyData.keyHash P (ucs [79,83,69,114,114,111,114]), .str (ucs [79,83,69,114,114,111,114]) 97, .type "OSError"⟩, ⟨PyData.keyHash P (ucs [82,101,102,101,114,101,110,99,101,69,114,114,111,114]), .str (ucs [82,101,102,101,114,101,110,99,101,69,114,114,111,114]) 98, .type "ReferenceError"⟩, ⟨PyData.keyHash P (ucs [82,117,110,116,105,109,101,69,114,114,111,114]), .str (ucs [82,117,110,116,105,109,101,69,114,114,111,114]) 99, .type "RuntimeError"⟩, ⟨PyData.keyHash P (ucs [83,116,111,112,65,115,121,110,99,73,116,101,114,97,116,105,111,110]), .str (ucs [83,116,111,112,65,115,121,110,99,73,116,101,114,97,116,105,111,110]) 100, .type "StopAsyncIteration"⟩, ⟨PyData.keyHash P (ucs [83,116,111,112,73,116,101,114,97,116,105,111,110]), .str (ucs [83,116,111,112,73,116,101,114,97,116,105,111,110]) 101, .type "StopIteration"⟩, ⟨PyData.keyHash P (ucs [83,121,110,116,97,120,69,114,114,111,114]), .str (ucs [83,121,110,116,97,120,69,114,114,111,114]) 102, .type "SyntaxError"⟩, ⟨PyData.keyHash P (ucs [83,121,115,116,101,109,69,114,114,111,114]), .str (ucs [83,121,115,116,101,109,69,114,114,111,114]) 103, .type "SystemError"⟩, ⟨PyData.keyHash P (ucs [84,121,112,101,69,114,114,111,114]), .str (ucs [84,121,112,101,69,114,114,111,114]) 104, .type "TypeError"⟩, ⟨PyData.keyHash P (ucs [86,97,108,117,101,69,114,114,111,114]), .str (ucs [86,97,108,117,101,69,114,114,111,114]) 105, .type "ValueError"⟩, ⟨PyData.keyHash P (ucs [87,97,114,110,105,110,103]), .str (ucs [87,97,114,110,105,110,103]) 106, .type "Warning"⟩, ⟨PyData.keyHash P (ucs [70,108,111,97,116,105,110,103,80,111,105,110,116,69,114,114,111,114]), .str (ucs [70,108,111,97,116,105,110,103,80,111,105,110,116,69,114,114,111,114]) 107, .type "FloatingPointError"⟩, ⟨PyData.keyHash P (ucs [79,118,101,114,102,108,111,119,69,114,114,111,114]), .str (ucs [79,118,101,114,102,108,111,119,69,114,114,111,114]) 108, .type "OverflowError"⟩, ⟨PyData.keyHash P (ucs [90,101,114,111,68,105,118,105,115,105,111,110,69,114,114,111,114]), .str (ucs [90,101,114,111,68,105,118,105,115,105,111,110,69,114,114,111,114]) 109, .type "ZeroDivisionError"⟩, ⟨PyData.keyHash P (ucs [66,121,116,101,115,87,97,114,110,105,110,103]), .str (ucs [66,121,116,101,115,87,97,114,110,105,110,103]) 110, .type "BytesWarning"⟩, ⟨PyData.keyHash P (ucs [68,101,112,114,101,99,97,116,105,111,110,87,97,114,110,105,110,103]), .str (ucs [68,101,112,114,101,99,97,116,105,111,110,87,97,114,110,105,110,103]) 111, .type "DeprecationWarning"⟩, ⟨PyData.keyHash P (ucs [69,110,99,111,100,105,110,103,87,97,114,110,105,110,103]), .str (ucs [69,110,99,111,100,105,110,103,87,97,114,110,105,110,103]) 112, .type "EncodingWarning"⟩, ⟨PyData.keyHash P (ucs [70,117,116,117,114,101,87,97,114,110,105,110,103]), .str (ucs [70,117,116,117,114,101,87,97,114,110,105,110,103]) 113, .type "FutureWarning"⟩, ⟨PyData.keyHash P (ucs [73,109,112,111,114,116,87,97,114,110,105,110,103]), .str (ucs [73,109,112,111,114,116,87,97,114,110,105,110,103]) 114, .type "ImportWarning"⟩, ⟨PyData.keyHash P (ucs [80,101,110,100,105,110,103,68,101,112,114,101,99,97,116,105,111,110,87,97,114,110,105,110,103]), .str (ucs [80,101,110,100,105,110,103,68,101,112,114,101,99,97,116,105,111,110,87,97,114,110,105,110,103]) 115, .type "PendingDeprecationWarning"⟩, ⟨PyData.keyHash P (ucs [82,101,115,111,117,114,99,101,87,97,114,110,105,110,103]), .str (ucs [82,101,115,111,117,114,99,101,87,97,114,110,105,110,103]) 116, .type "ResourceWarning"⟩, ⟨PyData.keyHash P (ucs [82,117,110,116,105,109,101,87,97,114,110,105,110,103]), .str (ucs [82,117,110,116,105,109,101,87,97,114,110,105,110,103]) 117, .type "RuntimeWarning"⟩, ⟨PyData.keyHash P (ucs [83,121,110,116,97,120,87,97,114,110,105,110,103]), .str (ucs [83,121,110,116,97,120,87,97,114,110,105,110,103]) 118, .type "SyntaxWarning"⟩, ⟨PyData.keyHash P (ucs [85,110,105,99,111,100,101,87,97,114,110,105,110,103]), .str (ucs [85,110,105,99,111,100,101,87,97,114,110,105,110,103]) 119, .type "UnicodeWarning"⟩, ⟨PyData.keyHash P (ucs [85,115,101,114,87,97,114,110,105,110,103]), .str (ucs [85,115,101,114,87,97,114,110,105,110,103]) 120, .type "UserWarning"⟩, ⟨PyData.keyHash P (ucs [66,108,111,99,107,105,110,103,73,79,69,114,114,111,114]), .str (ucs [66,108,111,99,107,105,110,103,73,79,69,114,114,111,114]) 121, .type "BlockingIOError"⟩, ⟨PyData.keyHash P (ucs [67,104,105,108,100,80,114,111,99,101,115,115,69,114,114,111,114]), .str (ucs [67,104,105,108,100,80,114,111,99,101,115,115,69,114,114,111,114]) 122, .type "ChildProcessError"⟩, ⟨PyData.keyHash P (ucs [67,111,110,110,101,99,116,105,111,110,69,114,114,111,114]), .str (ucs [67,111,110,110,101,99,116,105,111,110,69,114,114,111,114]) 123, .type "ConnectionError"⟩, ⟨PyData.keyHash P (ucs [70,105,108,101,69,120,105,115,116,115,69,114,114,111,114]), .str (ucs [70,105,108,101,69,120,105,115,116,115,69,114,114,111,114]) 124, .type "FileExistsError"⟩, ⟨PyData.keyHash P (ucs [70,105,108,101,78,111,116,70,111,117,110,100,69,114,114,111,114]), .str (ucs [70,105,108,101,78,111,116,70,111,117,110,100,69,114,114,111,114]) 125, .type "FileNotFoundError"⟩, ⟨PyData.keyHash P (ucs [73,110,116,101,114,114,117,112,116,101,100,69,114,114,111,114]), .str (ucs [73,110,116,101,114,114,117,112,116,101,100,69,114,114,111,114]) 126, .type "InterruptedError"⟩, ⟨PyData.keyHash P (ucs [73,115,65,68,105,114,101,99,116,111,114,121,69,114,114,111,114]), .str (ucs [73,115,65,68,105,114,101,99,116,111,114,121,69,114,114,111,114]) 127, .type "IsADirectoryError"⟩, ⟨PyData.keyHash P (ucs [78,111,116,65,68,105,114,101,99,116,111,114,121,69,114,114,111,114]), .str (ucs [78,111,116,65,68,105,114,101,99,116,111,114,121,69,114,114,111,114]) 128, .type "NotADirectoryError"⟩, ⟨PyData.keyHash P (ucs [80,101,114,109,105,115,115,105,111,110,69,114,114,111,114]), .str (ucs [80,101,114,109,105,115,115,105,111,110,69,114,114,111,114]) 129, .type "PermissionError"⟩, ⟨PyData.keyHash P (ucs [80,114,111,99,101,115,115,76,111,111,107,117,112,69,114,114,111,114]), .str (ucs [80,114,111,99,101,115,115,76,111,111,107,117,112,69,114,114,111,114]) 130, .type "ProcessLookupError"⟩, ⟨PyData.keyHash P (ucs [84,105,109,101,111,117,116,69,114,114,111,114]), .str (ucs [84,105,109,101,111,117,116,69,114,114,111,114]) 131, .type "TimeoutError"⟩, ⟨PyData.keyHash P (ucs [73,110,100,101,110,116,97,116,105,111,110,69,114,114,111,114]), .str (ucs [73,110,100,101,110,116,97,116,105,111,110,69,114,114,111,114]) 132, .type "IndentationError"⟩, ⟨PyData.keyHash P (ucs [95,73,110,99,111,109,112,108,101,116,101,73,110,112,117,116,69,114,114,111,114]), .str (ucs [95,73,110,99,111,109,112,108,101,116,101,73,110,112,117,116,69,114,114,111,114]) 133, .type "_IncompleteInputError"⟩, ⟨PyData.keyHash P (ucs [73,110,100,101,120,69,114,114,111,114]), .str (ucs [73,110,100,101,120,69,114,114,111,114]) 134, .type "IndexError"⟩, ⟨PyData.keyHash P (ucs [75,101,121,69,114,114,111,114]), .str (ucs [75,101,121,69,114,114,111,114]) 135, .type "KeyError"⟩, ⟨PyData.keyHash P (ucs [77,111,100,117,108,101,78,111,116,70,111,117,110,100,69,114,114,111,114]), .str (ucs [77,111,100,117,108,101,78,111,116,70,111,117,110,100,69,114,114,111,114]) 136, .type "ModuleNotFoundError"⟩, ⟨PyData.keyHash P (ucs [78,111,116,73,109,112,108,101,109,101,110,116,101,100,69,114,114,111,114]), .str (ucs [78,111,116,73,109,112,108,101,109,101,110,116,101,100,69,114,114,111,114]) 137, .type "NotImplementedError"⟩, ⟨PyData.keyHash P (ucs [80,121,116,104,111,110,70,105,110,97,108,105,122,97,116,105,111,110,69,114,114,111,114]), .str (ucs [80,121,116,104,111,110,70,105,110,97,108,105,122,97,116,105,111,110,69,114,114,111,114]) 138, .type "PythonFinalizationError"⟩, ⟨PyData.keyHash P (ucs [82,101,99,117,114,115,105,111,110,69,114,114,111,114]), .str (ucs [82,101,99,117,114,115,105,111,110,69,114,114,111,114]) 139, .type "RecursionError"⟩, ⟨PyData.keyHash P (ucs [85,110,98,111,117,110,100,76,111,99,97,108,69,114,114,111,114]), .str (ucs [85,110,98,111,117,110,100,76,111,99,97,108,69,114,114,111,114]) 140, .type "UnboundLocalError"⟩, ⟨PyData.keyHash P (ucs [85,110,105,99,111,100,101,69,114,114,111,114]), .str (ucs [85,110,105,99,111,100,101,69,114,114,111,114]) 141, .type "UnicodeError"⟩, ⟨PyData.keyHash P (ucs [66,114,111,107,101,110,80,105,112,101,69,114,114,111,114]), .str (ucs [66,114,111,107,101,110,80,105,112,101,69,114,114,111,114]) 142, .type "BrokenPipeError"⟩, ⟨PyData.keyHash P (ucs [67,111,110,110,101,99,116,105,111,110,65,98,111,114,116,101,100,69,114,114,111,114]), .str (ucs [67,111,110,110,101,99,116,105,111,110,65,98,111,114,116,101,100,69,114,114,111,114]) 143, .type "ConnectionAbortedError"⟩, ⟨PyData.keyHash P (ucs [67,111,110,110,101,99,116,105,111,110,82,101,102,117,115,101,100,69,114,114,111,114]), .str (ucs [67,111,110,110,101,99,116,105,111,110,82,101,102,117,115,101,100,69,114,114,111,114]) 144, .type "ConnectionRefusedError"⟩, ⟨PyData.keyHash P (ucs [67,111,110,110,101,99,116,105,111,110,82,101,115,101,116,69,114,114,111,114]), .str (ucs [67,111,110,110,101,99,116,105,111,110,82,101,115,101,116,69,114,114,111,114]) 145, .type "ConnectionResetError"⟩, ⟨PyData.keyHash P (ucs [84,97,98,69,114,114,111,114]), .str (ucs [84,97,98,69,114,114,111,114]) 146, .type "TabError"⟩, ⟨PyData.keyHash P (ucs [85,110,105,99,111,100,101,68,101,99,111,100,101,69,114,114,111,114]), .str (ucs [85,110,105,99,111,100,101,68,101,99,111,100,101,69,114,114,111,114]) 147, .type "UnicodeDecodeError"⟩, ⟨PyData.keyHash P (ucs [85,110,105,99,111,100,101,69,110,99,111,100,101,69,114,114,111,114]), .str (ucs [85,110,105,99,111,100,101,69,110,99,111,100,101,69,114,114,111,114]) 148, .type "UnicodeEncodeError"⟩, ⟨PyData.keyHash P (ucs [85,110,105,99,111,100,101,84,114,97,110,115,108,97,116,101,69,114,114,111,114]), .str (ucs [85,110,105,99,111,100,101,84,114,97,110,115,108,97,116,101,69,114,114,111,114]) 149, .type "UnicodeTranslateError"⟩, ⟨PyData.keyHash P (ucs [69,120,99,101,112,116,105,111,110,71,114,111,117,112]), .str (ucs [69,120,99,101,112,116,105,111,110,71,114,111,117,112]) 150, .type "ExceptionGroup"⟩, ⟨PyData.keyHash P (ucs [69,110,118,105,114,111,110,109,101,110,116,69,114,114,111,114]), .str (ucs [69,110,118,105,114,111,110,109,101,110,116,69,114,114,111,114]) 151, .type "OSError"⟩, ⟨PyData.keyHash P (ucs [73,79,69,114,114,111,114]), .str (ucs [73,79,69,114,114,111,114]) 152, .type "OSError"⟩, ⟨PyData.keyHash P (ucs [111,112,101,110]), .str (ucs [111,112,101,110]) 153, .builtin "open"⟩, ⟨PyData.keyHash P (ucs [113,117,105,116]), .str (ucs [113,117,105,116]) 154, .builtin "builtins.quit#opaque"⟩, ⟨PyData.keyHash P (ucs [101,120,105,116]), .str (ucs [101,120,105,116]) 155, .builtin "builtins.exit#opaque"⟩, ⟨PyData.keyHash P (ucs [99,111,112,121,114,105,103,104,116]), .str (ucs [99,111,112,121,114,105,103,104,116]) 156, .builtin "builtins.copyright#opaque"⟩, ⟨PyData.keyHash P (ucs [99,114,101,100,105,116,115]), .str (ucs [99,114,101,100,105,116,115]) 157, .builtin "builtins.credits#opaque"⟩, ⟨PyData.keyHash P (ucs [108,105,99,101,110,115,101]), .str (ucs [108,105,99,101,110,115,101]) 158, .builtin "builtins.license#opaque"⟩, ⟨PyData.keyHash P (ucs [104,101,108,112]), .str (ucs [104,101,108,112]) 159, .builtin "builtins.help#opaque"⟩] 159), #[]⟩,
  ⟨.type "dict", none, (.dict #[⟨PyData.keyHash P (ucs [98,117,105,108,116,105,110,115]), .str (ucs [98,117,105,108,116,105,110,115]) 162, .ref 4⟩, ⟨PyData.keyHash P (ucs [95,95,109,97,105,110,95,95]), .str (ucs [95,95,109,97,105,110,95,95]) 163, .ref 5⟩, ⟨PyData.keyHash P (ucs [95,111,112,101,114,97,116,111,114]), .str (ucs [95,111,112,101,114,97,116,111,114]) 250, .ref 13⟩] 3), #[]⟩,
  ⟨.none, none, (.dict #[⟨PyData.keyHash P (ucs [105,109,112,111,114,116,46,108,111,97,100,101,100,46,95,111,112,101,114,97,116,111,114]), .str (ucs [105,109,112,111,114,116,46,108,111,97,100,101,100,46,95,111,112,101,114,97,116,111,114]) 189, .bool true⟩, ⟨PyData.keyHash P (ucs [99,108,97,115,115,46,95,102,114,111,122,101,110,95,105,109,112,111,114,116,108,105,98,46,66,117,105,108,116,105,110,73,109,112,111,114,116,101,114]), .str (ucs [99,108,97,115,115,46,95,102,114,111,122,101,110,95,105,109,112,111,114,116,108,105,98,46,66,117,105,108,116,105,110,73,109,112,111,114,116,101,114]) 191, .ref 15⟩, ⟨PyData.keyHash P (ucs [119,97,116,99,104,101,100,46,105,109,112,111,114,116]), .str (ucs [119,97,116,99,104,101,100,46,105,109,112,111,114,116]) 212, .ref 19⟩, ⟨PyData.keyHash P (ucs [99,108,97,115,115,46,95,102,114,111,122,101,110,95,105,109,112,111,114,116,108,105,98,46,77,111,100,117,108,101,83,112,101,99]), .str (ucs [99,108,97,115,115,46,95,102,114,111,122,101,110,95,105,109,112,111,114,116,108,105,98,46,77,111,100,117,108,101,83,112,101,99]) 222, .ref 23⟩, ⟨PyData.keyHash P (ucs [115,121,115,46,109,111,100,117,108,101,115,46,98,111,111,107,101,100,45,101,112,111,99,104]), .str (ucs [115,121,115,46,109,111,100,117,108,101,115,46,98,111,111,107,101,100,45,101,112,111,99,104]) 251, .int (3) 0⟩, ⟨PyData.keyHash P (ucs [115,121,115,46,109,111,100,117,108,101,115,46,108,97,110,100,101,100,46,95,111,112,101,114,97,116,111,114]), .str (ucs [115,121,115,46,109,111,100,117,108,101,115,46,108,97,110,100,101,100,46,95,111,112,101,114,97,116,111,114]) 252, .bool true⟩, ⟨PyData.keyHash P (ucs [105,109,112,111,114,116,46,108,97,116,101,114,45,108,97,105,100,46,95,111,112,101,114,97,116,111,114]), .str (ucs [105,109,112,111,114,116,46,108,97,116,101,114,45,108,97,105,100,46,95,111,112,101,114,97,116,111,114]) 316, .bool true⟩, ⟨PyData.keyHash P (ucs [119,97,116,99,104,101,100,46,108,105,98,114,97,114,121]), .str (ucs [119,97,116,99,104,101,100,46,108,105,98,114,97,114,121]) 318, .ref 28⟩, ⟨PyData.keyHash P (ucs [119,97,116,99,104,101,100,46,108,105,98,114,97,114,121,45,111,98,106,101,99,116,115]), .str (ucs [119,97,116,99,104,101,100,46,108,105,98,114,97,114,121,45,111,98,106,101,99,116,115]) 0, .str (ucs [13]) 0⟩, ⟨PyData.keyHash P (ucs [119,97,116,99,104,101,100,46,108,105,98,114,97,114,121,45,100,101,101,112,46,95,111,112,101,114,97,116,111,114]), .str (ucs [119,97,116,99,104,101,100,46,108,105,98,114,97,114,121,45,100,101,101,112,46,95,111,112,101,114,97,116,111,114]) 319, .str (ucs [4,0,0,12,4,0,0,12,4,0,0,3,4,0,0,12,8,4,100,105,99,116,2]) 0⟩] 10), #[]⟩,
  ⟨.type "dict", none, (.dict #[⟨PyData.keyHash P (ucs [95,95,110,97,109,101,95,95]), .str (ucs [95,95,110,97,109,101,95,95]) 165, .str (ucs [108,97,119,95,109,100,48,48,50,48,95,48,54]) 750⟩, ⟨PyData.keyHash P (ucs [95,95,100,111,99,95,95]), .str (ucs [95,95,100,111,99,95,95]) 166, .none⟩, ⟨PyData.keyHash P (ucs [95,95,112,97,99,107,97,103,101,95,95]), .str (ucs [95,95,112,97,99,107,97,103,101,95,95]) 167, .none⟩, ⟨PyData.keyHash P (ucs [95,95,108,111,97,100,101,114,95,95]), .str (ucs [95,95,108,111,97,100,101,114,95,95]) 168, .builtin "__main__.__loader__#opaque"⟩, ⟨PyData.keyHash P (ucs [95,95,115,112,101,99,95,95]), .str (ucs [95,95,115,112,101,99,95,95]) 169, .none⟩, ⟨PyData.keyHash P (ucs [95,95,97,110,110,111,116,97,116,105,111,110,115,95,95]), .str (ucs [95,95,97,110,110,111,116,97,116,105,111,110,115,95,95]) 170, .ref 6⟩, ⟨PyData.keyHash P (ucs [95,95,98,117,105,108,116,105,110,115,95,95]), .str (ucs [95,95,98,117,105,108,116,105,110,115,95,95]) 171, .ref 4⟩, ⟨PyData.keyHash P (ucs [95,95,102,105,108,101,95,95]), .str (ucs [95,95,102,105,108,101,95,95]) 173, .str (ucs [47,99,108,97,105,109,47,99,117,116,46,112,121]) 172⟩, ⟨PyData.keyHash P (ucs [95,95,99,97,99,104,101,100,95,95]), .str (ucs [95,95,99,97,99,104,101,100,95,95]) 174, .none⟩, ⟨PyData.keyHash P (ucs [101,113]), .str (ucs [101,113]) 325, .builtin "_operator.eq"⟩, ⟨PyData.keyHash P (ucs [103,101]), .str (ucs [103,101]) 328, .builtin "_operator.ge"⟩, ⟨PyData.keyHash P (ucs [103,116]), .str (ucs [103,116]) 331, .builtin "_operator.gt"⟩, ⟨PyData.keyHash P (ucs [108,101]), .str (ucs [108,101]) 334, .builtin "_operator.le"⟩, ⟨PyData.keyHash P (ucs [108,116]), .str (ucs [108,116]) 337, .builtin "_operator.lt"⟩, ⟨PyData.keyHash P (ucs [95,119,97,108,108]), .str (ucs [95,119,97,108,108]) 350, .ref 39⟩, ⟨PyData.keyHash P (ucs [95,98,105,116,99,111,117,110,116]), .str (ucs [95,98,105,116,99,111,117,110,116]) 359, .ref 46⟩, ⟨PyData.keyHash P (ucs [66,82,65,78,67,72,95,70,65,67,84,79,82]), .str (ucs [66,82,65,78,67,72,95,70,65,67,84,79,82]) 361, .int (32) 360⟩, ⟨PyData.keyHash P (ucs [66,73,84,95,77,65,83,75]), .str (ucs [66,73,84,95,77,65,83,75]) 364, .int (31) 363⟩, ⟨PyData.keyHash P (ucs [83,72,73,70,84]), .str (ucs [83,72,73,70,84]) 369, .int (5) 368⟩, ⟨PyData.keyHash P (ucs [99,111,109,112,97,114,101,95,112,118,101,99,116,111,114]), .str (ucs [99,111,109,112,97,114,101,95,112,118,101,99,116,111,114]) 378, .ref 54⟩, ⟨PyData.keyHash P (ucs [80,121,116,104,111,110,80,86,101,99,116,111,114]), .str (ucs [80,121,116,104,111,110,80,86,101,99,116,111,114]) 721, .ref 296⟩, ⟨PyData.keyHash P (ucs [95,69,77,80,84,89,95,80,86,69,67,84,79,82]), .str (ucs [95,69,77,80,84,89,95,80,86,69,67,84,79,82]) 741, .ref 311⟩, ⟨PyData.keyHash P (ucs [112,121,116,104,111,110,95,112,118,101,99,116,111,114]), .str (ucs [112,121,116,104,111,110,95,112,118,101,99,116,111,114]) 748, .ref 320⟩, ⟨PyData.keyHash P (ucs [112,118,101,99,116,111,114]), .str (ucs [112,118,101,99,116,111,114]) 749, .ref 320⟩, ⟨PyData.keyHash P (ucs [95,108,97,119,95,112,97,116,104]), .str (ucs [95,108,97,119,95,112,97,116,104]) 762, .ref 327⟩, ⟨PyData.keyHash P (ucs [95,108,97,119,95,112,117,116]), .str (ucs [95,108,97,119,95,112,117,116]) 771, .ref 334⟩, ⟨PyData.keyHash P (ucs [95,108,97,119,95,112,117,116,95,112,108,97,105,110]), .str (ucs [95,108,97,119,95,112,117,116,95,112,108,97,105,110]) 781, .ref 341⟩, ⟨PyData.keyHash P (ucs [95,108,97,119,95,115,104,97,114,101,100]), .str (ucs [95,108,97,119,95,115,104,97,114,101,100]) 793, .ref 348⟩, ⟨PyData.keyHash P (ucs [95,108,97,119,95,112,108,97,105,110]), .str (ucs [95,108,97,119,95,112,108,97,105,110]) 799, .ref 353⟩, ⟨PyData.keyHash P (ucs [95,108,97,119,95,103,114,111,119,110]), .str (ucs [95,108,97,119,95,103,114,111,119,110]) 808, .ref 360⟩, ⟨PyData.keyHash P (ucs [108,97,119]), .str (ucs [108,97,119]) 833, .ref 367⟩] 31), #[]⟩,
  ⟨.type "module", (some 0), .plain, #[]⟩,
  ⟨.type "module", (some 3), .plain, #[]⟩,
  ⟨.type "dict", none, (.dict #[] 0), #[]⟩,
  ⟨.type "tuple", none, (.seq #[] 0), #[]⟩,
  ⟨.none, none, (.fields #[]), #[]⟩,
  ⟨.type "code", none, (.fields #[.str (ucs [60,109,111,100,117,108,101,62]) 176, .str (ucs [60,109,111,100,117,108,101,62]) 177, .str (ucs [47,99,108,97,105,109,47,99,117,116,46,112,121]) 178, .int (1) 0, .int (0) 0, .int (0) 0, .int (0) 0, .int (0) 0, .ref 7, .bool false, .int (175) 0, .ref 8, .none, .none, .none, .none, .int (179) 0, .int (1) 0, .str (ucs [47,99,108,97,105,109,47,99,117,116,46,112,121]) 180]), #[]⟩,
  ⟨.type "frame", none, .plain, #[(some (.ref 9)), (some (.ref 3)), (some (.ref 3)), none, (some (.str (ucs [95,95,109,97,105,110,95,95]) 164)), none, (some (.ref 0))]⟩,
  ⟨.type "tuple", none, (.seq #[.str (ucs [101,113]) 182, .str (ucs [103,101]) 183, .str (ucs [103,116]) 184, .str (ucs [108,101]) 185, .str (ucs [108,116]) 186] 0), #[]⟩,
  ⟨.type "dict", none, (.dict #[⟨PyData.keyHash P (ucs [95,95,110,97,109,101,95,95]), .str (ucs [95,95,110,97,109,101,95,95]) 254, .str (ucs [95,111,112,101,114,97,116,111,114]) 253⟩, ⟨PyData.keyHash P (ucs [95,95,100,111,99,95,95]), .str (ucs [95,95,100,111,99,95,95]) 255, .builtin "off-the-table:_operator.__doc__:shared#opaque"⟩, ⟨PyData.keyHash P (ucs [95,95,112,97,99,107,97,103,101,95,95]), .str (ucs [95,95,112,97,99,107,97,103,101,95,95]) 257, .str (ucs []) 256⟩, ⟨PyData.keyHash P (ucs [95,95,108,111,97,100,101,114,95,95]), .str (ucs [95,95,108,111,97,100,101,114,95,95]) 258, .builtin "off-the-table:_operator.__loader__:shared#opaque"⟩, ⟨PyData.keyHash P (ucs [95,95,115,112,101,99,95,95]), .str (ucs [95,95,115,112,101,99,95,95]) 259, .builtin "off-the-table:_operator.__spec__:shared#opaque"⟩, ⟨PyData.keyHash P (ucs [116,114,117,116,104]), .str (ucs [116,114,117,116,104]) 260, .builtin "_operator.truth"⟩, ⟨PyData.keyHash P (ucs [99,111,110,116,97,105,110,115]), .str (ucs [99,111,110,116,97,105,110,115]) 261, .builtin "_operator.contains"⟩, ⟨PyData.keyHash P (ucs [105,110,100,101,120,79,102]), .str (ucs [105,110,100,101,120,79,102]) 262, .builtin "_operator.indexOf"⟩, ⟨PyData.keyHash P (ucs [99,111,117,110,116,79,102]), .str (ucs [99,111,117,110,116,79,102]) 263, .builtin "_operator.countOf"⟩, ⟨PyData.keyHash P (ucs [105,115,95]), .str (ucs [105,115,95]) 264, .builtin "_operator.is_"⟩, ⟨PyData.keyHash P (ucs [105,115,95,110,111,116]), .str (ucs [105,115,95,110,111,116]) 265, .builtin "_operator.is_not"⟩, ⟨PyData.keyHash P (ucs [105,110,100,101,120]), .str (ucs [105,110,100,101,120]) 266, .builtin "_operator.index"⟩, ⟨PyData.keyHash P (ucs [97,100,100]), .str (ucs [97,100,100]) 267, .builtin "_operator.add"⟩, ⟨PyData.keyHash P (ucs [115,117,98]), .str (ucs [115,117,98]) 268, .builtin "_operator.sub"⟩, ⟨PyData.keyHash P (ucs [109,117,108]), .str (ucs [109,117,108]) 269, .builtin "_operator.mul"⟩, ⟨PyData.keyHash P (ucs [109,97,116,109,117,108]), .str (ucs [109,97,116,109,117,108]) 270, .builtin "_operator.matmul"⟩, ⟨PyData.keyHash P (ucs [102,108,111,111,114,100,105,118]), .str (ucs [102,108,111,111,114,100,105,118]) 271, .builtin "_operator.floordiv"⟩, ⟨PyData.keyHash P (ucs [116,114,117,101,100,105,118]), .str (ucs [116,114,117,101,100,105,118]) 272, .builtin "_operator.truediv"⟩, ⟨PyData.keyHash P (ucs [109,111,100]), .str (ucs [109,111,100]) 273, .builtin "_operator.mod"⟩, ⟨PyData.keyHash P (ucs [110,101,103]), .str (ucs [110,101,103]) 274, .builtin "_operator.neg"⟩, ⟨PyData.keyHash P (ucs [112,111,115]), .str (ucs [112,111,115]) 275, .builtin "_operator.pos"⟩, ⟨PyData.keyHash P (ucs [97,98,115]), .str (ucs [97,98,115]) 276, .builtin "_operator.abs"⟩, ⟨PyData.keyHash P (ucs [105,110,118]), .str (ucs [105,110,118]) 277, .builtin "_operator.inv"⟩, ⟨PyData.keyHash P (ucs [105,110,118,101,114,116]), .str (ucs [105,110,118,101,114,116]) 278, .builtin "_operator.invert"⟩, ⟨PyData.keyHash P (ucs [108,115,104,105,102,116]), .str (ucs [108,115,104,105,102,116]) 279, .builtin "_operator.lshift"⟩, ⟨PyData.keyHash P (ucs [114,115,104,105,102,116]), .str (ucs [114,115,104,105,102,116]) 280, .builtin "_operator.rshift"⟩, ⟨PyData.keyHash P (ucs [110,111,116,95]), .str (ucs [110,111,116,95]) 281, .builtin "_operator.not_"⟩, ⟨PyData.keyHash P (ucs [97,110,100,95]), .str (ucs [97,110,100,95]) 282, .builtin "_operator.and_"⟩, ⟨PyData.keyHash P (ucs [120,111,114]), .str (ucs [120,111,114]) 283, .builtin "_operator.xor"⟩, ⟨PyData.keyHash P (ucs [111,114,95]), .str (ucs [111,114,95]) 284, .builtin "_operator.or_"⟩, ⟨PyData.keyHash P (ucs [105,97,100,100]), .str (ucs [105,97,100,100]) 285, .builtin "_operator.iadd"⟩, ⟨PyData.keyHash P (ucs [105,115,117,98]), .str (ucs [105,115,117,98]) 286, .builtin "_operator.isub"⟩, ⟨PyData.keyHash P (ucs [105,109,117,108]), .str (ucs [105,109,117,108]) 287, .builtin "_operator.imul"⟩, ⟨PyData.keyHash P (ucs [105,109,97,116,109,117,108]), .str (ucs [105,109,97,116,109,117,108]) 288, .builtin "_operator.imatmul"⟩, ⟨PyData.keyHash P (ucs [105,102,108,111,111,114,100,105,118]), .str (ucs [105,102,108,111,111,114,100,105,118]) 289, .builtin "_operator.ifloordiv"⟩, ⟨PyData.keyHash P (ucs [105,116,114,117,101,100,105,118]), .str (ucs [105,116,114,117,101,100,105,118]) 290, .builtin "_operator.itruediv"⟩, ⟨PyData.keyHash P (ucs [105,109,111,100]), .str (ucs [105,109,111,100]) 291, .builtin "_operator.imod"⟩, ⟨PyData.keyHash P (ucs [105,108,115,104,105,102,116]), .str (ucs [105,108,115,104,105,102,116]) 292, .builtin "_operator.ilshift"⟩, ⟨PyData.keyHash P (ucs [105,114,115,104,105,102,116]), .str (ucs [105,114,115,104,105,102,116]) 293, .builtin "_operator.irshift"⟩, ⟨PyData.keyHash P (ucs [105,97,110,100]), .str (ucs [105,97,110,100]) 294, .builtin "_operator.iand"⟩, ⟨PyData.keyHash P (ucs [105,120,111,114]), .str (ucs [105,120,111,114]) 295, .builtin "_operator.ixor"⟩, ⟨PyData.keyHash P (ucs [105,111,114]), .str (ucs [105,111,114]) 296, .builtin "_operator.ior"⟩, ⟨PyData.keyHash P (ucs [99,111,110,99,97,116]), .str (ucs [99,111,110,99,97,116]) 297, .builtin "_operator.concat"⟩, ⟨PyData.keyHash P (ucs [105,99,111,110,99,97,116]), .str (ucs [105,99,111,110,99,97,116]) 298, .builtin "_operator.iconcat"⟩, ⟨PyData.keyHash P (ucs [103,101,116,105,116,101,109]), .str (ucs [103,101,116,105,116,101,109]) 299, .builtin "_operator.getitem"⟩, ⟨PyData.keyHash P (ucs [115,101,116,105,116,101,109]), .str (ucs [115,101,116,105,116,101,109]) 300, .builtin "_operator.setitem"⟩, ⟨PyData.keyHash P (ucs [100,101,108,105,116,101,109]), .str (ucs [100,101,108,105,116,101,109]) 301, .builtin "_operator.delitem"⟩, ⟨PyData.keyHash P (ucs [112,111,119]), .str (ucs [112,111,119]) 302, .builtin "_operator.pow"⟩, ⟨PyData.keyHash P (ucs [105,112,111,119]), .str (ucs [105,112,111,119]) 303, .builtin "_operator.ipow"⟩, ⟨PyData.keyHash P (ucs [101,113]), .str (ucs [101,113]) 304, .builtin "_operator.eq"⟩, ⟨PyData.keyHash P (ucs [110,101]), .str (ucs [110,101]) 305, .builtin "_operator.ne"⟩, ⟨PyData.keyHash P (ucs [108,116]), .str (ucs [108,116]) 306, .builtin "_operator.lt"⟩, ⟨PyData.keyHash P (ucs [108,101]), .str (ucs [108,101]) 307, .builtin "_operator.le"⟩, ⟨PyData.keyHash P (ucs [103,116]), .str (ucs [103,116]) 308, .builtin "_operator.gt"⟩, ⟨PyData.keyHash P (ucs [103,101]), .str (ucs [103,101]) 309, .builtin "_operator.ge"⟩, ⟨PyData.keyHash P (ucs [95,99,111,109,112,97,114,101,95,100,105,103,101,115,116]), .str (ucs [95,99,111,109,112,97,114,101,95,100,105,103,101,115,116]) 310, .builtin "off-the-table:_operator._compare_digest:shared#opaque"⟩, ⟨PyData.keyHash P (ucs [108,101,110,103,116,104,95,104,105,110,116]), .str (ucs [108,101,110,103,116,104,95,104,105,110,116]) 311, .builtin "_operator.length_hint"⟩, ⟨PyData.keyHash P (ucs [99,97,108,108]), .str (ucs [99,97,108,108]) 312, .builtin "_operator.call"⟩, ⟨PyData.keyHash P (ucs [97,116,116,114,103,101,116,116,101,114]), .str (ucs [97,116,116,114,103,101,116,116,101,114]) 313, .builtin "off-the-table:_operator.attrgetter:shared#opaque"⟩, ⟨PyData.keyHash P (ucs [105,116,101,109,103,101,116,116,101,114]), .str (ucs [105,116,101,109,103,101,116,116,101,114]) 314, .type "operator.itemgetter"⟩, ⟨PyData.keyHash P (ucs [109,101,116,104,111,100,99,97,108,108,101,114]), .str (ucs [109,101,116,104,111,100,99,97,108,108,101,114]) 315, .builtin "off-the-table:_operator.methodcaller:shared#opaque"⟩] 61), #[]⟩,
  ⟨.type "module", (some 12), .plain, #[]⟩,
  ⟨.type "dict", none, (.dict #[⟨PyData.keyHash P (ucs [95,95,109,111,100,117,108,101,95,95]), .str (ucs [95,95,109,111,100,117,108,101,95,95]) 195, .str (ucs [95,102,114,111,122,101,110,95,105,109,112,111,114,116,108,105,98]) 192⟩, ⟨PyData.keyHash P (ucs [95,95,102,105,114,115,116,108,105,110,101,110,111,95,95]), .str (ucs [95,95,102,105,114,115,116,108,105,110,101,110,111,95,95]) 196, .int (971) 193⟩, ⟨PyData.keyHash P (ucs [95,95,100,111,99,95,95]), .str (ucs [95,95,100,111,99,95,95]) 197, .builtin "_frozen_importlib.BuiltinImporter.__doc__:str#opaque"⟩, ⟨PyData.keyHash P (ucs [95,79,82,73,71,73,78]), .str (ucs [95,79,82,73,71,73,78]) 198, .str (ucs [98,117,105,108,116,45,105,110]) 194⟩, ⟨PyData.keyHash P (ucs [102,105,110,100,95,115,112,101,99]), .str (ucs [102,105,110,100,95,115,112,101,99]) 199, .builtin "_frozen_importlib.BuiltinImporter.find_spec#opaque"⟩, ⟨PyData.keyHash P (ucs [99,114,101,97,116,101,95,109,111,100,117,108,101]), .str (ucs [99,114,101,97,116,101,95,109,111,100,117,108,101]) 200, .builtin "_frozen_importlib.BuiltinImporter.create_module#opaque"⟩, ⟨PyData.keyHash P (ucs [101,120,101,99,95,109,111,100,117,108,101]), .str (ucs [101,120,101,99,95,109,111,100,117,108,101]) 201, .builtin "_frozen_importlib.BuiltinImporter.exec_module#opaque"⟩, ⟨PyData.keyHash P (ucs [103,101,116,95,99,111,100,101]), .str (ucs [103,101,116,95,99,111,100,101]) 202, .builtin "_frozen_importlib.BuiltinImporter.get_code#opaque"⟩, ⟨PyData.keyHash P (ucs [103,101,116,95,115,111,117,114,99,101]), .str (ucs [103,101,116,95,115,111,117,114,99,101]) 203, .builtin "_frozen_importlib.BuiltinImporter.get_source#opaque"⟩, ⟨PyData.keyHash P (ucs [105,115,95,112,97,99,107,97,103,101]), .str (ucs [105,115,95,112,97,99,107,97,103,101]) 204, .builtin "_frozen_importlib.BuiltinImporter.is_package#opaque"⟩, ⟨PyData.keyHash P (ucs [108,111,97,100,95,109,111,100,117,108,101]), .str (ucs [108,111,97,100,95,109,111,100,117,108,101]) 205, .builtin "_frozen_importlib.BuiltinImporter.load_module#opaque"⟩, ⟨PyData.keyHash P (ucs [95,95,115,116,97,116,105,99,95,97,116,116,114,105,98,117,116,101,115,95,95]), .str (ucs [95,95,115,116,97,116,105,99,95,97,116,116,114,105,98,117,116,101,115,95,95]) 206, .ref 16⟩, ⟨PyData.keyHash P (ucs [95,95,100,105,99,116,95,95]), .str (ucs [95,95,100,105,99,116,95,95]) 208, .ref 17⟩, ⟨PyData.keyHash P (ucs [95,95,119,101,97,107,114,101,102,95,95]), .str (ucs [95,95,119,101,97,107,114,101,102,95,95]) 210, .ref 18⟩] 14), #[]⟩,
  ⟨.type "type", none, (.cls { name := (ucs [66,117,105,108,116,105,110,73,109,112,111,114,116,101,114]), bases := [.type "object"], mro := [.ref 15, .type "object"], ns := 14, qualname := (ucs [66,117,105,108,116,105,110,73,109,112,111,114,116,101,114]), hasDict := true, slotNames := [], subclasses := [], abstract := false, collection := none, hasDel := false }), #[]⟩,
  ⟨.type "tuple", none, (.seq #[] 0), #[]⟩,
  ⟨.type "getset_descriptor", none, (.fields #[.str (ucs [95,95,100,105,99,116,95,95]) 207, .ref 15, .builtin "function.__dict__", .builtin "function.__dict__#set"]), #[]⟩,
  ⟨.type "getset_descriptor", none, (.fields #[.str (ucs [95,95,119,101,97,107,114,101,102,95,95]) 209, .ref 15, .builtin "ExceptionGroup.__weakref__", .none]), #[]⟩,
  ⟨.none, none, (.seq #[.int (14) 0, .str (ucs [6,195,10,95,95,109,111,100,117,108,101,95,95,6,192,17,95,102,114,111,122,101,110,95,105,109,112,111,114,116,108,105,98,6,196,15,95,95,102,105,114,115,116,108,105,110,101,110,111,95,95,4,193,0,971,6,197,7,95,95,100,111,99,95,95,9,52,95,102,114,111,122,101,110,95,105,109,112,111,114,116,108,105,98,46,66,117,105,108,116,105,110,73,109,112,111,114,116,101,114,46,95,95,100,111,99,95,95,58,115,116,114,35,111,112,97,113,117,101,6,198,7,95,79,82,73,71,73,78,6,194,8,98,117,105,108,116,45,105,110,6,199,9,102,105,110,100,95,115,112,101,99,9,50,95,102,114,111,122,101,110,95,105,109,112,111,114,116,108,105,98,46,66,117,105,108,116,105,110,73,109,112,111,114,116,101,114,46,102,105,110,100,95,115,112,101,99,35,111,112,97,113,117,101,6,200,13,99,114,101,97,116,101,95,109,111,100,117,108,101,9,54,95,102,114,111,122,101,110,95,105,109,112,111,114,116,108,105,98,46,66,117,105,108,116,105,110,73,109,112,111,114,116,101,114,46,99,114,101,97,116,101,95,109,111,100,117,108,101,35,111,112,97,113,117,101,6,201,11,101,120,101,99,95,109,111,100,117,108,101,9,52,95,102,114,111,122,101,110,95,105,109,112,111,114,116,108,105,98,46,66,117,105,108,116,105,110,73,109,112,111,114,116,101,114,46,101,120,101,99,95,109,111,100,117,108,101,35,111,112,97,113,117,101,6,202,8,103,101,116,95,99,111,100,101,9,49,95,102,114,111,122,101,110,95,105,109,112,111,114,116,108,105,98,46,66,117,105,108,116,105,110,73,109,112,111,114,116,101,114,46,103,101,116,95,99,111,100,101,35,111,112,97,113,117,101,6,203,10,103,101,116,95,115,111,117,114,99,101,9,51,95,102,114,111,122,101,110,95,105,109,112,111,114,116,108,105,98,46,66,117,105,108,116,105,110,73,109,112,111,114,116,101,114,46,103,101,116,95,115,111,117,114,99,101,35,111,112,97,113,117,101,6,204,10,105,115,95,112,97,99,107,97,103,101,9,51,95,102,114,111,122,101,110,95,105,109,112,111,114,116,108,105,98,46,66,117,105,108,116,105,110,73,109,112,111,114,116,101,114,46,105,115,95,112,97,99,107,97,103,101,35,111,112,97,113,117,101,6,205,11,108,111,97,100,95,109,111,100,117,108,101,9,52,95,102,114,111,122,101,110,95,105,109,112,111,114,116,108,105,98,46,66,117,105,108,116,105,110,73,109,112,111,114,116,101,114,46,108,111,97,100,95,109,111,100,117,108,101,35,111,112,97,113,117,101,6,206,21,95,95,115,116,97,116,105,99,95,97,116,116,114,105,98,117,116,101,115,95,95,4,0,0,16,6,208,8,95,95,100,105,99,116,95,95,4,0,0,17,6,210,11,95,95,119,101,97,107,114,101,102,95,95,4,0,0,18]) 0, .bool true, .bool true, .str (ucs []) 211, .int (22) 0, .str (ucs [6,233,10,95,95,109,111,100,117,108,101,95,95,6,223,17,95,102,114,111,122,101,110,95,105,109,112,111,114,116,108,105,98,6,234,15,95,95,102,105,114,115,116,108,105,110,101,110,111,95,95,4,224,0,562,6,235,7,95,95,100,111,99,95,95,9,47,95,102,114,111,122,101,110,95,105,109,112,111,114,116,108,105,98,46,77,111,100,117,108,101,83,112,101,99,46,95,95,100,111,99,95,95,58,115,116,114,35,111,112,97,113,117,101,6,236,8,95,95,105,110,105,116,95,95,9,44,95,102,114,111,122,101,110,95,105,109,112,111,114,116,108,105,98,46,77,111,100,117,108,101,83,112,101,99,46,95,95,105,110,105,116,95,95,35,111,112,97,113,117,101,6,237,8,95,95,114,101,112,114,95,95,9,44,95,102,114,111,122,101,110,95,105,109,112,111,114,116,108,105,98,46,77,111,100,117,108,101,83,112,101,99,46,95,95,114,101,112,114,95,95,35,111,112,97,113,117,101,6,238,6,95,95,101,113,95,95,9,42,95,102,114,111,122,101,110,95,105,109,112,111,114,116,108,105,98,46,77,111,100,117,108,101,83,112,101,99,46,95,95,101,113,95,95,35,111,112,97,113,117,101,6,239,6,99,97,99,104,101,100,9,42,95,102,114,111,122,101,110,95,105,109,112,111,114,116,108,105,98,46,77,111,100,117,108,101,83,112,101,99,46,99,97,99,104,101,100,35,111,112,97,113,117,101,6,240,6,112,97,114,101,110,116,9,42,95,102,114,111,122,101,110,95,105,109,112,111,114,116,108,105,98,46,77,111,100,117,108,101,83,112,101,99,46,112,97,114,101,110,116,35,111,112,97,113,117,101,6,241,12,104,97,115,95,108,111,99,97,116,105,111,110,9,48,95,102,114,111,122,101,110,95,105,109,112,111,114,116,108,105,98,46,77,111,100,117,108,101,83,112,101,99,46,104,97,115,95,108,111,99,97,116,105,111,110,35,111,112,97,113,117,101,6,242,21,95,95,115,116,97,116,105,99,95,97,116,116,114,105,98,117,116,101,115,95,95,4,0,0,24,6,244,8,95,95,100,105,99,116,95,95,4,0,0,25,6,246,11,95,95,119,101,97,107,114,101,102,95,95,4,0,0,26,6,247,8,95,95,104,97,115,104,95,95,0]) 0, .bool true, .bool true, .str (ucs []) 248] 1), #[]⟩,
  ⟨.type "list", none, (.seq #[] 0), #[]⟩,
  ⟨.type "dict", none, (.dict #[⟨PyData.keyHash P (ucs [110,97,109,101]), .str (ucs [110,97,109,101]) 214, .str (ucs [95,111,112,101,114,97,116,111,114]) 213⟩, ⟨PyData.keyHash P (ucs [108,111,97,100,101,114]), .str (ucs [108,111,97,100,101,114]) 215, .ref 15⟩, ⟨PyData.keyHash P (ucs [111,114,105,103,105,110]), .str (ucs [111,114,105,103,105,110]) 216, .str (ucs [98,117,105,108,116,45,105,110]) 190⟩, ⟨PyData.keyHash P (ucs [108,111,97,100,101,114,95,115,116,97,116,101]), .str (ucs [108,111,97,100,101,114,95,115,116,97,116,101]) 217, .none⟩, ⟨PyData.keyHash P (ucs [115,117,98,109,111,100,117,108,101,95,115,101,97,114,99,104,95,108,111,99,97,116,105,111,110,115]), .str (ucs [115,117,98,109,111,100,117,108,101,95,115,101,97,114,99,104,95,108,111,99,97,116,105,111,110,115]) 218, .none⟩, ⟨PyData.keyHash P (ucs [95,117,110,105,110,105,116,105,97,108,105,122,101,100,95,115,117,98,109,111,100,117,108,101,115]), .str (ucs [95,117,110,105,110,105,116,105,97,108,105,122,101,100,95,115,117,98,109,111,100,117,108,101,115]) 219, .ref 20⟩, ⟨PyData.keyHash P (ucs [95,115,101,116,95,102,105,108,101,97,116,116,114]), .str (ucs [95,115,101,116,95,102,105,108,101,97,116,116,114]) 220, .bool false⟩, ⟨PyData.keyHash P (ucs [95,99,97,99,104,101,100]), .str (ucs [95,99,97,99,104,101,100]) 221, .none⟩, ⟨PyData.keyHash P (ucs [95,105,110,105,116,105,97,108,105,122,105,110,103]), .str (ucs [95,105,110,105,116,105,97,108,105,122,105,110,103]) 249, .bool false⟩] 9), #[]⟩,
  ⟨.type "dict", none, (.dict #[⟨PyData.keyHash P (ucs [95,95,109,111,100,117,108,101,95,95]), .str (ucs [95,95,109,111,100,117,108,101,95,95]) 233, .str (ucs [95,102,114,111,122,101,110,95,105,109,112,111,114,116,108,105,98]) 223⟩, ⟨PyData.keyHash P (ucs [95,95,102,105,114,115,116,108,105,110,101,110,111,95,95]), .str (ucs [95,95,102,105,114,115,116,108,105,110,101,110,111,95,95]) 234, .int (562) 224⟩, ⟨PyData.keyHash P (ucs [95,95,100,111,99,95,95]), .str (ucs [95,95,100,111,99,95,95]) 235, .builtin "_frozen_importlib.ModuleSpec.__doc__:str#opaque"⟩, ⟨PyData.keyHash P (ucs [95,95,105,110,105,116,95,95]), .str (ucs [95,95,105,110,105,116,95,95]) 236, .builtin "_frozen_importlib.ModuleSpec.__init__#opaque"⟩, ⟨PyData.keyHash P (ucs [95,95,114,101,112,114,95,95]), .str (ucs [95,95,114,101,112,114,95,95]) 237, .builtin "_frozen_importlib.ModuleSpec.__repr__#opaque"⟩, ⟨PyData.keyHash P (ucs [95,95,101,113,95,95]), .str (ucs [95,95,101,113,95,95]) 238, .builtin "_frozen_importlib.ModuleSpec.__eq__#opaque"⟩, ⟨PyData.keyHash P (ucs [99,97,99,104,101,100]), .str (ucs [99,97,99,104,101,100]) 239, .builtin "_frozen_importlib.ModuleSpec.cached#opaque"⟩, ⟨PyData.keyHash P (ucs [112,97,114,101,110,116]), .str (ucs [112,97,114,101,110,116]) 240, .builtin "_frozen_importlib.ModuleSpec.parent#opaque"⟩, ⟨PyData.keyHash P (ucs [104,97,115,95,108,111,99,97,116,105,111,110]), .str (ucs [104,97,115,95,108,111,99,97,116,105,111,110]) 241, .builtin "_frozen_importlib.ModuleSpec.has_location#opaque"⟩, ⟨PyData.keyHash P (ucs [95,95,115,116,97,116,105,99,95,97,116,116,114,105,98,117,116,101,115,95,95]), .str (ucs [95,95,115,116,97,116,105,99,95,97,116,116,114,105,98,117,116,101,115,95,95]) 242, .ref 24⟩, ⟨PyData.keyHash P (ucs [95,95,100,105,99,116,95,95]), .str (ucs [95,95,100,105,99,116,95,95]) 244, .ref 25⟩, ⟨PyData.keyHash P (ucs [95,95,119,101,97,107,114,101,102,95,95]), .str (ucs [95,95,119,101,97,107,114,101,102,95,95]) 246, .ref 26⟩, ⟨PyData.keyHash P (ucs [95,95,104,97,115,104,95,95]), .str (ucs [95,95,104,97,115,104,95,95]) 247, .none⟩] 13), #[]⟩,
  ⟨.type "type", none, (.cls { name := (ucs [77,111,100,117,108,101,83,112,101,99]), bases := [.type "object"], mro := [.ref 23, .type "object"], ns := 22, qualname := (ucs [77,111,100,117,108,101,83,112,101,99]), hasDict := true, slotNames := [], subclasses := [], abstract := false, collection := none, hasDel := false }), #[]⟩,
  ⟨.type "tuple", none, (.seq #[.str (ucs [95,99,97,99,104,101,100]) 225, .str (ucs [95,115,101,116,95,102,105,108,101,97,116,116,114]) 226, .str (ucs [95,117,110,105,110,105,116,105,97,108,105,122,101,100,95,115,117,98,109,111,100,117,108,101,115]) 227, .str (ucs [108,111,97,100,101,114]) 228, .str (ucs [108,111,97,100,101,114,95,115,116,97,116,101]) 229, .str (ucs [110,97,109,101]) 230, .str (ucs [111,114,105,103,105,110]) 231, .str (ucs [115,117,98,109,111,100,117,108,101,95,115,101,97,114,99,104,95,108,111,99,97,116,105,111,110,115]) 232] 0), #[]⟩,
  ⟨.type "getset_descriptor", none, (.fields #[.str (ucs [95,95,100,105,99,116,95,95]) 243, .ref 23, .builtin "function.__dict__", .builtin "function.__dict__#set"]), #[]⟩,
  ⟨.type "getset_descriptor", none, (.fields #[.str (ucs [95,95,119,101,97,107,114,101,102,95,95]) 245, .ref 23, .builtin "ExceptionGroup.__weakref__", .none]), #[]⟩,
  ⟨.ref 23, (some 21), .plain, #[]⟩,
  ⟨.none, none, (.seq #[.int (12) 0, .str (ucs [6,254,8,95,95,110,97,109,101,95,95,6,253,9,95,111,112,101,114,97,116,111,114,6,255,7,95,95,100,111,99,95,95,9,28,95,111,112,101,114,97,116,111,114,46,95,95,100,111,99,95,95,58,115,116,114,35,111,112,97,113,117,101,6,257,11,95,95,112,97,99,107,97,103,101,95,95,6,256,0,6,258,10,95,95,108,111,97,100,101,114,95,95,4,0,0,15,6,259,8,95,95,115,112,101,99,95,95,4,0,0,27,6,260,5,116,114,117,116,104,9,15,95,111,112,101,114,97,116,111,114,46,116,114,117,116,104,6,261,8,99,111,110,116,97,105,110,115,9,18,95,111,112,101,114,97,116,111,114,46,99,111,110,116,97,105,110,115,6,262,7,105,110,100,101,120,79,102,9,17,95,111,112,101,114,97,116,111,114,46,105,110,100,101,120,79,102,6,263,7,99,111,117,110,116,79,102,9,17,95,111,112,101,114,97,116,111,114,46,99,111,117,110,116,79,102,6,264,3,105,115,95,9,13,95,111,112,101,114,97,116,111,114,46,105,115,95,6,265,6,105,115,95,110,111,116,9,16,95,111,112,101,114,97,116,111,114,46,105,115,95,110,111,116,6,266,5,105,110,100,101,120,9,15,95,111,112,101,114,97,116,111,114,46,105,110,100,101,120,6,267,3,97,100,100,9,13,95,111,112,101,114,97,116,111,114,46,97,100,100,6,268,3,115,117,98,9,13,95,111,112,101,114,97,116,111,114,46,115,117,98,6,269,3,109,117,108,9,13,95,111,112,101,114,97,116,111,114,46,109,117,108,6,270,6,109,97,116,109,117,108,9,16,95,111,112,101,114,97,116,111,114,46,109,97,116,109,117,108,6,271,8,102,108,111,111,114,100,105,118,9,18,95,111,112,101,114,97,116,111,114,46,102,108,111,111,114,100,105,118,6,272,7,116,114,117,101,100,105,118,9,17,95,111,112,101,114,97,116,111,114,46,116,114,117,101,100,105,118,6,273,3,109,111,100,9,13,95,111,112,101,114,97,116,111,114,46,109,111,100,6,274,3,110,101,103,9,13,95,111,112,101,114,97,116,111,114,46,110,101,103,6,275,3,112,111,115,9,13,95,111,112,101,114,97,116,111,114,46,112,111,115,6,276,3,97,98,115,9,13,95,111,112,101,114,97,116,111,114,46,97,98,115,6,277,3,105,110,118,9,13,95,111,112,101,114,97,116,111,114,46,105,110,118,6,278,6,105,110,118,101,114,116,9,16,95,111,112,101,114,97,116,111,114,46,105,110,118,101,114,116,6,279,6,108,115,104,105,102,116,9,16,95,111,112,101,114,97,116,111,114,46,108,115,104,105,102,116,6,280,6,114,115,104,105,102,116,9,16,95,111,112,101,114,97,116,111,114,46,114,115,104,105,102,116,6,281,4,110,111,116,95,9,14,95,111,112,101,114,97,116,111,114,46,110,111,116,95,6,282,4,97,110,100,95,9,14,95,111,112,101,114,97,116,111,114,46,97,110,100,95,6,283,3,120,111,114,9,13,95,111,112,101,114,97,116,111,114,46,120,111,114,6,284,3,111,114,95,9,13,95,111,112,101,114,97,116,111,114,46,111,114,95,6,285,4,105,97,100,100,9,14,95,111,112,101,114,97,116,111,114,46,105,97,100,100,6,286,4,105,115,117,98,9,14,95,111,112,101,114,97,116,111,114,46,105,115,117,98,6,287,4,105,109,117,108,9,14,95,111,112,101,114,97,116,111,114,46,105,109,117,108,6,288,7,105,109,97,116,109,117,108,9,17,95,111,112,101,114,97,116,111,114,46,105,109,97,116,109,117,108,6,289,9,105,102,108,111,111,114,100,105,118,9,19,95,111,112,101,114,97,116,111,114,46,105,102,108,111,111,114,100,105,118,6,290,8,105,116,114,117,101,100,105,118,9,18,95,111,112,101,114,97,116,111,114,46,105,116,114,117,101,100,105,118,6,291,4,105,109,111,100,9,14,95,111,112,101,114,97,116,111,114,46,105,109,111,100,6,292,7,105,108,115,104,105,102,116,9,17,95,111,112,101,114,97,116,111,114,46,105,108,115,104,105,102,116,6,293,7,105,114,115,104,105,102,116,9,17,95,111,112,101,114,97,116,111,114,46,105,114,115,104,105,102,116,6,294,4,105,97,110,100,9,14,95,111,112,101,114,97,116,111,114,46,105,97,110,100,6,295,4,105,120,111,114,9,14,95,111,112,101,114,97,116,111,114,46,105,120,111,114,6,296,3,105,111,114,9,13,95,111,112,101,114,97,116,111,114,46,105,111,114,6,297,6,99,111,110,99,97,116,9,16,95,111,112,101,114,97,116,111,114,46,99,111,110,99,97,116,6,298,7,105,99,111,110,99,97,116,9,17,95,111,112,101,114,97,116,111,114,46,105,99,111,110,99,97,116,6,299,7,103,101,116,105,116,101,109,9,17,95,111,112,101,114,97,116,111,114,46,103,101,116,105,116,101,109,6,300,7,115,101,116,105,116,101,109,9,17,95,111,112,101,114,97,116,111,114,46,115,101,116,105,116,101,109,6,301,7,100,101,108,105,116,101,109,9,17,95,111,112,101,114,97,116,111,114,46,100,101,108,105,116,101,109,6,302,3,112,111,119,9,13,95,111,112,101,114,97,116,111,114,46,112,111,119,6,303,4,105,112,111,119,9,14,95,111,112,101,114,97,116,111,114,46,105,112,111,119,6,304,2,101,113,9,12,95,111,112,101,114,97,116,111,114,46,101,113,6,305,2,110,101,9,12,95,111,112,101,114,97,116,111,114,46,110,101,6,306,2,108,116,9,12,95,111,112,101,114,97,116,111,114,46,108,116,6,307,2,108,101,9,12,95,111,112,101,114,97,116,111,114,46,108,101,6,308,2,103,116,9,12,95,111,112,101,114,97,116,111,114,46,103,116,6,309,2,103,101,9,12,95,111,112,101,114,97,116,111,114,46,103,101,6,310,15,95,99,111,109,112,97,114,101,95,100,105,103,101,115,116,9,25,95,111,112,101,114,97,116,111,114,46,95,99,111,109,112,97,114,101,95,100,105,103,101,115,116,6,311,11,108,101,110,103,116,104,95,104,105,110,116,9,21,95,111,112,101,114,97,116,111,114,46,108,101,110,103,116,104,95,104,105,110,116,6,312,4,99,97,108,108,9,14,95,111,112,101,114,97,116,111,114,46,99,97,108,108,6,313,10,97,116,116,114,103,101,116,116,101,114,8,19,111,112,101,114,97,116,111,114,46,97,116,116,114,103,101,116,116,101,114,6,314,10,105,116,101,109,103,101,116,116,101,114,8,19,111,112,101,114,97,116,111,114,46,105,116,101,109,103,101,116,116,101,114,6,315,12,109,101,116,104,111,100,99,97,108,108,101,114,8,21,111,112,101,114,97,116,111,114,46,109,101,116,104,111,100,99,97,108,108,101,114]) 0, .bool true, .bool false, .str (ucs [95,111,112,101,114,97,116,111,114]) 317] 0), #[]⟩,
  ⟨.type "tuple", none, (.seq #[] 0), #[]⟩,
  ⟨.none, none, (.fields #[.int (2) 0, .int (0) 0, .ref 38, .int (6) 0, .int (0) 0, .ref 45, .int (11) 0, .int (0) 0, .ref 53, .int (13) 0, .int (0) 0, .ref 61, .int (202) 0, .int (0) 0, .ref 319, .int (206) 0, .int (0) 0, .ref 326, .int (215) 0, .int (0) 0, .ref 333, .int (219) 0, .int (0) 0, .ref 340, .int (223) 0, .int (0) 0, .ref 347, .int (234) 0, .int (0) 0, .ref 352, .int (236) 0, .int (0) 0, .ref 359, .int (241) 0, .int (0) 0, .ref 366]), #[]⟩,
  ⟨.type "code", none, (.fields #[.str (ucs [60,109,111,100,117,108,101,62]) 339, .str (ucs [60,109,111,100,117,108,101,62]) 340, .str (ucs [47,99,108,97,105,109,47,99,117,116,46,112,121]) 341, .int (1) 0, .int (0) 0, .int (0) 0, .int (0) 0, .int (0) 0, .ref 29, .bool false, .int (338) 0, .ref 30, .none, .none, .none, .none, .int (342) 0, .int (1) 0, .str (ucs [47,99,108,97,105,109,47,99,117,116,46,112,121]) 343]), #[]⟩,
  ⟨.type "frame", none, .plain, #[(some (.ref 31)), (some (.ref 3)), (some (.ref 3)), none, (some (.str (ucs [95,95,109,97,105,110,95,95]) 164)), none, (some (.ref 0))]⟩,
  ⟨.type "tuple", none, (.seq #[] 0), #[]⟩,
  ⟨.none, none, (.fields #[]), #[]⟩,
  ⟨.type "tuple", none, (.seq #[.str (ucs [107]) 347] 0), #[]⟩,
  ⟨.type "tuple", none, (.seq #[] 0), #[]⟩,
  ⟨.none, none, (.func { fnD (nth (body0) 1) (ucs [95,119,97,108,108]) [] .none .none .none none .none .none with globals := 0 }), #[]⟩,
  ⟨.type "code", none, (.fields #[.str (ucs [95,119,97,108,108]) 344, .str (ucs [95,119,97,108,108]) 345, .str (ucs [47,99,108,97,105,109,47,99,117,116,46,112,121]) 346, .int (2) 0, .int (1) 0, .int (0) 0, .int (0) 0, .int (3) 0, .ref 33, .bool true, .int (338) 0, .ref 34, .none, .ref 35, .ref 36, .ref 37, .int (348) 0, .int (2) 0, .str (ucs [47,99,108,97,105,109,47,99,117,116,46,112,121]) 349]), #[]⟩,
  ⟨.type "function", none, (.func (fnD (nth (body0) 1) (ucs [95,119,97,108,108]) [] .none .none (.str (ucs [95,95,109,97,105,110,95,95]) 164) none (.ref 38) .none)), #[]⟩,
  ⟨.type "tuple", none, (.seq #[] 0), #[]⟩,
  ⟨.none, none, (.fields #[]), #[]⟩,
  ⟨.type "tuple", none, (.seq #[.str (ucs [118,97,108]) 356] 0), #[]⟩,
  ⟨.type "tuple", none, (.seq #[] 0), #[]⟩,
  ⟨.none, none, (.func { fnD (nth (body0) 3) (ucs [95,98,105,116,99,111,117,110,116]) [] .none .none .none none .none .none with globals := 0 }), #[]⟩,
  ⟨.type "code", none, (.fields #[.str (ucs [95,98,105,116,99,111,117,110,116]) 353, .str (ucs [95,98,105,116,99,111,117,110,116]) 354, .str (ucs [47,99,108,97,105,109,47,99,117,116,46,112,121]) 355, .int (6) 0, .int (1) 0, .int (0) 0, .int (0) 0, .int (3) 0, .ref 40, .bool true, .int (338) 0, .ref 41, .none, .ref 42, .ref 43, .ref 44, .int (357) 0, .int (6) 0, .str (ucs [47,99,108,97,105,109,47,99,117,116,46,112,121]) 358]), #[]⟩,
  ⟨.type "function", none, (.func (fnD (nth (body0) 3) (ucs [95,98,105,116,99,111,117,110,116]) [] .none .none (.str (ucs [112,121,114,115,105,115,116,101,110,116,46,95,112,118,101,99,116,111,114]) 351) none (.ref 45) .none)), #[]⟩,
  ⟨.type "frame", none, (.dict #[⟨PyData.keyHash P (ucs [118,97,108]), .str (ucs [118,97,108]) 365, .int (31) 363⟩] 1), #[]⟩,
  ⟨.type "tuple", none, (.seq #[] 0), #[]⟩,
  ⟨.none, none, (.fields #[]), #[]⟩,
  ⟨.type "tuple", none, (.seq #[.str (ucs [118]) 373, .str (ucs [111,116,104,101,114]) 374, .str (ucs [111,112,101,114,97,116,111,114]) 375] 0), #[]⟩,
  ⟨.type "tuple", none, (.seq #[] 0), #[]⟩,
  ⟨.none, none, (.func { fnD (nth (body0) 7) (ucs [99,111,109,112,97,114,101,95,112,118,101,99,116,111,114]) [] .none .none .none none .none .none with globals := 0 }), #[]⟩,
  ⟨.type "code", none, (.fields #[.str (ucs [99,111,109,112,97,114,101,95,112,118,101,99,116,111,114]) 370, .str (ucs [99,111,109,112,97,114,101,95,112,118,101,99,116,111,114]) 371, .str (ucs [47,99,108,97,105,109,47,99,117,116,46,112,121]) 372, .int (11) 0, .int (3) 0, .int (0) 0, .int (0) 0, .int (3) 0, .ref 48, .bool true, .int (338) 0, .ref 49, .none, .ref 50, .ref 51, .ref 52, .int (376) 0, .int (11) 0, .str (ucs [47,99,108,97,105,109,47,99,117,116,46,112,121]) 377]), #[]⟩,
  ⟨.type "function", none, (.func (fnD (nth (body0) 7) (ucs [99,111,109,112,97,114,101,95,112,118,101,99,116,111,114]) [] .none .none (.str (ucs [112,121,114,115,105,115,116,101,110,116,46,95,112,118,101,99,116,111,114]) 351) none (.ref 53) .none)), #[]⟩,
  ⟨.type "tuple", none, (.seq #[.type "object"] 0), #[]⟩,
  ⟨.type "builtin_function_or_method", none, (.fields #[.builtin "type.__prepare__", .type "type"]), #[]⟩,
  ⟨.type "dict", none, (.dict #[⟨PyData.keyHash P (ucs [95,95,109,111,100,117,108,101,95,95]), .str (ucs [95,95,109,111,100,117,108,101,95,95]) 386, .str (ucs [112,121,114,115,105,115,116,101,110,116,46,95,112,118,101,99,116,111,114]) 351⟩, ⟨PyData.keyHash P (ucs [95,95,113,117,97,108,110,97,109,101,95,95]), .str (ucs [95,95,113,117,97,108,110,97,109,101,95,95]) 388, .str (ucs [80,121,116,104,111,110,80,86,101,99,116,111,114]) 387⟩, ⟨PyData.keyHash P (ucs [95,95,102,105,114,115,116,108,105,110,101,110,111,95,95]), .str (ucs [95,95,102,105,114,115,116,108,105,110,101,110,111,95,95]) 390, .int (13) 389⟩, ⟨PyData.keyHash P (ucs [95,95,115,108,111,116,115,95,95]), .str (ucs [95,95,115,108,111,116,115,95,95]) 397, .ref 63⟩, ⟨PyData.keyHash P (ucs [95,95,110,101,119,95,95]), .str (ucs [95,95,110,101,119,95,95]) 410, .ref 71⟩, ⟨PyData.keyHash P (ucs [95,95,108,101,110,95,95]), .str (ucs [95,95,108,101,110,95,95]) 417, .ref 78⟩, ⟨PyData.keyHash P (ucs [95,95,103,101,116,105,116,101,109,95,95]), .str (ucs [95,95,103,101,116,105,116,101,109,95,95]) 425, .ref 85⟩, ⟨PyData.keyHash P (ucs [95,95,97,100,100,95,95]), .str (ucs [95,95,97,100,100,95,95]) 433, .ref 92⟩, ⟨PyData.keyHash P (ucs [95,95,114,101,112,114,95,95]), .str (ucs [95,95,114,101,112,114,95,95]) 440, .ref 99⟩, ⟨PyData.keyHash P (ucs [95,95,115,116,114,95,95]), .str (ucs [95,95,115,116,114,95,95]) 447, .ref 106⟩, ⟨PyData.keyHash P (ucs [95,95,105,116,101,114,95,95]), .str (ucs [95,95,105,116,101,114,95,95]) 454, .ref 113⟩, ⟨PyData.keyHash P (ucs [95,95,110,101,95,95]), .str (ucs [95,95,110,101,95,95]) 462, .ref 120⟩, ⟨PyData.keyHash P (ucs [95,95,101,113,95,95]), .str (ucs [95,95,101,113,95,95]) 470, .ref 127⟩, ⟨PyData.keyHash P (ucs [95,95,103,116,95,95]), .str (ucs [95,95,103,116,95,95]) 478, .ref 134⟩, ⟨PyData.keyHash P (ucs [95,95,108,116,95,95]), .str (ucs [95,95,108,116,95,95]) 486, .ref 141⟩, ⟨PyData.keyHash P (ucs [95,95,103,101,95,95]), .str (ucs [95,95,103,101,95,95]) 494, .ref 148⟩, ⟨PyData.keyHash P (ucs [95,95,108,101,95,95]), .str (ucs [95,95,108,101,95,95]) 502, .ref 155⟩, ⟨PyData.keyHash P (ucs [95,95,109,117,108,95,95]), .str (ucs [95,95,109,117,108,95,95]) 510, .ref 162⟩, ⟨PyData.keyHash P (ucs [95,95,114,109,117,108,95,95]), .str (ucs [95,95,114,109,117,108,95,95]) 511, .ref 162⟩, ⟨PyData.keyHash P (ucs [95,102,105,108,108,95,108,105,115,116]), .str (ucs [95,102,105,108,108,95,108,105,115,116]) 522, .ref 169⟩, ⟨PyData.keyHash P (ucs [116,111,108,105,115,116]), .str (ucs [116,111,108,105,115,116]) 530, .ref 176⟩, ⟨PyData.keyHash P (ucs [95,116,111,116,117,112,108,101]), .str (ucs [95,116,111,116,117,112,108,101]) 537, .ref 183⟩, ⟨PyData.keyHash P (ucs [115,101,116]), .str (ucs [115,101,116]) 547, .ref 190⟩, ⟨PyData.keyHash P (ucs [95,100,111,95,115,101,116]), .str (ucs [95,100,111,95,115,101,116]) 560, .ref 197⟩, ⟨PyData.keyHash P (ucs [95,110,111,100,101,95,102,111,114]), .str (ucs [95,110,111,100,101,95,102,111,114]) 582, .ref 206⟩, ⟨PyData.keyHash P (ucs [95,99,114,101,97,116,101,95,110,101,119,95,114,111,111,116]), .str (ucs [95,99,114,101,97,116,101,95,110,101,119,95,114,111,111,116]) 591, .ref 214⟩, ⟨PyData.keyHash P (ucs [97,112,112,101,110,100]), .str (ucs [97,112,112,101,110,100]) 602, .ref 221⟩, ⟨PyData.keyHash P (ucs [95,110,101,119,95,112,97,116,104]), .str (ucs [95,110,101,119,95,112,97,116,104]) 611, .ref 228⟩, ⟨PyData.keyHash P (ucs [95,109,117,116,97,116,105,110,103,95,105,110,115,101,114,116,95,116,97,105,108]), .str (ucs [95,109,117,116,97,116,105,110,103,95,105,110,115,101,114,116,95,116,97,105,108]) 618, .ref 235⟩, ⟨PyData.keyHash P (ucs [95,109,117,116,97,116,105,110,103,95,102,105,108,108,95,116,97,105,108]), .str (ucs [95,109,117,116,97,116,105,110,103,95,102,105,108,108,95,116,97,105,108]) 630, .ref 242⟩, ⟨PyData.keyHash P (ucs [95,109,117,116,97,116,105,110,103,95,101,120,116,101,110,100]), .str (ucs [95,109,117,116,97,116,105,110,103,95,101,120,116,101,110,100]) 640, .ref 249⟩, ⟨PyData.keyHash P (ucs [101,120,116,101,110,100]), .str (ucs [101,120,116,101,110,100]) 650, .ref 256⟩, ⟨PyData.keyHash P (ucs [95,112,117,115,104,95,116,97,105,108]), .str (ucs [95,112,117,115,104,95,116,97,105,108]) 662, .ref 263⟩, ⟨PyData.keyHash P (ucs [105,110,100,101,120]), .str (ucs [105,110,100,101,120]) 672, .ref 270⟩, ⟨PyData.keyHash P (ucs [99,111,117,110,116]), .str (ucs [99,111,117,110,116]) 680, .ref 277⟩, ⟨PyData.keyHash P (ucs [100,101,108,101,116,101]), .str (ucs [100,101,108,101,116,101]) 689, .ref 285⟩, ⟨PyData.keyHash P (ucs [114,101,109,111,118,101]), .str (ucs [114,101,109,111,118,101]) 697, .ref 292⟩, ⟨PyData.keyHash P (ucs [95,95,115,116,97,116,105,99,95,97,116,116,114,105,98,117,116,101,115,95,95]), .str (ucs [95,95,115,116,97,116,105,99,95,97,116,116,114,105,98,117,116,101,115,95,95]) 703, .ref 293⟩, ⟨PyData.keyHash P (ucs [95,95,99,108,97,115,115,99,101,108,108,95,95]), .str (ucs [95,95,99,108,97,115,115,99,101,108,108,95,95]) 704, .ref 58⟩] 39), #[]⟩,
  ⟨.type "cell", none, (.cell (some (.ref 296))), #[]⟩,
  ⟨.type "tuple", none, (.seq #[] 0), #[]⟩,
  ⟨.none, none, (.fields #[.int (16) 0, .int (4) 0, .ref 70, .int (25) 0, .int (4) 0, .ref 77, .int (28) 0, .int (4) 0, .ref 84, .int (37) 0, .int (4) 0, .ref 91, .int (40) 0, .int (4) 0, .ref 98, .int (43) 0, .int (4) 0, .ref 105, .int (46) 0, .int (4) 0, .ref 112, .int (49) 0, .int (4) 0, .ref 119, .int (52) 0, .int (4) 0, .ref 126, .int (55) 0, .int (4) 0, .ref 133, .int (58) 0, .int (4) 0, .ref 140, .int (61) 0, .int (4) 0, .ref 147, .int (64) 0, .int (4) 0, .ref 154, .int (67) 0, .int (4) 0, .ref 161, .int (75) 0, .int (4) 0, .ref 168, .int (83) 0, .int (4) 0, .ref 175, .int (89) 0, .int (4) 0, .ref 182, .int (92) 0, .int (4) 0, .ref 189, .int (107) 0, .int (4) 0, .ref 196, .int (117) 0, .int (4) 0, .ref 203, .int (127) 0, .int (4) 0, .ref 213, .int (136) 0, .int (4) 0, .ref 220, .int (144) 0, .int (4) 0, .ref 227, .int (149) 0, .int (4) 0, .ref 234, .int (153) 0, .int (4) 0, .ref 241, .int (161) 0, .int (4) 0, .ref 248, .int (170) 0, .int (4) 0, .ref 255, .int (178) 0, .int (4) 0, .ref 262, .int (190) 0, .int (4) 0, .ref 269, .int (193) 0, .int (4) 0, .ref 276, .int (196) 0, .int (4) 0, .ref 284, .int (199) 0, .int (4) 0, .ref 291]), #[]⟩,
  ⟨.type "code", none, (.fields #[.str (ucs [80,121,116,104,111,110,80,86,101,99,116,111,114]) 381, .str (ucs [80,121,116,104,111,110,80,86,101,99,116,111,114]) 382, .str (ucs [47,99,108,97,105,109,47,99,117,116,46,112,121]) 383, .int (13) 0, .int (0) 0, .int (0) 0, .int (0) 0, .int (0) 0, .ref 59, .bool false, .int (338) 0, .ref 60, .none, .none, .none, .none, .int (384) 0, .int (13) 0, .str (ucs [47,99,108,97,105,109,47,99,117,116,46,112,121]) 385]), #[]⟩,
  ⟨.type "frame", none, .plain, #[(some (.ref 61)), (some (.ref 3)), (some (.ref 57)), none, (some (.str (ucs [112,121,114,115,105,115,116,101,110,116,46,95,112,118,101,99,116,111,114]) 351)), none, (some (.ref 0))]⟩,
  ⟨.type "tuple", none, (.seq #[.str (ucs [95,99,111,117,110,116]) 391, .str (ucs [95,115,104,105,102,116]) 392, .str (ucs [95,114,111,111,116]) 393, .str (ucs [95,116,97,105,108]) 394, .str (ucs [95,116,97,105,108,95,111,102,102,115,101,116]) 395, .str (ucs [95,95,119,101,97,107,114,101,102,95,95]) 396] 0), #[]⟩,
  ⟨.type "tuple", none, (.seq #[.ref 58] 0), #[]⟩,
  ⟨.type "tuple", none, (.seq #[.str (ucs [95,95,99,108,97,115,115,95,95]) 401] 0), #[]⟩,
  ⟨.none, none, (.fields #[]), #[]⟩,
  ⟨.type "tuple", none, (.seq #[.str (ucs [99,108,115]) 402, .str (ucs [99,111,117,110,116]) 403, .str (ucs [115,104,105,102,116]) 404, .str (ucs [114,111,111,116]) 405, .str (ucs [116,97,105,108]) 406, .str (ucs [115,101,108,102]) 407] 0), #[]⟩,
  ⟨.type "tuple", none, (.seq #[] 0), #[]⟩,
  ⟨.none, none, (.func { fnD (nth clsBody 1) (ucs [80,121,116,104,111,110,80,86,101,99,116,111,114,46,95,95,110,101,119,95,95]) [] .none .none .none none .none .none with globals := 0 }), #[]⟩,
  ⟨.type "code", none, (.fields #[.str (ucs [95,95,110,101,119,95,95]) 398, .str (ucs [80,121,116,104,111,110,80,86,101,99,116,111,114,46,95,95,110,101,119,95,95]) 399, .str (ucs [47,99,108,97,105,109,47,99,117,116,46,112,121]) 400, .int (16) 0, .int (5) 0, .int (0) 0, .int (0) 0, .int (3) 0, .ref 65, .bool true, .int (338) 0, .ref 66, .none, .ref 67, .ref 68, .ref 69, .int (408) 0, .int (16) 0, .str (ucs [47,99,108,97,105,109,47,99,117,116,46,112,121]) 409]), #[]⟩,
  ⟨.type "function", none, (.func (fnD (nth clsBody 1) (ucs [80,121,116,104,111,110,80,86,101,99,116,111,114,46,95,95,110,101,119,95,95]) [((ucs [95,95,99,108,97,115,115,95,95]), 58)] .none .none (.str (ucs [112,121,114,115,105,115,116,101,110,116,46,95,112,118,101,99,116,111,114]) 351) none (.ref 70) (.ref 64))), #[]⟩,
  ⟨.type "tuple", none, (.seq #[] 0), #[]⟩,
  ⟨.none, none, (.fields #[]), #[]⟩,
  ⟨.type "tuple", none, (.seq #[.str (ucs [115,101,108,102]) 414] 0), #[]⟩,
  ⟨.type "tuple", none, (.seq #[] 0), #[]⟩,
  ⟨.none, none, (.func { fnD (nth clsBody 2) (ucs [80,121,116,104,111,110,80,86,101,99,116,111,114,46,95,95,108,101,110,95,95]) [] .none .none .none none .none .none with globals := 0 }), #[]⟩,
  ⟨.type "code", none, (.fields #[.str (ucs [95,95,108,101,110,95,95]) 411, .str (ucs [80,121,116,104,111,110,80,86,101,99,116,111,114,46,95,95,108,101,110,95,95]) 412, .str (ucs [47,99,108,97,105,109,47,99,117,116,46,112,121]) 413, .int (25) 0, .int (1) 0, .int (0) 0, .int (0) 0, .int (3) 0, .ref 72, .bool true, .int (338) 0, .ref 73, .none, .ref 74, .ref 75, .ref 76, .int (415) 0, .int (25) 0, .str (ucs [47,99,108,97,105,109,47,99,117,116,46,112,121]) 416]), #[]⟩,
  ⟨.type "function", none, (.func (fnD (nth clsBody 2) (ucs [80,121,116,104,111,110,80,86,101,99,116,111,114,46,95,95,108,101,110,95,95]) [] .none .none (.str (ucs [112,121,114,115,105,115,116,101,110,116,46,95,112,118,101,99,116,111,114]) 351) none (.ref 77) .none)), #[]⟩,
  ⟨.type "tuple", none, (.seq #[] 0), #[]⟩,
  ⟨.none, none, (.fields #[]), #[]⟩,
  ⟨.type "tuple", none, (.seq #[.str (ucs [115,101,108,102]) 421, .str (ucs [105,110,100,101,120]) 422] 0), #[]⟩,
  ⟨.type "tuple", none, (.seq #[] 0), #[]⟩,
  ⟨.none, none, (.func { fnD (nth clsBody 3) (ucs [80,121,116,104,111,110,80,86,101,99,116,111,114,46,95,95,103,101,116,105,116,101,109,95,95]) [] .none .none .none none .none .none with globals := 0 }), #[]⟩,
  ⟨.type "code", none, (.fields #[.str (ucs [95,95,103,101,116,105,116,101,109,95,95]) 418, .str (ucs [80,121,116,104,111,110,80,86,101,99,116,111,114,46,95,95,103,101,116,105,116,101,109,95,95]) 419, .str (ucs [47,99,108,97,105,109,47,99,117,116,46,112,121]) 420, .int (28) 0, .int (2) 0, .int (0) 0, .int (0) 0, .int (3) 0, .ref 79, .bool true, .int (338) 0, .ref 80, .none, .ref 81, .ref 82, .ref 83, .int (423) 0, .int (28) 0, .str (ucs [47,99,108,97,105,109,47,99,117,116,46,112,121]) 424]), #[]⟩,
  ⟨.type "function", none, (.func (fnD (nth clsBody 3) (ucs [80,121,116,104,111,110,80,86,101,99,116,111,114,46,95,95,103,101,116,105,116,101,109,95,95]) [] .none .none (.str (ucs [112,121,114,115,105,115,116,101,110,116,46,95,112,118,101,99,116,111,114]) 351) none (.ref 84) .none)), #[]⟩,
  ⟨.type "tuple", none, (.seq #[] 0), #[]⟩,
  ⟨.none, none, (.fields #[]), #[]⟩,
  ⟨.type "tuple", none, (.seq #[.str (ucs [115,101,108,102]) 429, .str (ucs [111,116,104,101,114]) 430] 0), #[]⟩,
  ⟨.type "tuple", none, (.seq #[] 0), #[]⟩,
  ⟨.none, none, (.func { fnD (nth clsBody 4) (ucs [80,121,116,104,111,110,80,86,101,99,116,111,114,46,95,95,97,100,100,95,95]) [] .none .none .none none .none .none with globals := 0 }), #[]⟩,
  ⟨.type "code", none, (.fields #[.str (ucs [95,95,97,100,100,95,95]) 426, .str (ucs [80,121,116,104,111,110,80,86,101,99,116,111,114,46,95,95,97,100,100,95,95]) 427, .str (ucs [47,99,108,97,105,109,47,99,117,116,46,112,121]) 428, .int (37) 0, .int (2) 0, .int (0) 0, .int (0) 0, .int (3) 0, .ref 86, .bool true, .int (338) 0, .ref 87, .none, .ref 88, .ref 89, .ref 90, .int (431) 0, .int (37) 0, .str (ucs [47,99,108,97,105,109,47,99,117,116,46,112,121]) 432]), #[]⟩,
  ⟨.type "function", none, (.func (fnD (nth clsBody 4) (ucs [80,121,116,104,111,110,80,86,101,99,116,111,114,46,95,95,97,100,100,95,95]) [] .none .none (.str (ucs [112,121,114,115,105,115,116,101,110,116,46,95,112,118,101,99,116,111,114]) 351) none (.ref 91) .none)), #[]⟩,
  ⟨.type "tuple", none, (.seq #[] 0), #[]⟩,
  ⟨.none, none, (.fields #[]), #[]⟩,
  ⟨.type "tuple", none, (.seq #[.str (ucs [115,101,108,102]) 437] 0), #[]⟩,
  ⟨.type "tuple", none, (.seq #[] 0), #[]⟩,
  ⟨.none, none, (.func { fnD (nth clsBody 5) (ucs [80,121,116,104,111,110,80,86,101,99,116,111,114,46,95,95,114,101,112,114,95,95]) [] .none .none .none none .none .none with globals := 0 }), #[]⟩,
  ⟨.type "code", none, (.fields #[.str (ucs [95,95,114,101,112,114,95,95]) 434, .str (ucs [80,121,116,104,111,110,80,86,101,99,116,111,114,46,95,95,114,101,112,114,95,95]) 435, .str (ucs [47,99,108,97,105,109,47,99,117,116,46,112,121]) 436, .int (40) 0, .int (1) 0, .int (0) 0, .int (0) 0, .int (3) 0, .ref 93, .bool true, .int (338) 0, .ref 94, .none, .ref 95, .ref 96, .ref 97, .int (438) 0, .int (40) 0, .str (ucs [47,99,108,97,105,109,47,99,117,116,46,112,121]) 439]), #[]⟩,
  ⟨.type "function", none, (.func (fnD (nth clsBody 5) (ucs [80,121,116,104,111,110,80,86,101,99,116,111,114,46,95,95,114,101,112,114,95,95]) [] .none .none (.str (ucs [112,121,114,115,105,115,116,101,110,116,46,95,112,118,101,99,116,111,114]) 351) none (.ref 98) .none)), #[]⟩,
  ⟨.type "tuple", none, (.seq #[] 0), #[]⟩,
  ⟨.none, none, (.fields #[]), #[]⟩,
  ⟨.type "tuple", none, (.seq #[.str (ucs [115,101,108,102]) 444] 0), #[]⟩,
  ⟨.type "tuple", none, (.seq #[] 0), #[]⟩,
  ⟨.none, none, (.func { fnD (nth clsBody 6) (ucs [80,121,116,104,111,110,80,86,101,99,116,111,114,46,95,95,115,116,114,95,95]) [] .none .none .none none .none .none with globals := 0 }), #[]⟩,
  ⟨.type "code", none, (.fields #[.str (ucs [95,95,115,116,114,95,95]) 441, .str (ucs [80,121,116,104,111,110,80,86,101,99,116,111,114,46,95,95,115,116,114,95,95]) 442, .str (ucs [47,99,108,97,105,109,47,99,117,116,46,112,121]) 443, .int (43) 0, .int (1) 0, .int (0) 0, .int (0) 0, .int (3) 0, .ref 100, .bool true, .int (338) 0, .ref 101, .none, .ref 102, .ref 103, .ref 104, .int (445) 0, .int (43) 0, .str (ucs [47,99,108,97,105,109,47,99,117,116,46,112,121]) 446]), #[]⟩,
  ⟨.type "function", none, (.func (fnD (nth clsBody 6) (ucs [80,121,116,104,111,110,80,86,101,99,116,111,114,46,95,95,115,116,114,95,95]) [] .none .none (.str (ucs [112,121,114,115,105,115,116,101,110,116,46,95,112,118,101,99,116,111,114]) 351) none (.ref 105) .none)), #[]⟩,
  ⟨.type "tuple", none, (.seq #[] 0), #[]⟩,
  ⟨.none, none, (.fields #[]), #[]⟩,
  ⟨.type "tuple", none, (.seq #[.str (ucs [115,101,108,102]) 451] 0), #[]⟩,
  ⟨.type "tuple", none, (.seq #[] 0), #[]⟩,
  ⟨.none, none, (.func { fnD (nth clsBody 7) (ucs [80,121,116,104,111,110,80,86,101,99,116,111,114,46,95,95,105,116,101,114,95,95]) [] .none .none .none none .none .none with globals := 0 }), #[]⟩,
  ⟨.type "code", none, (.fields #[.str (ucs [95,95,105,116,101,114,95,95]) 448, .str (ucs [80,121,116,104,111,110,80,86,101,99,116,111,114,46,95,95,105,116,101,114,95,95]) 449, .str (ucs [47,99,108,97,105,109,47,99,117,116,46,112,121]) 450, .int (46) 0, .int (1) 0, .int (0) 0, .int (0) 0, .int (3) 0, .ref 107, .bool true, .int (338) 0, .ref 108, .none, .ref 109, .ref 110, .ref 111, .int (452) 0, .int (46) 0, .str (ucs [47,99,108,97,105,109,47,99,117,116,46,112,121]) 453]), #[]⟩,
  ⟨.type "function", none, (.func (fnD (nth clsBody 7) (ucs [80,121,116,104,111,110,80,86,101,99,116,111,114,46,95,95,105,116,101,114,95,95]) [] .none .none (.str (ucs [112,121,114,115,105,115,116,101,110,116,46,95,112,118,101,99,116,111,114]) 351) none (.ref 112) .none)), #[]⟩,
  ⟨.type "tuple", none, (.seq #[] 0), #[]⟩,
  ⟨.none, none, (.fields #[]), #[]⟩,
  ⟨.type "tuple", none, (.seq #[.str (ucs [115,101,108,102]) 458, .str (ucs [111,116,104,101,114]) 459] 0), #[]⟩,
  ⟨.type "tuple", none, (.seq #[] 0), #[]⟩,
  ⟨.none, none, (.func { fnD (nth clsBody 8) (ucs [80,121,116,104,111,110,80,86,101,99,116,111,114,46,95,95,110,101,95,95]) [] .none .none .none none .none .none with globals := 0 }), #[]⟩,
  ⟨.type "code", none, (.fields #[.str (ucs [95,95,110,101,95,95]) 455, .str (ucs [80,121,116,104,111,110,80,86,101,99,116,111,114,46,95,95,110,101,95,95]) 456, .str (ucs [47,99,108,97,105,109,47,99,117,116,46,112,121]) 457, .int (49) 0, .int (2) 0, .int (0) 0, .int (0) 0, .int (3) 0, .ref 114, .bool true, .int (338) 0, .ref 115, .none, .ref 116, .ref 117, .ref 118, .int (460) 0, .int (49) 0, .str (ucs [47,99,108,97,105,109,47,99,117,116,46,112,121]) 461]), #[]⟩,
  ⟨.type "function", none, (.func (fnD (nth clsBody 8) (ucs [80,121,116,104,111,110,80,86,101,99,116,111,114,46,95,95,110,101,95,95]) [] .none .none (.str (ucs [112,121,114,115,105,115,116,101,110,116,46,95,112,118,101,99,116,111,114]) 351) none (.ref 119) .none)), #[]⟩,
  ⟨.type "tuple", none, (.seq #[] 0), #[]⟩,
  ⟨.none, none, (.fields #[]), #[]⟩,
  ⟨.type "tuple", none, (.seq #[.str (ucs [115,101,108,102]) 466, .str (ucs [111,116,104,101,114]) 467] 0), #[]⟩,
  ⟨.type "tuple", none, (.seq #[] 0), #[]⟩,
  ⟨.none, none, (.func { fnD (nth clsBody 9) (ucs [80,121,116,104,111,110,80,86,101,99,116,111,114,46,95,95,101,113,95,95]) [] .none .none .none none .none .none with globals := 0 }), #[]⟩,
  ⟨.type "code", none, (.fields #[.str (ucs [95,95,101,113,95,95]) 463, .str (ucs [80,121,116,104,111,110,80,86,101,99,116,111,114,46,95,95,101,113,95,95]) 464, .str (ucs [47,99,108,97,105,109,47,99,117,116,46,112,121]) 465, .int (52) 0, .int (2) 0, .int (0) 0, .int (0) 0, .int (3) 0, .ref 121, .bool true, .int (338) 0, .ref 122, .none, .ref 123, .ref 124, .ref 125, .int (468) 0, .int (52) 0, .str (ucs [47,99,108,97,105,109,47,99,117,116,46,112,121]) 469]), #[]⟩,
  ⟨.type "function", none, (.func (fnD (nth clsBody 9) (ucs [80,121,116,104,111,110,80,86,101,99,116,111,114,46,95,95,101,113,95,95]) [] .none .none (.str (ucs [112,121,114,115,105,115,116,101,110,116,46,95,112,118,101,99,116,111,114]) 351) none (.ref 126) .none)), #[]⟩,
  ⟨.type "tuple", none, (.seq #[] 0), #[]⟩,
  ⟨.none, none, (.fields #[]), #[]⟩,
  ⟨.type "tuple", none, (.seq #[.str (ucs [115,101,108,102]) 474, .str (ucs [111,116,104,101,114]) 475] 0), #[]⟩,
  ⟨.type "tuple", none, (.seq #[] 0), #[]⟩,
  ⟨.none, none, (.func { fnD (nth clsBody 10) (ucs [80,121,116,104,111,110,80,86,101,99,116,111,114,46,95,95,103,116,95,95]) [] .none .none .none none .none .none with globals := 0 }), #[]⟩,
  ⟨.type "code", none, (.fields #[.str (ucs [95,95,103,116,95,95]) 471, .str (ucs [80,121,116,104,111,110,80,86,101,99,116,111,114,46,95,95,103,116,95,95]) 472, .str (ucs [47,99,108,97,105,109,47,99,117,116,46,112,121]) 473, .int (55) 0, .int (2) 0, .int (0) 0, .int (0) 0, .int (3) 0, .ref 128, .bool true, .int (338) 0, .ref 129, .none, .ref 130, .ref 131, .ref 132, .int (476) 0, .int (55) 0, .str (ucs [47,99,108,97,105,109,47,99,117,116,46,112,121]) 477]), #[]⟩,
  ⟨.type "function", none, (.func (fnD (nth clsBody 10) (ucs [80,121,116,104,111,110,80,86,101,99,116,111,114,46,95,95,103,116,95,95]) [] .none .none (.str (ucs [112,121,114,115,105,115,116,101,110,116,46,95,112,118,101,99,116,111,114]) 351) none (.ref 133) .none)), #[]⟩,
  ⟨.type "tuple", none, (.seq #[] 0), #[]⟩,
  ⟨.none, none, (.fields #[]), #[]⟩,
  ⟨.type "tuple", none, (.seq #[.str (ucs [115,101,108,102]) 482, .str (ucs [111,116,104,101,114]) 483] 0), #[]⟩,
  ⟨.type "tuple", none, (.seq #[] 0), #[]⟩,
  ⟨.none, none, (.func { fnD (nth clsBody 11) (ucs [80,121,116,104,111,110,80,86,101,99,116,111,114,46,95,95,108,116,95,95]) [] .none .none .none none .none .none with globals := 0 }), #[]⟩,
  ⟨.type "code", none, (.fields #[.str (ucs [95,95,108,116,95,95]) 479, .str (ucs [80,121,116,104,111,110,80,86,101,99,116,111,114,46,95,95,108,116,95,95]) 480, .str (ucs [47,99,108,97,105,109,47,99,117,116,46,112,121]) 481, .int (58) 0, .int (2) 0, .int (0) 0, .int (0) 0, .int (3) 0, .ref 135, .bool true, .int (338) 0, .ref 136, .none, .ref 137, .ref 138, .ref 139, .int (484) 0, .int (58) 0, .str (ucs [47,99,108,97,105,109,47,99,117,116,46,112,121]) 485]), #[]⟩,
  ⟨.type "function", none, (.func (fnD (nth clsBody 11) (ucs [80,121,116,104,111,110,80,86,101,99,116,111,114,46,95,95,108,116,95,95]) [] .none .none (.str (ucs [112,121,114,115,105,115,116,101,110,116,46,95,112,118,101,99,116,111,114]) 351) none (.ref 140) .none)), #[]⟩,
  ⟨.type "tuple", none, (.seq #[] 0), #[]⟩,
  ⟨.none, none, (.fields #[]), #[]⟩,
  ⟨.type "tuple", none, (.seq #[.str (ucs [115,101,108,102]) 490, .str (ucs [111,116,104,101,114]) 491] 0), #[]⟩,
  ⟨.type "tuple", none, (.seq #[] 0), #[]⟩,
  ⟨.none, none, (.func { fnD (nth clsBody 12) (ucs [80,121,116,104,111,110,80,86,101,99,116,111,114,46,95,95,103,101,95,95]) [] .none .none .none none .none .none with globals := 0 }), #[]⟩,
  ⟨.type "code", none, (.fields #[.str (ucs [95,95,103,101,95,95]) 487, .str (ucs [80,121,116,104,111,110,80,86,101,99,116,111,114,46,95,95,103,101,95,95]) 488, .str (ucs [47,99,108,97,105,109,47,99,117,116,46,112,121]) 489, .int (61) 0, .int (2) 0, .int (0) 0, .int (0) 0, .int (3) 0, .ref 142, .bool true, .int (338) 0, .ref 143, .none, .ref 144, .ref 145, .ref 146, .int (492) 0, .int (61) 0, .str (ucs [47,99,108,97,105,109,47,99,117,116,46,112,121]) 493]), #[]⟩,
  ⟨.type "function", none, (.func (fnD (nth clsBody 12) (ucs [80,121,116,104,111,110,80,86,101,99,116,111,114,46,95,95,103,101,95,95]) [] .none .none (.str (ucs [112,121,114,115,105,115,116,101,110,116,46,95,112,118,101,99,116,111,114]) 351) none (.ref 147) .none)), #[]⟩,
  ⟨.type "tuple", none, (.seq #[] 0), #[]⟩,
  ⟨.none, none, (.fields #[]), #[]⟩,
  ⟨.type "tuple", none, (.seq #[.str (ucs [115,101,108,102]) 498, .str (ucs [111,116,104,101,114]) 499] 0), #[]⟩,
  ⟨.type "tuple", none, (.seq #[] 0), #[]⟩,
  ⟨.none, none, (.func { fnD (nth clsBody 13) (ucs [80,121,116,104,111,110,80,86,101,99,116,111,114,46,95,95,108,101,95,95]) [] .none .none .none none .none .none with globals := 0 }), #[]⟩,
  ⟨.type "code", none, (.fields #[.str (ucs [95,95,108,101,95,95]) 495, .str (ucs [80,121,116,104,111,110,80,86,101,99,116,111,114,46,95,95,108,101,95,95]) 496, .str (ucs [47,99,108,97,105,109,47,99,117,116,46,112,121]) 497, .int (64) 0, .int (2) 0, .int (0) 0, .int (0) 0, .int (3) 0, .ref 149, .bool true, .int (338) 0, .ref 150, .none, .ref 151, .ref 152, .ref 153, .int (500) 0, .int (64) 0, .str (ucs [47,99,108,97,105,109,47,99,117,116,46,112,121]) 501]), #[]⟩,
  ⟨.type "function", none, (.func (fnD (nth clsBody 13) (ucs [80,121,116,104,111,110,80,86,101,99,116,111,114,46,95,95,108,101,95,95]) [] .none .none (.str (ucs [112,121,114,115,105,115,116,101,110,116,46,95,112,118,101,99,116,111,114]) 351) none (.ref 154) .none)), #[]⟩,
  ⟨.type "tuple", none, (.seq #[] 0), #[]⟩,
  ⟨.none, none, (.fields #[]), #[]⟩,
  ⟨.type "tuple", none, (.seq #[.str (ucs [115,101,108,102]) 506, .str (ucs [116,105,109,101,115]) 507] 0), #[]⟩,
  ⟨.type "tuple", none, (.seq #[] 0), #[]⟩,
  ⟨.none, none, (.func { fnD (nth clsBody 14) (ucs [80,121,116,104,111,110,80,86,101,99,116,111,114,46,95,95,109,117,108,95,95]) [] .none .none .none none .none .none with globals := 0 }), #[]⟩,
  ⟨.type "code", none, (.fields #[.str (ucs [95,95,109,117,108,95,95]) 503, .str (ucs [80,121,116,104,111,110,80,86,101,99,116,111,114,46,95,95,109,117,108,95,95]) 504, .str (ucs [47,99,108,97,105,109,47,99,117,116,46,112,121]) 505, .int (67) 0, .int (2) 0, .int (0) 0, .int (0) 0, .int (3) 0, .ref 156, .bool true, .int (338) 0, .ref 157, .none, .ref 158, .ref 159, .ref 160, .int (508) 0, .int (67) 0, .str (ucs [47,99,108,97,105,109,47,99,117,116,46,112,121]) 509]), #[]⟩,
  ⟨.type "function", none, (.func (fnD (nth clsBody 14) (ucs [80,121,116,104,111,110,80,86,101,99,116,111,114,46,95,95,109,117,108,95,95]) [] .none .none (.str (ucs [112,121,114,115,105,115,116,101,110,116,46,95,112,118,101,99,116,111,114]) 351) none (.ref 161) .none)), #[]⟩,
  ⟨.type "tuple", none, (.seq #[] 0), #[]⟩,
  ⟨.none, none, (.fields #[]), #[]⟩,
  ⟨.type "tuple", none, (.seq #[.str (ucs [115,101,108,102]) 515, .str (ucs [110,111,100,101]) 516, .str (ucs [115,104,105,102,116]) 517, .str (ucs [116,104,101,95,108,105,115,116]) 518, .str (ucs [110]) 519] 0), #[]⟩,
  ⟨.type "tuple", none, (.seq #[] 0), #[]⟩,
  ⟨.none, none, (.func { fnD (nth clsBody 16) (ucs [80,121,116,104,111,110,80,86,101,99,116,111,114,46,95,102,105,108,108,95,108,105,115,116]) [] .none .none .none none .none .none with globals := 0 }), #[]⟩,
  ⟨.type "code", none, (.fields #[.str (ucs [95,102,105,108,108,95,108,105,115,116]) 512, .str (ucs [80,121,116,104,111,110,80,86,101,99,116,111,114,46,95,102,105,108,108,95,108,105,115,116]) 513, .str (ucs [47,99,108,97,105,109,47,99,117,116,46,112,121]) 514, .int (75) 0, .int (4) 0, .int (0) 0, .int (0) 0, .int (3) 0, .ref 163, .bool true, .int (338) 0, .ref 164, .none, .ref 165, .ref 166, .ref 167, .int (520) 0, .int (75) 0, .str (ucs [47,99,108,97,105,109,47,99,117,116,46,112,121]) 521]), #[]⟩,
  ⟨.type "function", none, (.func (fnD (nth clsBody 16) (ucs [80,121,116,104,111,110,80,86,101,99,116,111,114,46,95,102,105,108,108,95,108,105,115,116]) [] .none .none (.str (ucs [112,121,114,115,105,115,116,101,110,116,46,95,112,118,101,99,116,111,114]) 351) none (.ref 168) .none)), #[]⟩,
  ⟨.type "tuple", none, (.seq #[] 0), #[]⟩,
  ⟨.none, none, (.fields #[]), #[]⟩,
  ⟨.type "tuple", none, (.seq #[.str (ucs [115,101,108,102]) 526, .str (ucs [116,104,101,95,108,105,115,116]) 527] 0), #[]⟩,
  ⟨.type "tuple", none, (.seq #[] 0), #[]⟩,
  ⟨.none, none, (.func { fnD (nth clsBody 17) (ucs [80,121,116,104,111,110,80,86,101,99,116,111,114,46,116,111,108,105,115,116]) [] .none .none .none none .none .none with globals := 0 }), #[]⟩,
  ⟨.type "code", none, (.fields #[.str (ucs [116,111,108,105,115,116]) 523, .str (ucs [80,121,116,104,111,110,80,86,101,99,116,111,114,46,116,111,108,105,115,116]) 524, .str (ucs [47,99,108,97,105,109,47,99,117,116,46,112,121]) 525, .int (83) 0, .int (1) 0, .int (0) 0, .int (0) 0, .int (3) 0, .ref 170, .bool true, .int (338) 0, .ref 171, .none, .ref 172, .ref 173, .ref 174, .int (528) 0, .int (83) 0, .str (ucs [47,99,108,97,105,109,47,99,117,116,46,112,121]) 529]), #[]⟩,
  ⟨.type "function", none, (.func (fnD (nth clsBody 17) (ucs [80,121,116,104,111,110,80,86,101,99,116,111,114,46,116,111,108,105,115,116]) [] .none .none (.str (ucs [112,121,114,115,105,115,116,101,110,116,46,95,112,118,101,99,116,111,114]) 351) none (.ref 175) .none)), #[]⟩,
  ⟨.type "tuple", none, (.seq #[] 0), #[]⟩,
  ⟨.none, none, (.fields #[]), #[]⟩,
  ⟨.type "tuple", none, (.seq #[.str (ucs [115,101,108,102]) 534] 0), #[]⟩,
  ⟨.type "tuple", none, (.seq #[] 0), #[]⟩,
  ⟨.none, none, (.func { fnD (nth clsBody 18) (ucs [80,121,116,104,111,110,80,86,101,99,116,111,114,46,95,116,111,116,117,112,108,101]) [] .none .none .none none .none .none with globals := 0 }), #[]⟩,
  ⟨.type "code", none, (.fields #[.str (ucs [95,116,111,116,117,112,108,101]) 531, .str (ucs [80,121,116,104,111,110,80,86,101,99,116,111,114,46,95,116,111,116,117,112,108,101]) 532, .str (ucs [47,99,108,97,105,109,47,99,117,116,46,112,121]) 533, .int (89) 0, .int (1) 0, .int (0) 0, .int (0) 0, .int (3) 0, .ref 177, .bool true, .int (338) 0, .ref 178, .none, .ref 179, .ref 180, .ref 181, .int (535) 0, .int (89) 0, .str (ucs [47,99,108,97,105,109,47,99,117,116,46,112,121]) 536]), #[]⟩,
  ⟨.type "function", none, (.func (fnD (nth clsBody 18) (ucs [80,121,116,104,111,110,80,86,101,99,116,111,114,46,95,116,111,116,117,112,108,101]) [] .none .none (.str (ucs [112,121,114,115,105,115,116,101,110,116,46,95,112,118,101,99,116,111,114]) 351) none (.ref 182) .none)), #[]⟩,
  ⟨.type "tuple", none, (.seq #[] 0), #[]⟩,
  ⟨.none, none, (.fields #[]), #[]⟩,
  ⟨.type "tuple", none, (.seq #[.str (ucs [115,101,108,102]) 541, .str (ucs [105]) 542, .str (ucs [118,97,108]) 543, .str (ucs [110,101,119,95,116,97,105,108]) 544] 0), #[]⟩,
  ⟨.type "tuple", none, (.seq #[] 0), #[]⟩,
  ⟨.none, none, (.func { fnD (nth clsBody 19) (ucs [80,121,116,104,111,110,80,86,101,99,116,111,114,46,115,101,116]) [] .none .none .none none .none .none with globals := 0 }), #[]⟩,
  ⟨.type "code", none, (.fields #[.str (ucs [115,101,116]) 538, .str (ucs [80,121,116,104,111,110,80,86,101,99,116,111,114,46,115,101,116]) 539, .str (ucs [47,99,108,97,105,109,47,99,117,116,46,112,121]) 540, .int (92) 0, .int (3) 0, .int (0) 0, .int (0) 0, .int (3) 0, .ref 184, .bool true, .int (338) 0, .ref 185, .none, .ref 186, .ref 187, .ref 188, .int (545) 0, .int (92) 0, .str (ucs [47,99,108,97,105,109,47,99,117,116,46,112,121]) 546]), #[]⟩,
  ⟨.type "function", none, (.func (fnD (nth clsBody 19) (ucs [80,121,116,104,111,110,80,86,101,99,116,111,114,46,115,101,116]) [] .none .none (.str (ucs [112,121,114,115,105,115,116,101,110,116,46,95,112,118,101,99,116,111,114]) 351) none (.ref 189) .none)), #[]⟩,
  ⟨.type "tuple", none, (.seq #[] 0), #[]⟩,
  ⟨.none, none, (.fields #[]), #[]⟩,
  ⟨.type "tuple", none, (.seq #[.str (ucs [115,101,108,102]) 551, .str (ucs [108,101,118,101,108]) 552, .str (ucs [110,111,100,101]) 553, .str (ucs [105]) 554, .str (ucs [118,97,108]) 555, .str (ucs [114,101,116]) 556, .str (ucs [115,117,98,95,105,110,100,101,120]) 557] 0), #[]⟩,
  ⟨.type "tuple", none, (.seq #[] 0), #[]⟩,
  ⟨.none, none, (.func { fnD (nth clsBody 20) (ucs [80,121,116,104,111,110,80,86,101,99,116,111,114,46,95,100,111,95,115,101,116]) [] .none .none .none none .none .none with globals := 0 }), #[]⟩,
  ⟨.type "code", none, (.fields #[.str (ucs [95,100,111,95,115,101,116]) 548, .str (ucs [80,121,116,104,111,110,80,86,101,99,116,111,114,46,95,100,111,95,115,101,116]) 549, .str (ucs [47,99,108,97,105,109,47,99,117,116,46,112,121]) 550, .int (107) 0, .int (5) 0, .int (0) 0, .int (0) 0, .int (3) 0, .ref 191, .bool true, .int (338) 0, .ref 192, .none, .ref 193, .ref 194, .ref 195, .int (558) 0, .int (107) 0, .str (ucs [47,99,108,97,105,109,47,99,117,116,46,112,121]) 559]), #[]⟩,
  ⟨.type "function", none, (.func (fnD (nth clsBody 20) (ucs [80,121,116,104,111,110,80,86,101,99,116,111,114,46,95,100,111,95,115,101,116]) [] .none .none (.str (ucs [112,121,114,115,105,115,116,101,110,116,46,95,112,118,101,99,116,111,114]) 351) none (.ref 196) .none)), #[]⟩,
  ⟨.type "tuple", none, (.seq #[] 0), #[]⟩,
  ⟨.none, none, (.fields #[]), #[]⟩,
  ⟨.type "tuple", none, (.seq #[.str (ucs [112,118,101,99,116,111,114,95,108,105,107,101]) 564, .str (ucs [105]) 565, .str (ucs [110,111,100,101]) 566, .str (ucs [108,101,118,101,108]) 567] 0), #[]⟩,
  ⟨.type "tuple", none, (.seq #[] 0), #[]⟩,
  ⟨.none, none, (.func { fnD (nth clsBody 21) (ucs [80,121,116,104,111,110,80,86,101,99,116,111,114,46,95,110,111,100,101,95,102,111,114]) [] .none .none .none none .none .none with globals := 0 }), #[]⟩,
  ⟨.type "code", none, (.fields #[.str (ucs [95,110,111,100,101,95,102,111,114]) 561, .str (ucs [80,121,116,104,111,110,80,86,101,99,116,111,114,46,95,110,111,100,101,95,102,111,114]) 562, .str (ucs [47,99,108,97,105,109,47,99,117,116,46,112,121]) 563, .int (116) 0, .int (2) 0, .int (0) 0, .int (0) 0, .int (3) 0, .ref 198, .bool true, .int (338) 0, .ref 199, .none, .ref 200, .ref 201, .ref 202, .int (568) 0, .int (116) 0, .str (ucs [47,99,108,97,105,109,47,99,117,116,46,112,121]) 569]), #[]⟩,
  ⟨.type "function", none, (.func (fnD (nth clsBody 21) (ucs [80,121,116,104,111,110,80,86,101,99,116,111,114,46,95,110,111,100,101,95,102,111,114]) [] .none .none (.str (ucs [112,121,114,115,105,115,116,101,110,116,46,95,112,118,101,99,116,111,114]) 351) (some 207) (.ref 203) .none)), #[]⟩,
  ⟨.type "dict", none, (.dict #[⟨PyData.keyHash P (ucs [95,95,109,111,100,117,108,101,95,95]), .str (ucs [95,95,109,111,100,117,108,101,95,95]) 571, .str (ucs [112,121,114,115,105,115,116,101,110,116,46,95,112,118,101,99,116,111,114]) 351⟩, ⟨PyData.keyHash P (ucs [95,95,110,97,109,101,95,95]), .str (ucs [95,95,110,97,109,101,95,95]) 574, .str (ucs [95,110,111,100,101,95,102,111,114]) 573⟩, ⟨PyData.keyHash P (ucs [95,95,113,117,97,108,110,97,109,101,95,95]), .str (ucs [95,95,113,117,97,108,110,97,109,101,95,95]) 577, .str (ucs [80,121,116,104,111,110,80,86,101,99,116,111,114,46,95,110,111,100,101,95,102,111,114]) 576⟩, ⟨PyData.keyHash P (ucs [95,95,100,111,99,95,95]), .str (ucs [95,95,100,111,99,95,95]) 579, .none⟩, ⟨PyData.keyHash P (ucs [95,95,97,110,110,111,116,97,116,105,111,110,115,95,95]), .str (ucs [95,95,97,110,110,111,116,97,116,105,111,110,115,95,95]) 581, .ref 207⟩] 5), #[]⟩,
  ⟨.type "staticmethod", (some 205), (.fields #[.ref 204, .bool false]), #[]⟩,
  ⟨.type "dict", none, (.dict #[] 0), #[]⟩,
  ⟨.type "tuple", none, (.seq #[] 0), #[]⟩,
  ⟨.none, none, (.fields #[]), #[]⟩,
  ⟨.type "tuple", none, (.seq #[.str (ucs [115,101,108,102]) 586, .str (ucs [110,101,119,95,115,104,105,102,116]) 587, .str (ucs [110,101,119,95,114,111,111,116]) 588] 0), #[]⟩,
  ⟨.type "tuple", none, (.seq #[] 0), #[]⟩,
  ⟨.none, none, (.func { fnD (nth clsBody 22) (ucs [80,121,116,104,111,110,80,86,101,99,116,111,114,46,95,99,114,101,97,116,101,95,110,101,119,95,114,111,111,116]) [] .none .none .none none .none .none with globals := 0 }), #[]⟩,
  ⟨.type "code", none, (.fields #[.str (ucs [95,99,114,101,97,116,101,95,110,101,119,95,114,111,111,116]) 583, .str (ucs [80,121,116,104,111,110,80,86,101,99,116,111,114,46,95,99,114,101,97,116,101,95,110,101,119,95,114,111,111,116]) 584, .str (ucs [47,99,108,97,105,109,47,99,117,116,46,112,121]) 585, .int (127) 0, .int (1) 0, .int (0) 0, .int (0) 0, .int (3) 0, .ref 208, .bool true, .int (338) 0, .ref 209, .none, .ref 210, .ref 211, .ref 212, .int (589) 0, .int (127) 0, .str (ucs [47,99,108,97,105,109,47,99,117,116,46,112,121]) 590]), #[]⟩,
  ⟨.type "function", none, (.func (fnD (nth clsBody 22) (ucs [80,121,116,104,111,110,80,86,101,99,116,111,114,46,95,99,114,101,97,116,101,95,110,101,119,95,114,111,111,116]) [] .none .none (.str (ucs [112,121,114,115,105,115,116,101,110,116,46,95,112,118,101,99,116,111,114]) 351) none (.ref 213) .none)), #[]⟩,
  ⟨.type "tuple", none, (.seq #[] 0), #[]⟩,
  ⟨.none, none, (.fields #[]), #[]⟩,
  ⟨.type "tuple", none, (.seq #[.str (ucs [115,101,108,102]) 595, .str (ucs [118,97,108]) 596, .str (ucs [110,101,119,95,116,97,105,108]) 597, .str (ucs [110,101,119,95,114,111,111,116]) 598, .str (ucs [110,101,119,95,115,104,105,102,116]) 599] 0), #[]⟩,
  ⟨.type "tuple", none, (.seq #[] 0), #[]⟩,
  ⟨.none, none, (.func { fnD (nth clsBody 23) (ucs [80,121,116,104,111,110,80,86,101,99,116,111,114,46,97,112,112,101,110,100]) [] .none .none .none none .none .none with globals := 0 }), #[]⟩,
  ⟨.type "code", none, (.fields #[.str (ucs [97,112,112,101,110,100]) 592, .str (ucs [80,121,116,104,111,110,80,86,101,99,116,111,114,46,97,112,112,101,110,100]) 593, .str (ucs [47,99,108,97,105,109,47,99,117,116,46,112,121]) 594, .int (136) 0, .int (2) 0, .int (0) 0, .int (0) 0, .int (3) 0, .ref 215, .bool true, .int (338) 0, .ref 216, .none, .ref 217, .ref 218, .ref 219, .int (600) 0, .int (136) 0, .str (ucs [47,99,108,97,105,109,47,99,117,116,46,112,121]) 601]), #[]⟩,
  ⟨.type "function", none, (.func (fnD (nth clsBody 23) (ucs [80,121,116,104,111,110,80,86,101,99,116,111,114,46,97,112,112,101,110,100]) [] .none .none (.str (ucs [112,121,114,115,105,115,116,101,110,116,46,95,112,118,101,99,116,111,114]) 351) none (.ref 220) .none)), #[]⟩,
  ⟨.type "tuple", none, (.seq #[] 0), #[]⟩,
  ⟨.none, none, (.fields #[]), #[]⟩,
  ⟨.type "tuple", none, (.seq #[.str (ucs [115,101,108,102]) 606, .str (ucs [108,101,118,101,108]) 607, .str (ucs [110,111,100,101]) 608] 0), #[]⟩,
  ⟨.type "tuple", none, (.seq #[] 0), #[]⟩,
  ⟨.none, none, (.func { fnD (nth clsBody 24) (ucs [80,121,116,104,111,110,80,86,101,99,116,111,114,46,95,110,101,119,95,112,97,116,104]) [] .none .none .none none .none .none with globals := 0 }), #[]⟩,
  ⟨.type "code", none, (.fields #[.str (ucs [95,110,101,119,95,112,97,116,104]) 603, .str (ucs [80,121,116,104,111,110,80,86,101,99,116,111,114,46,95,110,101,119,95,112,97,116,104]) 604, .str (ucs [47,99,108,97,105,109,47,99,117,116,46,112,121]) 605, .int (144) 0, .int (3) 0, .int (0) 0, .int (0) 0, .int (3) 0, .ref 222, .bool true, .int (338) 0, .ref 223, .none, .ref 224, .ref 225, .ref 226, .int (609) 0, .int (144) 0, .str (ucs [47,99,108,97,105,109,47,99,117,116,46,112,121]) 610]), #[]⟩,
  ⟨.type "function", none, (.func (fnD (nth clsBody 24) (ucs [80,121,116,104,111,110,80,86,101,99,116,111,114,46,95,110,101,119,95,112,97,116,104]) [] .none .none (.str (ucs [112,121,114,115,105,115,116,101,110,116,46,95,112,118,101,99,116,111,114]) 351) none (.ref 227) .none)), #[]⟩,
  ⟨.type "tuple", none, (.seq #[] 0), #[]⟩,
  ⟨.none, none, (.fields #[]), #[]⟩,
  ⟨.type "tuple", none, (.seq #[.str (ucs [115,101,108,102]) 615] 0), #[]⟩,
  ⟨.type "tuple", none, (.seq #[] 0), #[]⟩,
  ⟨.none, none, (.func { fnD (nth clsBody 25) (ucs [80,121,116,104,111,110,80,86,101,99,116,111,114,46,95,109,117,116,97,116,105,110,103,95,105,110,115,101,114,116,95,116,97,105,108]) [] .none .none .none none .none .none with globals := 0 }), #[]⟩,
  ⟨.type "code", none, (.fields #[.str (ucs [95,109,117,116,97,116,105,110,103,95,105,110,115,101,114,116,95,116,97,105,108]) 612, .str (ucs [80,121,116,104,111,110,80,86,101,99,116,111,114,46,95,109,117,116,97,116,105,110,103,95,105,110,115,101,114,116,95,116,97,105,108]) 613, .str (ucs [47,99,108,97,105,109,47,99,117,116,46,112,121]) 614, .int (149) 0, .int (1) 0, .int (0) 0, .int (0) 0, .int (3) 0, .ref 229, .bool true, .int (338) 0, .ref 230, .none, .ref 231, .ref 232, .ref 233, .int (616) 0, .int (149) 0, .str (ucs [47,99,108,97,105,109,47,99,117,116,46,112,121]) 617]), #[]⟩,
  ⟨.type "function", none, (.func (fnD (nth clsBody 25) (ucs [80,121,116,104,111,110,80,86,101,99,116,111,114,46,95,109,117,116,97,116,105,110,103,95,105,110,115,101,114,116,95,116,97,105,108]) [] .none .none (.str (ucs [112,121,114,115,105,115,116,101,110,116,46,95,112,118,101,99,116,111,114]) 351) none (.ref 234) .none)), #[]⟩,
  ⟨.type "tuple", none, (.seq #[] 0), #[]⟩,
  ⟨.none, none, (.fields #[]), #[]⟩,
  ⟨.type "tuple", none, (.seq #[.str (ucs [115,101,108,102]) 622, .str (ucs [111,102,102,115,101,116]) 623, .str (ucs [115,101,113,117,101,110,99,101]) 624, .str (ucs [109,97,120,95,100,101,108,116,97,95,108,101,110]) 625, .str (ucs [100,101,108,116,97]) 626, .str (ucs [100,101,108,116,97,95,108,101,110]) 627] 0), #[]⟩,
  ⟨.type "tuple", none, (.seq #[] 0), #[]⟩,
  ⟨.none, none, (.func { fnD (nth clsBody 26) (ucs [80,121,116,104,111,110,80,86,101,99,116,111,114,46,95,109,117,116,97,116,105,110,103,95,102,105,108,108,95,116,97,105,108]) [] .none .none .none none .none .none with globals := 0 }), #[]⟩,
  ⟨.type "code", none, (.fields #[.str (ucs [95,109,117,116,97,116,105,110,103,95,102,105,108,108,95,116,97,105,108]) 619, .str (ucs [80,121,116,104,111,110,80,86,101,99,116,111,114,46,95,109,117,116,97,116,105,110,103,95,102,105,108,108,95,116,97,105,108]) 620, .str (ucs [47,99,108,97,105,109,47,99,117,116,46,112,121]) 621, .int (153) 0, .int (3) 0, .int (0) 0, .int (0) 0, .int (3) 0, .ref 236, .bool true, .int (338) 0, .ref 237, .none, .ref 238, .ref 239, .ref 240, .int (628) 0, .int (153) 0, .str (ucs [47,99,108,97,105,109,47,99,117,116,46,112,121]) 629]), #[]⟩,
  ⟨.type "function", none, (.func (fnD (nth clsBody 26) (ucs [80,121,116,104,111,110,80,86,101,99,116,111,114,46,95,109,117,116,97,116,105,110,103,95,102,105,108,108,95,116,97,105,108]) [] .none .none (.str (ucs [112,121,114,115,105,115,116,101,110,116,46,95,112,118,101,99,116,111,114]) 351) none (.ref 241) .none)), #[]⟩,
  ⟨.type "tuple", none, (.seq #[] 0), #[]⟩,
  ⟨.none, none, (.fields #[]), #[]⟩,
  ⟨.type "tuple", none, (.seq #[.str (ucs [115,101,108,102]) 634, .str (ucs [115,101,113,117,101,110,99,101]) 635, .str (ucs [111,102,102,115,101,116]) 636, .str (ucs [115,101,113,117,101,110,99,101,95,108,101,110]) 637] 0), #[]⟩,
  ⟨.type "tuple", none, (.seq #[] 0), #[]⟩,
  ⟨.none, none, (.func { fnD (nth clsBody 27) (ucs [80,121,116,104,111,110,80,86,101,99,116,111,114,46,95,109,117,116,97,116,105,110,103,95,101,120,116,101,110,100]) [] .none .none .none none .none .none with globals := 0 }), #[]⟩,
  ⟨.type "code", none, (.fields #[.str (ucs [95,109,117,116,97,116,105,110,103,95,101,120,116,101,110,100]) 631, .str (ucs [80,121,116,104,111,110,80,86,101,99,116,111,114,46,95,109,117,116,97,116,105,110,103,95,101,120,116,101,110,100]) 632, .str (ucs [47,99,108,97,105,109,47,99,117,116,46,112,121]) 633, .int (161) 0, .int (2) 0, .int (0) 0, .int (0) 0, .int (3) 0, .ref 243, .bool true, .int (338) 0, .ref 244, .none, .ref 245, .ref 246, .ref 247, .int (638) 0, .int (161) 0, .str (ucs [47,99,108,97,105,109,47,99,117,116,46,112,121]) 639]), #[]⟩,
  ⟨.type "function", none, (.func (fnD (nth clsBody 27) (ucs [80,121,116,104,111,110,80,86,101,99,116,111,114,46,95,109,117,116,97,116,105,110,103,95,101,120,116,101,110,100]) [] .none .none (.str (ucs [112,121,114,115,105,115,116,101,110,116,46,95,112,118,101,99,116,111,114]) 351) none (.ref 248) .none)), #[]⟩,
  ⟨.type "tuple", none, (.seq #[] 0), #[]⟩,
  ⟨.none, none, (.fields #[]), #[]⟩,
  ⟨.type "tuple", none, (.seq #[.str (ucs [115,101,108,102]) 644, .str (ucs [111,98,106]) 645, .str (ucs [108]) 646, .str (ucs [110,101,119,95,118,101,99,116,111,114]) 647] 0), #[]⟩,
  ⟨.type "tuple", none, (.seq #[] 0), #[]⟩,
  ⟨.none, none, (.func { fnD (nth clsBody 28) (ucs [80,121,116,104,111,110,80,86,101,99,116,111,114,46,101,120,116,101,110,100]) [] .none .none .none none .none .none with globals := 0 }), #[]⟩,
  ⟨.type "code", none, (.fields #[.str (ucs [101,120,116,101,110,100]) 641, .str (ucs [80,121,116,104,111,110,80,86,101,99,116,111,114,46,101,120,116,101,110,100]) 642, .str (ucs [47,99,108,97,105,109,47,99,117,116,46,112,121]) 643, .int (170) 0, .int (2) 0, .int (0) 0, .int (0) 0, .int (3) 0, .ref 250, .bool true, .int (338) 0, .ref 251, .none, .ref 252, .ref 253, .ref 254, .int (648) 0, .int (170) 0, .str (ucs [47,99,108,97,105,109,47,99,117,116,46,112,121]) 649]), #[]⟩,
  ⟨.type "function", none, (.func (fnD (nth clsBody 28) (ucs [80,121,116,104,111,110,80,86,101,99,116,111,114,46,101,120,116,101,110,100]) [] .none .none (.str (ucs [112,121,114,115,105,115,116,101,110,116,46,95,112,118,101,99,116,111,114]) 351) none (.ref 255) .none)), #[]⟩,
  ⟨.type "tuple", none, (.seq #[] 0), #[]⟩,
  ⟨.none, none, (.fields #[]), #[]⟩,
  ⟨.type "tuple", none, (.seq #[.str (ucs [115,101,108,102]) 654, .str (ucs [108,101,118,101,108]) 655, .str (ucs [112,97,114,101,110,116]) 656, .str (ucs [116,97,105,108,95,110,111,100,101]) 657, .str (ucs [114,101,116]) 658, .str (ucs [115,117,98,95,105,110,100,101,120]) 659] 0), #[]⟩,
  ⟨.type "tuple", none, (.seq #[] 0), #[]⟩,
  ⟨.none, none, (.func { fnD (nth clsBody 29) (ucs [80,121,116,104,111,110,80,86,101,99,116,111,114,46,95,112,117,115,104,95,116,97,105,108]) [] .none .none .none none .none .none with globals := 0 }), #[]⟩,
  ⟨.type "code", none, (.fields #[.str (ucs [95,112,117,115,104,95,116,97,105,108]) 651, .str (ucs [80,121,116,104,111,110,80,86,101,99,116,111,114,46,95,112,117,115,104,95,116,97,105,108]) 652, .str (ucs [47,99,108,97,105,109,47,99,117,116,46,112,121]) 653, .int (178) 0, .int (4) 0, .int (0) 0, .int (0) 0, .int (3) 0, .ref 257, .bool true, .int (338) 0, .ref 258, .none, .ref 259, .ref 260, .ref 261, .int (660) 0, .int (178) 0, .str (ucs [47,99,108,97,105,109,47,99,117,116,46,112,121]) 661]), #[]⟩,
  ⟨.type "function", none, (.func (fnD (nth clsBody 29) (ucs [80,121,116,104,111,110,80,86,101,99,116,111,114,46,95,112,117,115,104,95,116,97,105,108]) [] .none .none (.str (ucs [112,121,114,115,105,115,116,101,110,116,46,95,112,118,101,99,116,111,114]) 351) none (.ref 262) .none)), #[]⟩,
  ⟨.type "tuple", none, (.seq #[] 0), #[]⟩,
  ⟨.none, none, (.fields #[]), #[]⟩,
  ⟨.type "tuple", none, (.seq #[.str (ucs [115,101,108,102]) 666, .str (ucs [118,97,108,117,101]) 667, .str (ucs [97,114,103,115]) 668, .str (ucs [107,119,97,114,103,115]) 669] 0), #[]⟩,
  ⟨.type "tuple", none, (.seq #[] 0), #[]⟩,
  ⟨.none, none, (.func { fnD (nth clsBody 30) (ucs [80,121,116,104,111,110,80,86,101,99,116,111,114,46,105,110,100,101,120]) [] .none .none .none none .none .none with globals := 0 }), #[]⟩,
  ⟨.type "code", none, (.fields #[.str (ucs [105,110,100,101,120]) 663, .str (ucs [80,121,116,104,111,110,80,86,101,99,116,111,114,46,105,110,100,101,120]) 664, .str (ucs [47,99,108,97,105,109,47,99,117,116,46,112,121]) 665, .int (190) 0, .int (2) 0, .int (0) 0, .int (0) 0, .int (15) 0, .ref 264, .bool true, .int (338) 0, .ref 265, .none, .ref 266, .ref 267, .ref 268, .int (670) 0, .int (190) 0, .str (ucs [47,99,108,97,105,109,47,99,117,116,46,112,121]) 671]), #[]⟩,
  ⟨.type "function", none, (.func (fnD (nth clsBody 30) (ucs [80,121,116,104,111,110,80,86,101,99,116,111,114,46,105,110,100,101,120]) [] .none .none (.str (ucs [112,121,114,115,105,115,116,101,110,116,46,95,112,118,101,99,116,111,114]) 351) none (.ref 269) .none)), #[]⟩,
  ⟨.type "tuple", none, (.seq #[] 0), #[]⟩,
  ⟨.none, none, (.fields #[]), #[]⟩,
  ⟨.type "tuple", none, (.seq #[.str (ucs [115,101,108,102]) 676, .str (ucs [118,97,108,117,101]) 677] 0), #[]⟩,
  ⟨.type "tuple", none, (.seq #[] 0), #[]⟩,
  ⟨.none, none, (.func { fnD (nth clsBody 31) (ucs [80,121,116,104,111,110,80,86,101,99,116,111,114,46,99,111,117,110,116]) [] .none .none .none none .none .none with globals := 0 }), #[]⟩,
  ⟨.type "code", none, (.fields #[.str (ucs [99,111,117,110,116]) 673, .str (ucs [80,121,116,104,111,110,80,86,101,99,116,111,114,46,99,111,117,110,116]) 674, .str (ucs [47,99,108,97,105,109,47,99,117,116,46,112,121]) 675, .int (193) 0, .int (2) 0, .int (0) 0, .int (0) 0, .int (3) 0, .ref 271, .bool true, .int (338) 0, .ref 272, .none, .ref 273, .ref 274, .ref 275, .int (678) 0, .int (193) 0, .str (ucs [47,99,108,97,105,109,47,99,117,116,46,112,121]) 679]), #[]⟩,
  ⟨.type "function", none, (.func (fnD (nth clsBody 31) (ucs [80,121,116,104,111,110,80,86,101,99,116,111,114,46,99,111,117,110,116]) [] .none .none (.str (ucs [112,121,114,115,105,115,116,101,110,116,46,95,112,118,101,99,116,111,114]) 351) none (.ref 276) .none)), #[]⟩,
  ⟨.type "tuple", none, (.seq #[.none] 0), #[]⟩,
  ⟨.type "tuple", none, (.seq #[] 0), #[]⟩,
  ⟨.none, none, (.fields #[]), #[]⟩,
  ⟨.type "tuple", none, (.seq #[.str (ucs [115,101,108,102]) 684, .str (ucs [105,110,100,101,120]) 685, .str (ucs [115,116,111,112]) 686] 0), #[]⟩,
  ⟨.type "tuple", none, (.seq #[] 0), #[]⟩,
  ⟨.none, none, (.func { fnD (nth clsBody 32) (ucs [80,121,116,104,111,110,80,86,101,99,116,111,114,46,100,101,108,101,116,101]) [] .none .none .none none .none .none with globals := 0 }), #[]⟩,
  ⟨.type "code", none, (.fields #[.str (ucs [100,101,108,101,116,101]) 681, .str (ucs [80,121,116,104,111,110,80,86,101,99,116,111,114,46,100,101,108,101,116,101]) 682, .str (ucs [47,99,108,97,105,109,47,99,117,116,46,112,121]) 683, .int (196) 0, .int (3) 0, .int (0) 0, .int (0) 0, .int (3) 0, .ref 279, .bool true, .int (338) 0, .ref 280, .none, .ref 281, .ref 282, .ref 283, .int (687) 0, .int (196) 0, .str (ucs [47,99,108,97,105,109,47,99,117,116,46,112,121]) 688]), #[]⟩,
  ⟨.type "function", none, (.func (fnD (nth clsBody 32) (ucs [80,121,116,104,111,110,80,86,101,99,116,111,114,46,100,101,108,101,116,101]) [] (.ref 278) .none (.str (ucs [112,121,114,115,105,115,116,101,110,116,46,95,112,118,101,99,116,111,114]) 351) none (.ref 284) .none)), #[]⟩,
  ⟨.type "tuple", none, (.seq #[] 0), #[]⟩,
  ⟨.none, none, (.fields #[]), #[]⟩,
  ⟨.type "tuple", none, (.seq #[.str (ucs [115,101,108,102]) 693, .str (ucs [118,97,108,117,101]) 694] 0), #[]⟩,
  ⟨.type "tuple", none, (.seq #[] 0), #[]⟩,
  ⟨.none, none, (.func { fnD (nth clsBody 33) (ucs [80,121,116,104,111,110,80,86,101,99,116,111,114,46,114,101,109,111,118,101]) [] .none .none .none none .none .none with globals := 0 }), #[]⟩,
  ⟨.type "code", none, (.fields #[.str (ucs [114,101,109,111,118,101]) 690, .str (ucs [80,121,116,104,111,110,80,86,101,99,116,111,114,46,114,101,109,111,118,101]) 691, .str (ucs [47,99,108,97,105,109,47,99,117,116,46,112,121]) 692, .int (199) 0, .int (2) 0, .int (0) 0, .int (0) 0, .int (3) 0, .ref 286, .bool true, .int (338) 0, .ref 287, .none, .ref 288, .ref 289, .ref 290, .int (695) 0, .int (199) 0, .str (ucs [47,99,108,97,105,109,47,99,117,116,46,112,121]) 696]), #[]⟩,
  ⟨.type "function", none, (.func (fnD (nth clsBody 33) (ucs [80,121,116,104,111,110,80,86,101,99,116,111,114,46,114,101,109,111,118,101]) [] .none .none (.str (ucs [112,121,114,115,105,115,116,101,110,116,46,95,112,118,101,99,116,111,114]) 351) none (.ref 291) .none)), #[]⟩,
  ⟨.type "tuple", none, (.seq #[.str (ucs [95,99,111,117,110,116]) 698, .str (ucs [95,114,111,111,116]) 699, .str (ucs [95,115,104,105,102,116]) 700, .str (ucs [95,116,97,105,108]) 701, .str (ucs [95,116,97,105,108,95,111,102,102,115,101,116]) 702] 0), #[]⟩,
  ⟨.type "list", none, (.seq #[.str (ucs [95,99,111,117,110,116]) 391, .str (ucs [95,115,104,105,102,116]) 392, .str (ucs [95,114,111,111,116]) 393, .str (ucs [95,116,97,105,108]) 394, .str (ucs [95,116,97,105,108,95,111,102,102,115,101,116]) 395, .str (ucs [95,95,119,101,97,107,114,101,102,95,95]) 396] 1), #[]⟩,
  ⟨.type "dict", none, (.dict #[⟨PyData.keyHash P (ucs [95,95,109,111,100,117,108,101,95,95]), .str (ucs [95,95,109,111,100,117,108,101,95,95]) 386, .str (ucs [112,121,114,115,105,115,116,101,110,116,46,95,112,118,101,99,116,111,114]) 351⟩, ⟨PyData.keyHash P (ucs [95,95,102,105,114,115,116,108,105,110,101,110,111,95,95]), .str (ucs [95,95,102,105,114,115,116,108,105,110,101,110,111,95,95]) 390, .int (13) 389⟩, ⟨PyData.keyHash P (ucs [95,95,115,108,111,116,115,95,95]), .str (ucs [95,95,115,108,111,116,115,95,95]) 397, .ref 63⟩, ⟨PyData.keyHash P (ucs [95,95,110,101,119,95,95]), .str (ucs [95,95,110,101,119,95,95]) 410, .ref 297⟩, ⟨PyData.keyHash P (ucs [95,95,108,101,110,95,95]), .str (ucs [95,95,108,101,110,95,95]) 417, .ref 78⟩, ⟨PyData.keyHash P (ucs [95,95,103,101,116,105,116,101,109,95,95]), .str (ucs [95,95,103,101,116,105,116,101,109,95,95]) 425, .ref 85⟩, ⟨PyData.keyHash P (ucs [95,95,97,100,100,95,95]), .str (ucs [95,95,97,100,100,95,95]) 433, .ref 92⟩, ⟨PyData.keyHash P (ucs [95,95,114,101,112,114,95,95]), .str (ucs [95,95,114,101,112,114,95,95]) 440, .ref 99⟩, ⟨PyData.keyHash P (ucs [95,95,115,116,114,95,95]), .str (ucs [95,95,115,116,114,95,95]) 447, .ref 106⟩, ⟨PyData.keyHash P (ucs [95,95,105,116,101,114,95,95]), .str (ucs [95,95,105,116,101,114,95,95]) 454, .ref 113⟩, ⟨PyData.keyHash P (ucs [95,95,110,101,95,95]), .str (ucs [95,95,110,101,95,95]) 462, .ref 120⟩, ⟨PyData.keyHash P (ucs [95,95,101,113,95,95]), .str (ucs [95,95,101,113,95,95]) 470, .ref 127⟩, ⟨PyData.keyHash P (ucs [95,95,103,116,95,95]), .str (ucs [95,95,103,116,95,95]) 478, .ref 134⟩, ⟨PyData.keyHash P (ucs [95,95,108,116,95,95]), .str (ucs [95,95,108,116,95,95]) 486, .ref 141⟩, ⟨PyData.keyHash P (ucs [95,95,103,101,95,95]), .str (ucs [95,95,103,101,95,95]) 494, .ref 148⟩, ⟨PyData.keyHash P (ucs [95,95,108,101,95,95]), .str (ucs [95,95,108,101,95,95]) 502, .ref 155⟩, ⟨PyData.keyHash P (ucs [95,95,109,117,108,95,95]), .str (ucs [95,95,109,117,108,95,95]) 510, .ref 162⟩, ⟨PyData.keyHash P (ucs [95,95,114,109,117,108,95,95]), .str (ucs [95,95,114,109,117,108,95,95]) 511, .ref 162⟩, ⟨PyData.keyHash P (ucs [95,102,105,108,108,95,108,105,115,116]), .str (ucs [95,102,105,108,108,95,108,105,115,116]) 522, .ref 169⟩, ⟨PyData.keyHash P (ucs [116,111,108,105,115,116]), .str (ucs [116,111,108,105,115,116]) 530, .ref 176⟩, ⟨PyData.keyHash P (ucs [95,116,111,116,117,112,108,101]), .str (ucs [95,116,111,116,117,112,108,101]) 537, .ref 183⟩, ⟨PyData.keyHash P (ucs [115,101,116]), .str (ucs [115,101,116]) 547, .ref 190⟩, ⟨PyData.keyHash P (ucs [95,100,111,95,115,101,116]), .str (ucs [95,100,111,95,115,101,116]) 560, .ref 197⟩, ⟨PyData.keyHash P (ucs [95,110,111,100,101,95,102,111,114]), .str (ucs [95,110,111,100,101,95,102,111,114]) 582, .ref 206⟩, ⟨PyData.keyHash P (ucs [95,99,114,101,97,116,101,95,110,101,119,95,114,111,111,116]), .str (ucs [95,99,114,101,97,116,101,95,110,101,119,95,114,111,111,116]) 591, .ref 214⟩, ⟨PyData.keyHash P (ucs [97,112,112,101,110,100]), .str (ucs [97,112,112,101,110,100]) 602, .ref 221⟩, ⟨PyData.keyHash P (ucs [95,110,101,119,95,112,97,116,104]), .str (ucs [95,110,101,119,95,112,97,116,104]) 611, .ref 228⟩, ⟨PyData.keyHash P (ucs [95,109,117,116,97,116,105,110,103,95,105,110,115,101,114,116,95,116,97,105,108]), .str (ucs [95,109,117,116,97,116,105,110,103,95,105,110,115,101,114,116,95,116,97,105,108]) 618, .ref 235⟩, ⟨PyData.keyHash P (ucs [95,109,117,116,97,116,105,110,103,95,102,105,108,108,95,116,97,105,108]), .str (ucs [95,109,117,116,97,116,105,110,103,95,102,105,108,108,95,116,97,105,108]) 630, .ref 242⟩, ⟨PyData.keyHash P (ucs [95,109,117,116,97,116,105,110,103,95,101,120,116,101,110,100]), .str (ucs [95,109,117,116,97,116,105,110,103,95,101,120,116,101,110,100]) 640, .ref 249⟩, ⟨PyData.keyHash P (ucs [101,120,116,101,110,100]), .str (ucs [101,120,116,101,110,100]) 650, .ref 256⟩, ⟨PyData.keyHash P (ucs [95,112,117,115,104,95,116,97,105,108]), .str (ucs [95,112,117,115,104,95,116,97,105,108]) 662, .ref 263⟩, ⟨PyData.keyHash P (ucs [105,110,100,101,120]), .str (ucs [105,110,100,101,120]) 672, .ref 270⟩, ⟨PyData.keyHash P (ucs [99,111,117,110,116]), .str (ucs [99,111,117,110,116]) 680, .ref 277⟩, ⟨PyData.keyHash P (ucs [100,101,108,101,116,101]), .str (ucs [100,101,108,101,116,101]) 689, .ref 285⟩, ⟨PyData.keyHash P (ucs [114,101,109,111,118,101]), .str (ucs [114,101,109,111,118,101]) 697, .ref 292⟩, ⟨PyData.keyHash P (ucs [95,95,115,116,97,116,105,99,95,97,116,116,114,105,98,117,116,101,115,95,95]), .str (ucs [95,95,115,116,97,116,105,99,95,97,116,116,114,105,98,117,116,101,115,95,95]) 703, .ref 293⟩, ⟨PyData.keyHash P (ucs [95,99,111,117,110,116]), .str (ucs [95,99,111,117,110,116]) 707, .ref 298⟩, ⟨PyData.keyHash P (ucs [95,114,111,111,116]), .str (ucs [95,114,111,111,116]) 709, .ref 299⟩, ⟨PyData.keyHash P (ucs [95,115,104,105,102,116]), .str (ucs [95,115,104,105,102,116]) 711, .ref 300⟩, ⟨PyData.keyHash P (ucs [95,116,97,105,108]), .str (ucs [95,116,97,105,108]) 713, .ref 301⟩, ⟨PyData.keyHash P (ucs [95,116,97,105,108,95,111,102,102,115,101,116]), .str (ucs [95,116,97,105,108,95,111,102,102,115,101,116]) 715, .ref 302⟩, ⟨PyData.keyHash P (ucs [95,95,119,101,97,107,114,101,102,95,95]), .str (ucs [95,95,119,101,97,107,114,101,102,95,95]) 717, .ref 303⟩, ⟨PyData.keyHash P (ucs [95,95,100,111,99,95,95]), .str (ucs [95,95,100,111,99,95,95]) 718, .none⟩, ⟨PyData.keyHash P (ucs [95,95,104,97,115,104,95,95]), .str (ucs [95,95,104,97,115,104,95,95]) 719, .none⟩] 10), #[]⟩,
  ⟨.type "type", none, (.cls { name := (ucs [80,121,116,104,111,110,80,86,101,99,116,111,114]), bases := [.type "object"], mro := [.ref 296, .type "object"], ns := 295, qualname := (ucs [80,121,116,104,111,110,80,86,101,99,116,111,114]), hasDict := false, slotNames := [(ucs [95,99,111,117,110,116]), (ucs [95,114,111,111,116]), (ucs [95,115,104,105,102,116]), (ucs [95,116,97,105,108]), (ucs [95,116,97,105,108,95,111,102,102,115,101,116])], subclasses := [], abstract := false, collection := none, hasDel := false }), #[(some (.ref 55)), none, (some (.str (ucs [80,121,116,104,111,110,80,86,101,99,116,111,114]) 379)), (some (.str (ucs [80,121,116,104,111,110,80,86,101,99,116,111,114]) 387)), (some .none), (some (.bool true))]⟩,
  ⟨.type "staticmethod", none, (.fields #[.ref 71]), #[]⟩,
  ⟨.type "member_descriptor", none, (.fields #[.str (ucs [95,99,111,117,110,116]) 706, .ref 296, .builtin "proto.slot", .builtin "proto.slot#set", .int (4) 0]), #[]⟩,
  ⟨.type "member_descriptor", none, (.fields #[.str (ucs [95,114,111,111,116]) 708, .ref 296, .builtin "proto.slot", .builtin "proto.slot#set", .int (3) 0]), #[]⟩,
  ⟨.type "member_descriptor", none, (.fields #[.str (ucs [95,115,104,105,102,116]) 710, .ref 296, .builtin "proto.slot", .builtin "proto.slot#set", .int (2) 0]), #[]⟩,
  ⟨.type "member_descriptor", none, (.fields #[.str (ucs [95,116,97,105,108]) 712, .ref 296, .builtin "proto.slot", .builtin "proto.slot#set", .int (1) 0]), #[]⟩,
  ⟨.type "member_descriptor", none, (.fields #[.str (ucs [95,116,97,105,108,95,111,102,102,115,101,116]) 714, .ref 296, .builtin "proto.slot", .builtin "proto.slot#set", .int (0) 0]), #[]⟩,
  ⟨.type "getset_descriptor", none, (.fields #[.str (ucs [95,95,119,101,97,107,114,101,102,95,95]) 716, .ref 296, .builtin "ExceptionGroup.__weakref__", .none]), #[]⟩,
  ⟨.type "super", none, (.fields #[.ref 296, .ref 296, .ref 296]), #[]⟩,
  ⟨.type "builtin_function_or_method", none, (.fields #[.builtin "object.__init_subclass__", .ref 296]), #[]⟩,
  ⟨.type "list", none, (.seq #[] 0), #[]⟩,
  ⟨.type "list", none, (.seq #[] 0), #[]⟩,
  ⟨.type "frame", none, (.dict #[⟨PyData.keyHash P (ucs [99,108,115]), .str (ucs [99,108,115]) 724, .ref 296⟩, ⟨PyData.keyHash P (ucs [99,111,117,110,116]), .str (ucs [99,111,117,110,116]) 725, .int (0) 722⟩, ⟨PyData.keyHash P (ucs [115,104,105,102,116]), .str (ucs [115,104,105,102,116]) 726, .int (5) 368⟩, ⟨PyData.keyHash P (ucs [114,111,111,116]), .str (ucs [114,111,111,116]) 727, .ref 306⟩, ⟨PyData.keyHash P (ucs [116,97,105,108]), .str (ucs [116,97,105,108]) 728, .ref 307⟩, ⟨PyData.keyHash P (ucs [115,101,108,102]), .str (ucs [115,101,108,102]) 730, .ref 311⟩] 6), #[]⟩,
  ⟨.type "super", none, (.fields #[.ref 296, .ref 296, .ref 296]), #[]⟩,
  ⟨.type "dict", none, (.dict #[] 0), #[]⟩,
  ⟨.ref 296, (some 310), .plain, #[(some (.int (0) 722)), (some (.ref 306)), (some (.int (5) 368)), (some (.ref 307)), (some (.int (0) 739))]⟩,
  ⟨.type "tuple", none, (.seq #[] 0), #[]⟩,
  ⟨.type "tuple", none, (.seq #[.ref 312] 0), #[]⟩,
  ⟨.type "tuple", none, (.seq #[] 0), #[]⟩,
  ⟨.none, none, (.fields #[]), #[]⟩,
  ⟨.type "tuple", none, (.seq #[.str (ucs [105,116,101,114,97,98,108,101]) 745] 0), #[]⟩,
  ⟨.type "tuple", none, (.seq #[] 0), #[]⟩,
  ⟨.none, none, (.func { fnD (nth (body0) 10) (ucs [112,121,116,104,111,110,95,112,118,101,99,116,111,114]) [] .none .none .none none .none .none with globals := 0 }), #[]⟩,
  ⟨.type "code", none, (.fields #[.str (ucs [112,121,116,104,111,110,95,112,118,101,99,116,111,114]) 742, .str (ucs [112,121,116,104,111,110,95,112,118,101,99,116,111,114]) 743, .str (ucs [47,99,108,97,105,109,47,99,117,116,46,112,121]) 744, .int (202) 0, .int (1) 0, .int (0) 0, .int (0) 0, .int (3) 0, .ref 314, .bool true, .int (338) 0, .ref 315, .none, .ref 316, .ref 317, .ref 318, .int (746) 0, .int (202) 0, .str (ucs [47,99,108,97,105,109,47,99,117,116,46,112,121]) 747]), #[]⟩,
  ⟨.type "function", none, (.func (fnD (nth (body0) 10) (ucs [112,121,116,104,111,110,95,112,118,101,99,116,111,114]) [] (.ref 313) .none (.str (ucs [112,121,114,115,105,115,116,101,110,116,46,95,112,118,101,99,116,111,114]) 351) none (.ref 319) .none)), #[]⟩,
  ⟨.type "tuple", none, (.seq #[] 0), #[]⟩,
  ⟨.none, none, (.fields #[]), #[]⟩,
  ⟨.type "tuple", none, (.seq #[.str (ucs [116,119,105,110]) 755, .str (ucs [110,117,109,98,101,114]) 756, .str (ucs [112,97,116,104]) 757, .str (ucs [115,105,122,101]) 758, .str (ucs [112,108,97,99,101]) 759] 0), #[]⟩,
  ⟨.type "tuple", none, (.seq #[] 0), #[]⟩,
  ⟨.none, none, (.func { fnD (nth (body0) 13) (ucs [95,108,97,119,95,112,97,116,104]) [] .none .none .none none .none .none with globals := 0 }), #[]⟩,
  ⟨.type "code", none, (.fields #[.str (ucs [95,108,97,119,95,112,97,116,104]) 752, .str (ucs [95,108,97,119,95,112,97,116,104]) 753, .str (ucs [47,99,108,97,105,109,47,99,117,116,46,112,121]) 754, .int (206) 0, .int (2) 0, .int (0) 0, .int (0) 0, .int (3) 0, .ref 321, .bool true, .int (338) 0, .ref 322, .none, .ref 323, .ref 324, .ref 325, .int (760) 0, .int (206) 0, .str (ucs [47,99,108,97,105,109,47,99,117,116,46,112,121]) 761]), #[]⟩,
  ⟨.type "function", none, (.func (fnD (nth (body0) 13) (ucs [95,108,97,119,95,112,97,116,104]) [] .none .none (.str (ucs [108,97,119,95,109,100,48,48,50,48,95,48,54]) 750) none (.ref 326) .none)), #[]⟩,
  ⟨.type "tuple", none, (.seq #[] 0), #[]⟩,
  ⟨.none, none, (.fields #[]), #[]⟩,
  ⟨.type "tuple", none, (.seq #[.str (ucs [116,114,101,101]) 766, .str (ucs [112,97,116,104]) 767, .str (ucs [116,104,105,110,103]) 768] 0), #[]⟩,
  ⟨.type "tuple", none, (.seq #[] 0), #[]⟩,
  ⟨.none, none, (.func { fnD (nth (body0) 14) (ucs [95,108,97,119,95,112,117,116]) [] .none .none .none none .none .none with globals := 0 }), #[]⟩,
  ⟨.type "code", none, (.fields #[.str (ucs [95,108,97,119,95,112,117,116]) 763, .str (ucs [95,108,97,119,95,112,117,116]) 764, .str (ucs [47,99,108,97,105,109,47,99,117,116,46,112,121]) 765, .int (215) 0, .int (3) 0, .int (0) 0, .int (0) 0, .int (3) 0, .ref 328, .bool true, .int (338) 0, .ref 329, .none, .ref 330, .ref 331, .ref 332, .int (769) 0, .int (215) 0, .str (ucs [47,99,108,97,105,109,47,99,117,116,46,112,121]) 770]), #[]⟩,
  ⟨.type "function", none, (.func (fnD (nth (body0) 14) (ucs [95,108,97,119,95,112,117,116]) [] .none .none (.str (ucs [108,97,119,95,109,100,48,48,50,48,95,48,54]) 750) none (.ref 333) .none)), #[]⟩,
  ⟨.type "tuple", none, (.seq #[] 0), #[]⟩,
  ⟨.none, none, (.fields #[]), #[]⟩,
  ⟨.type "tuple", none, (.seq #[.str (ucs [116,119,105,110]) 775, .str (ucs [112,97,116,104]) 776, .str (ucs [116,104,105,110,103]) 777, .str (ucs [114,111,119]) 778] 0), #[]⟩,
  ⟨.type "tuple", none, (.seq #[] 0), #[]⟩,
  ⟨.none, none, (.func { fnD (nth (body0) 15) (ucs [95,108,97,119,95,112,117,116,95,112,108,97,105,110]) [] .none .none .none none .none .none with globals := 0 }), #[]⟩,
  ⟨.type "code", none, (.fields #[.str (ucs [95,108,97,119,95,112,117,116,95,112,108,97,105,110]) 772, .str (ucs [95,108,97,119,95,112,117,116,95,112,108,97,105,110]) 773, .str (ucs [47,99,108,97,105,109,47,99,117,116,46,112,121]) 774, .int (219) 0, .int (3) 0, .int (0) 0, .int (0) 0, .int (3) 0, .ref 335, .bool true, .int (338) 0, .ref 336, .none, .ref 337, .ref 338, .ref 339, .int (779) 0, .int (219) 0, .str (ucs [47,99,108,97,105,109,47,99,117,116,46,112,121]) 780]), #[]⟩,
  ⟨.type "function", none, (.func (fnD (nth (body0) 15) (ucs [95,108,97,119,95,112,117,116,95,112,108,97,105,110]) [] .none .none (.str (ucs [108,97,119,95,109,100,48,48,50,48,95,48,54]) 750) none (.ref 340) .none)), #[]⟩,
  ⟨.type "tuple", none, (.seq #[] 0), #[]⟩,
  ⟨.none, none, (.fields #[]), #[]⟩,
  ⟨.type "tuple", none, (.seq #[.str (ucs [111,108,100]) 785, .str (ucs [110,101,119]) 786, .str (ucs [112,97,116,104]) 787, .str (ucs [98,101,102,111,114,101]) 788, .str (ucs [98,101,104,105,110,100]) 789, .str (ucs [112,108,97,99,101]) 790] 0), #[]⟩,
  ⟨.type "tuple", none, (.seq #[] 0), #[]⟩,
  ⟨.none, none, (.func { fnD (nth (body0) 16) (ucs [95,108,97,119,95,115,104,97,114,101,100]) [] .none .none .none none .none .none with globals := 0 }), #[]⟩,
  ⟨.type "code", none, (.fields #[.str (ucs [95,108,97,119,95,115,104,97,114,101,100]) 782, .str (ucs [95,108,97,119,95,115,104,97,114,101,100]) 783, .str (ucs [47,99,108,97,105,109,47,99,117,116,46,112,121]) 784, .int (223) 0, .int (3) 0, .int (0) 0, .int (0) 0, .int (3) 0, .ref 342, .bool true, .int (338) 0, .ref 343, .none, .ref 344, .ref 345, .ref 346, .int (791) 0, .int (223) 0, .str (ucs [47,99,108,97,105,109,47,99,117,116,46,112,121]) 792]), #[]⟩,
  ⟨.type "function", none, (.func (fnD (nth (body0) 16) (ucs [95,108,97,119,95,115,104,97,114,101,100]) [] .none .none (.str (ucs [108,97,119,95,109,100,48,48,50,48,95,48,54]) 750) none (.ref 347) .none)), #[]⟩,
  ⟨.type "tuple", none, (.seq #[] 0), #[]⟩,
  ⟨.none, none, (.fields #[]), #[]⟩,
  ⟨.none, none, (.func { fnD (nth (body0) 17) (ucs [95,108,97,119,95,112,108,97,105,110]) [] .none .none .none none .none .none with globals := 0 }), #[]⟩,
  ⟨.type "code", none, (.fields #[.str (ucs [95,108,97,119,95,112,108,97,105,110]) 794, .str (ucs [95,108,97,119,95,112,108,97,105,110]) 795, .str (ucs [47,99,108,97,105,109,47,99,117,116,46,112,121]) 796, .int (234) 0, .int (1) 0, .int (0) 0, .int (0) 0, .int (3) 0, .ref 349, .bool true, .int (338) 0, .ref 350, .none, .none, .none, .ref 351, .int (797) 0, .int (234) 0, .str (ucs [47,99,108,97,105,109,47,99,117,116,46,112,121]) 798]), #[]⟩,
  ⟨.type "function", none, (.func (fnD (nth (body0) 17) (ucs [95,108,97,119,95,112,108,97,105,110]) [] .none .none (.str (ucs [108,97,119,95,109,100,48,48,50,48,95,48,54]) 750) none (.ref 352) .none)), #[]⟩,
  ⟨.type "tuple", none, (.seq #[] 0), #[]⟩,
  ⟨.none, none, (.fields #[]), #[]⟩,
  ⟨.type "tuple", none, (.seq #[.str (ucs [116,119,105,110]) 803, .str (ucs [103,114,111,119,110]) 804, .str (ucs [111,110,101]) 805] 0), #[]⟩,
  ⟨.type "tuple", none, (.seq #[] 0), #[]⟩,
  ⟨.none, none, (.func { fnD (nth (body0) 18) (ucs [95,108,97,119,95,103,114,111,119,110]) [] .none .none .none none .none .none with globals := 0 }), #[]⟩,
  ⟨.type "code", none, (.fields #[.str (ucs [95,108,97,119,95,103,114,111,119,110]) 800, .str (ucs [95,108,97,119,95,103,114,111,119,110]) 801, .str (ucs [47,99,108,97,105,109,47,99,117,116,46,112,121]) 802, .int (236) 0, .int (1) 0, .int (0) 0, .int (0) 0, .int (3) 0, .ref 354, .bool true, .int (338) 0, .ref 355, .none, .ref 356, .ref 357, .ref 358, .int (806) 0, .int (236) 0, .str (ucs [47,99,108,97,105,109,47,99,117,116,46,112,121]) 807]), #[]⟩,
  ⟨.type "function", none, (.func (fnD (nth (body0) 18) (ucs [95,108,97,119,95,103,114,111,119,110]) [] .none .none (.str (ucs [108,97,119,95,109,100,48,48,50,48,95,48,54]) 750) none (.ref 359) .none)), #[]⟩,
  ⟨.type "tuple", none, (.seq #[] 0), #[]⟩,
  ⟨.none, none, (.fields #[]), #[]⟩,
  ⟨.type "tuple", none, (.seq #[.str (ucs [115,99,114,105,112,116]) 812, .str (ucs [99,101,108,108,115]) 813, .str (ucs [116,114,101,101,115]) 814, .str (ucs [116,119,105,110,115]) 815, .str (ucs [110,117,109,98,101,114]) 816, .str (ucs [100,101,101,100]) 817, .str (ucs [116,114,101,101]) 818, .str (ucs [116,119,105,110]) 819, .str (ucs [115,116,101,112]) 820, .str (ucs [109,97,100,101]) 821, .str (ucs [112,108,97,105,110]) 822, .str (ucs [119,104,105,99,104]) 823, .str (ucs [112,97,116,104]) 824, .str (ucs [116,104,105,110,103]) 825, .str (ucs [115,97,109,101]) 826, .str (ucs [110,101,119]) 827, .str (ucs [116,117,114,110]) 828, .str (ucs [111,116,104,101,114]) 829, .str (ucs [103,114,111,119,110]) 830] 0), #[]⟩,
  ⟨.type "tuple", none, (.seq #[] 0), #[]⟩,
  ⟨.none, none, (.func { fnD (nth (body0) 19) (ucs [108,97,119]) [] .none .none .none none .none .none with globals := 0 }), #[]⟩,
  ⟨.type "code", none, (.fields #[.str (ucs [108,97,119]) 809, .str (ucs [108,97,119]) 810, .str (ucs [47,99,108,97,105,109,47,99,117,116,46,112,121]) 811, .int (241) 0, .int (1) 0, .int (0) 0, .int (0) 0, .int (3) 0, .ref 361, .bool true, .int (338) 0, .ref 362, .none, .ref 363, .ref 364, .ref 365, .int (831) 0, .int (241) 0, .str (ucs [47,99,108,97,105,109,47,99,117,116,46,112,121]) 832]), #[]⟩,
  ⟨.type "function", none, (.func (fnD (nth (body0) 19) (ucs [108,97,119]) [] .none .none (.str (ucs [108,97,119,95,109,100,48,48,50,48,95,48,54]) 750) none (.ref 366) .none)), #[]⟩], {}⟩
open PySem.W.Fast in
theorem open_k (w : World) : (fencedOpening treeTable prog w 4988).map (fun s => (s.heap, s.gens, s.drawn, s.toks)) = some (H0 w.params, #[], {}, 338) := by
  have k : ((tw10274390034422433532 tw14364793385576792824 (opening prog) w 4988 (tw1435165496053646825 (opening prog)).1 (tw1435165496053646825 (opening prog)).2).bind (tw14289696077712309145 prog)).map (fun s => (s.heap, s.gens, s.drawn, s.toks)) = some (H0 w.params, #[], {}, 338) := by kernel_rfl!
  rw [← te10274390034422433532, ← te14364793385576792824, ← te1435165496053646825, ← te14289696077712309145] at k
  exact k
theorem size_k (w : World) : ((H0 w.params).isNs mainGlobals && (#[] : Array GenState).size == 0, (H0 w.params).objs.size, (H0 w.params).nsMap mainGlobals "__annotations__") = (true, 29, some (.ref 6)) := by kernel_rfl!
theorem run_k (w : World) (os : OsState) : ((toT ⟨H0 w.params, #[], {}, 338, os⟩).bind fun S => (topT prog w 29 (some (.ref 6)) 4988 S (topStub prog)).map (·.abs)) = some ⟨H1 w.params, #[], {}, 834, os⟩ := by kernel_rfl!
theorem look1 (w : World) (os : OsState) : (staticsOk (importedModules prog.main.body) (H0 w.params) (H1 w.params) && namesBound prog (H1 w.params) && gensDone ⟨H1 w.params, #[], {}, 834, os⟩ && laidKept (H0 w.params) (H1 w.params)) = true := by kernel_rfl!
theorem look2 (w : World) (os : OsState) : openSeen qv loose (importedModules prog.main.body) Xt true ⟨H1 w.params, #[], {}, 834, os⟩ = openGood qv loose := by kernel_rfl!
theorem look3 (w : World) (os : OsState) : hook.obs ⟨H1 w.params, #[], {}, 834, os⟩ = hook.val w := by kernel_rfl!
theorem left : LeftO prog qv loose Xt (fun s => (hook.obs s, decide (0 < s.toks))) (fun w => (hook.val w, true)) 4988 :=
  LeftO.of_pieces (M := 4988) open_k size_k (fun w os => by
    obtain ⟨S, e1, e2⟩ := Option.bind_eq_some_iff.mp (run_k w os)
    obtain ⟨r, e3, e4⟩ := Option.map_eq_some_iff.mp e2
    have h := topT_of e3
    rw [toT_abs e1] at h
    exact h.trans (congrArg some e4)) (by decide) fun w => funext fun os => by
    rw [look1 w os, look2 w os, look3 w os]; rfl
end
/-- a value that is no int with token 0 -/
def Tk (v : Value) : Prop := ∀ k t, v = .int k t → t ≠ 0
theorem layW_int {R : WRecords} {cl : Str → Option Addr} {P : Params} {ord : List DictEntry → List DictEntry} {i : Int} {s s' : Shared} {v : Value} (h : layW R cl P ord (.int i) s = some (v, s')) (h0 : 0 < s.toks) : Tk v ∧ 0 < s'.toks := by
  rw [layW] at h
  injection h with h
  injection h with h1 h2
  subst h1 h2
  exact ⟨fun k t e => by injection e with _ e; subst e; exact Nat.ne_of_gt h0, Nat.succ_pos _⟩
theorem layInts {R : WRecords} {cl : Str → Option Addr} {P : Params} {ord : List DictEntry → List DictEntry} : ∀ (ds : List WData) (s s' : Shared) (vs : List Value), (∀ d ∈ ds, ∃ i, d = .int i) → layAllW R cl P ord ds s = some (vs, s') → 0 < s.toks → (∀ v ∈ vs, Tk v) ∧ 0 < s'.toks
  | [], s, s', vs, _, h, h0 => by
    rw [layAllW] at h
    injection h with h
    injection h with h1 h2
    subst h1 h2
    exact ⟨(fun _ q => nomatch q), h0⟩
  | d :: ds, s, s', vs, hd, h, h0 => by
    obtain ⟨i, rfl⟩ := hd d (.head _)
    rw [layAllW] at h
    cases h1 : layW R cl P ord (.int i) s with
    | none => rw [h1] at h; cases h
    | some a =>
      rw [h1] at h
      cases h2 : layAllW R cl P ord ds a.2 with
      | none => dsimp only at h; rw [h2] at h; cases h
      | some r =>
        dsimp only at h
        rw [h2] at h
        injection h with h
        injection h with h3 h4
        subst h3 h4
        obtain ⟨a1, a2⟩ := layW_int (v := a.1) (s' := a.2) h1 h0
        obtain ⟨b1, b2⟩ := layInts ds a.2 r.2 r.1 (fun d q => hd d (.tail _ q)) h2 a2
        exact ⟨fun v q => (List.mem_cons.mp q).elim (fun e => e ▸ a1) (b1 v), b2⟩
theorem layList {R : WRecords} {cl : Str → Option Addr} {P : Params} {ord : List DictEntry → List DictEntry} {ds : List WData} {s s' : Shared} {v : Value} (hd : ∀ d ∈ ds, ∃ i, d = .int i) (h : layAllW R cl P ord [.list ds] s = some ([v], s')) (h0 : 0 < s.toks) {a : Nat} {vs : List Value} (e : v = .ref a) (hl : s'.heap.IsList a vs.toArray) : ∀ x ∈ vs, Tk x := by
  rw [layAllW, layW] at h
  cases h1 : layAllW R cl P ord ds s with
  | none => rw [h1] at h; cases h
  | some r =>
    rw [h1] at h
    dsimp only at h
    rw [layAllW] at h
    injection h with h
    injection h with h2 h3
    injection h2 with h2 _
    subst h3
    rw [e] at h2
    injection h2 with h2
    subst h2
    obtain ⟨o, ho, hc, n, hdt⟩ := hl
    rw [Heap.get?_push_size _ rfl] at ho
    injection ho with ho
    subst ho
    injection hdt with hdt
    have ev : r.1 = vs := by simpa using hdt
    rw [← ev]
    exact (layInts ds s r.2 r.1 hd h1 h0).1
section
set_option maxHeartbeats 0
def lawRec : DefRec := match nth body0 19 with
  | .FunctionDef n a b _ _ _ sc _ _ ps => ⟨n, a, b, sc, ps⟩
  | _ => ⟨"", ⟨[], [], none, [], [], none, []⟩, [], default, default⟩
/-- what the walk must show, told besides how the arguments were laid and that no token is 0 -/
abbrev WalkT (q : Program) (loose : List Str) (XP : (Str → Option Value) → Heap → Prop) (YP : World → Heap → Prop) (r : RowW) (d : DefRec) (kwd : List (Str × Expr)) (run : Value → List Value → Sem Value) : Prop :=
  ∀ (w : World) (s₀ s₁ : Shared) (mg mb : Str → Option Value), Ground q loose r.records XP w s₀ mg mb s₁.heap → YP w s₁.heap → ∀ (a : Addr) (o : Obj) (pm cd doc dV kV : Value), s₁.heap.get? a = some o →
    o.data = .func { Calls.docDef d.name d.params d.body d.scope pm cd doc with defaults := dV, kwdefaults := kV } → s₁.heap.CodeRec cd d.name → Dflts mg s₁.heap d.params kwd dV kV → mg d.name = some (.ref a) → s₁.gens = #[] →
    ∀ (args : List WData) (vals : List Value) (as : List Addr), r.claim.pre args = true → WData.layableAll args = true → ReadsAllW r.records (classAt s₀.heap) s₁.heap vals args as → WellAll w.params s₁.heap vals args → (∀ a ∈ as, (a == sysModules) = false) →
      Laid r.records w s₀ s₁ args vals as → 0 < s₀.toks →
      wpAny (model r.prog w) callerA (run (.ref a) vals) (fun v s' => GoodWG r.claim (classAt s₀.heap) (ExcName.means s₀.heap) args s₁ (.ok (.ret v)) s')
        (fun e s' => GoodWG r.claim (classAt s₀.heap) (ExcName.means s₀.heap) args s₁ (.error e) s') s₁
theorem holdsT {r : OpenRow} {q : Program} {loose : List Str} {Xt : Shared → Bool} {XP : (Str → Option Value) → Heap → Prop} {α : Type} {Yf : Shared → α} {Ya : World → α} {YP : World → Heap → Prop} {d : DefRec} {kwd : List (Str × Expr)} {N : Nat}
    (left : LeftO r.prog q loose Xt (fun s => (Yf s, decide (0 < s.toks))) (fun w => (Ya w, true)) N) (hY : ∀ w s, Yf s = Ya w → YP w s.heap) (hYk : ∀ w h h', YP w h → (∀ b o, h.get? b = some o → h'.get? b = some o) → YP w h')
    (hX : ∀ s, Xt s = true → XP (s.heap.nsMap mainGlobals) s.heap) (hXk : ∀ mg h h', XP mg h → (∀ b o, h.get? b = some o → h'.get? b = some o) → XP mg h')
    (hdef : defOf q r.name = some (d, kwd)) (hp : r.prog.theDef r.name = some (d.params, d.body, d.scope)) (hk : kwWritten? d.params.kwonlyargs d.params.kw_defaults = some kwd) (hRf : ∀ s, Xt s = true → RecFacts r.records s.heap) (hwr : (!r.writes || r.records.isEmpty) = true)
    (k1 : r.wellSaid = true) (ok : (chainsOk q && opensWell r.prog && (frees r.toRowW && r.within.isEmpty)) = true) (hb : r.prog.bare) (hw : r.toRowW.promised)
    (call : WalkT q loose XP YP r.toRowW d kwd fun f vs => PySem.call f vs) : r.Holds := by
  obtain ⟨ok, k5⟩ := Bool.and_eq_true_iff.mp ok
  obtain ⟨hch, o1⟩ := Bool.and_eq_true_iff.mp ok
  obtain ⟨k5, k6⟩ := Bool.and_eq_true_iff.mp k5
  obtain ⟨hsame, hu, ha, hap, hm⟩ := frees_parts k5
  refine ⟨k1, hw, ⟨hb, o1, by show r.makers.map _ = []; rw [hm]; rfl⟩, hw.witness, fun w => ⟨(left.behind hX hch w).1, fun s' hs' => ?_⟩⟩
  obtain ⟨s₀, hf, hg0, s, hT, hz, hgens, hg, G00, y⟩ := (left.behind (XP := fun mg h => XP mg h ∧ RecFacts r.records h) (fun s hs => ⟨hX s hs, hRf s hs⟩) hch w).2 s' hs'
  have y1 : Yf s = Ya w := (Prod.mk.inj y).1
  have y2 : 0 < s.toks := of_decide_eq_true (Prod.mk.inj y).2
  have G0 : Ground q loose [] XP w s (s.heap.nsMap mainGlobals) (s.heap.nsMap builtinsNs) s.heap := ⟨G00.T, G00.B, G00.D, G00.TE, G00.TD, G00.W, G00.X.1, G00.cls, G00.has, G00.apart, G00.once, G00.K⟩
  have RF := G00.X.2
  have pin : ∀ n, n = r.name → isTheDefsW r.prog s.heap n := fun n e => by subst e; exact pinned_of_view hg G0 hdef hp hk
  refine ⟨s₀, hf, hg0, s, hT, fun n hn => pin n (by split at hn <;> simp_all), RF.1, RF.2.1, ?_⟩
  have hgens : s.gens = #[] := Array.eq_empty_of_size_eq_zero (beq_iff_eq.mp hgens)
  have G : Ground q loose r.records XP w s _ _ s.heap := RF.ground G0
  refine ClaimW.callFrom_of_specG (c := r.toRowW.claim) hz hgens fun args hpre hlay ord hord => ?_
  obtain ⟨⟨vs, s₁⟩, hlaid⟩ := Option.isSome_iff_exists.mp (layAllW_isSome (P := w.params) (ord := ord) G.has args r.args s (pre_splitW hpre).1)
  have keeps := layAllW_keeps _ _ _ hlaid
  have hal := layAllW_rest _ _ _ hlaid
  obtain ⟨as, hrd, hin, hold⟩ := reads_layAllW hord _ _ _ hlaid hlay s₁.heap (fun _ _ e => e)
  have Ld : Laid r.records w s s₁ args vs as := ⟨⟨ord, hord, hlaid⟩, hrd, hin, hold, keeps, hal.1.trans hgens, hal.2.2.1⟩
  have G₁ := G.keeps hXk keeps
  obtain ⟨a, o, pm, cd, doc, dV, kV, c1, c2, c3, c4, c5⟩ := G₁.fn hdef
  have h := call w s s₁ _ _ G₁ (hYk _ _ _ (hY w s y1) keeps) a o pm cd doc dV kV c2 c3 c4 c5 (defOf_name hdef ▸ c1) Ld.gens args vs as hpre hlay Ld.reads Ld.well (Ld.low G.low) Ld y2
  have hi := ident_freeW hu ha hap
  have hwi : r.toRowW.claim.within = [] := List.isEmpty_iff.mp k6
  refine ⟨vs, s₁, hlaid, wpAny_bind (wpAny_nsGet G₁.T.g (by rw [c1]; exact wpAny_bind (wpAny_mono h (fun v s' g => wpAny_pure ⟨_, rfl, have z := g.laid (c := r.toRowW.claim) hsame hwi hi Ld; ⟨z.1, z.2.1, z.2.2, fun q => ⟨namesKept_of hT hg _ keeps g.2.1.old, noTable hwr q⟩⟩⟩) fun e s' g => have z := g.laid (c := r.toRowW.claim) hsame hwi hi Ld; ⟨z.1, z.2.1, z.2.2, fun q => ⟨namesKept_of hT hg _ keeps g.2.1.old, noTable hwr q⟩⟩)))⟩
theorem hd (walk : WalkT qv loose (XL qv lv) hook.says row lawRec [] (fun f vs => PySem.call f vs)) : PySem.Challenge.rw_md0020_06.Holds := by
  o_law
  refine holdsT (r := PySem.Challenge.rw_md0020_06.row) (q := qv) (loose := loose) (Xt := Xt) (XP := XL qv lv) (Yf := hook.obs) (Ya := hook.val) (YP := hook.says) (d := lawRec) (kwd := []) (N := 4988) left hook.of hook.keeps (fun s e => xl_of s (Bool.and_eq_true_iff.mp e).1) XL.keeps ?h1 ?h2 ?h3 (fun s e => recFacts_of (Bool.and_eq_true_iff.mp e).2) rfl (by assumption) ?h4 ⟨rfl, rfl, rfl, rfl, rfl, by decide +kernel⟩ ?hw walk
  case h1 => kernel_rfl!
  case h2 => kernel_rfl!
  case h3 => kernel_rfl!
  case h4 => kernel_rfl!
  case hw => w_witness2
end
/-! addresses -/
abbrev C : Nat := 296
abbrev NB : Nat := 361
abbrev fNew : Nat := 71
abbrev fLen : Nat := 78
abbrev fGetitem : Nat := 85
abbrev fFill : Nat := 169
abbrev fTolist : Nat := 176
abbrev fSet : Nat := 190
abbrev fDoSet : Nat := 197
abbrev fNodeFor : Nat := 204
abbrev fNewRoot : Nat := 214
abbrev fAppend : Nat := 221
abbrev fInsTail : Nat := 235
abbrev fFillTail : Nat := 242
abbrev fMutExt : Nat := 249
abbrev fExtend : Nat := 256
abbrev fPush : Nat := 263
abbrev fDelete : Nat := 285
abbrev aEmpty : Nat := 311
abbrev fPvector : Nat := 320
abbrev sCount : Nat := 298
abbrev sRoot : Nat := 299
abbrev sShift : Nat := 300
abbrev sTail : Nat := 301
abbrev sOff : Nat := 302

abbrev fEq : Nat := 127
abbrev fNe : Nat := 120
abbrev fIter : Nat := 113
abbrev fCompare : Nat := 54
abbrev fPath : Nat := 327
abbrev fPut : Nat := 334
abbrev fPutPlain : Nat := 341
abbrev fShared : Nat := 348
abbrev fPlain : Nat := 353
abbrev fGrown : Nat := 360

abbrev Sub (h h' : Heap) : Prop := ∀ b o, h.get? b = some o → h'.get? b = some o
theorem ltS {h : Heap} {a : Nat} {o : Obj} (e : h.get? a = some o) : a < h.objs.size := Heap.lt_size e
/-- the ground: the written part and the namespaces -/
structure Gr (w : World) (mg mb : Str → Option Value) (h : Heap) : Prop where
  X : (K w.params).In h
  g : h.Ns mainGlobals mg
  b : h.Ns builtinsNs mb
  lim : h.NoLimit
  bt : ∀ x : Str, x ≠ "__name__" → mb x = bootBuiltins x
theorem kLow : ∀ P, ((K P).all fun p => Nat.blt p.1 NB) = true := fun P => by kernel_rfl!
theorem lookup_mem {K : Frag} {a : Nat} {o : Obj} (e : K.lookup a = some o) : (a, o) ∈ K := by
  induction K with
  | nil => cases e
  | cons p r ih =>
    obtain ⟨b, x⟩ := p
    simp only [List.lookup] at e
    split at e
    · rename_i q; cases e; rw [beq_iff_eq.mp q]; exact .head _
    · exact .tail _ (ih e)
theorem Gr.low {w : World} {mg mb : Str → Option Value} {h h' : Heap} (G : Gr w mg mb h) (k : ∀ b o, b < NB → h.get? b = some o → h'.get? b = some o) : Gr w mg mb h' where
  X := fun a o e => k a o (Nat.le_of_ble_eq_true (List.all_eq_true.mp (kLow w.params) _ (lookup_mem e))) (G.X a o e)
  g := let ⟨o, es, ep, ho, r⟩ := G.g; ⟨o, es, ep, k _ _ (by decide) ho, r⟩
  b := let ⟨o, es, ep, ho, r⟩ := G.b; ⟨o, es, ep, k _ _ (by decide) ho, r⟩
  lim := G.lim.at fun o ho => k _ _ (by decide) ho
  bt := G.bt
theorem Gr.sub {w : World} {mg mb : Str → Option Value} {h h' : Heap} (G : Gr w mg mb h) (k : Sub h h') : Gr w mg mb h' := G.low fun b o _ e => k b o e
theorem Gr.size {w : World} {mg mb : Str → Option Value} {h : Heap} (G : Gr w mg mb h) : NB ≤ h.objs.size :=
  Heap.lt_size (G.X fGrown _ (by rfl))
theorem Gr.ofTop {w : World} {mg mb : Str → Option Value} {p : Program} {ls : List Str} {h : Heap} (X : (K w.params).In h) (T : TopRead p ls mg mb h) : Gr w mg mb h := ⟨X, T.g, T.b, T.nolimit, T.builtins⟩

/-- a frame: what is known for good (P), the names (m), what is one's own and may turn (own) -/
structure Fm (w : World) (mg mb : Str → Option Value) (P : Nat → Obj → Prop) (L : Nat) (h : Heap) (m : Str → Option Value) (own : List (Nat × Obj)) : Prop where
  G : Gr w mg mb h
  ns : h.Ns L m
  lo : NB ≤ L
  off : ∀ a o, P a o → a ≠ L
  keep : ∀ a o, P a o → h.get? a = some o
  own : ∀ p ∈ own, h.get? p.1 = some p.2 ∧ p.1 ≠ L ∧ NB ≤ p.1 ∧ ∀ o', ¬ P p.1 o'

section
variable {w : World} {mg mb : Str → Option Value} {P P' : Nat → Obj → Prop} {L : Nat} {h h' : Heap} {m m' : Str → Option Value} {own : List (Nat × Obj)} {a : Nat} {o o' : Obj}
theorem Fm.ltL (F : Fm w mg mb P L h m own) : L < h.objs.size := F.ns.lt
theorem Fm.set (F : Fm w mg mb P L h m own) (hn : h'.Ns L m') (hs : Heap.SameBut L h h') : Fm w mg mb P L h' m' own where
  G := F.G.low fun b o l e => (hs.2 b (Nat.ne_of_lt (Nat.lt_of_lt_of_le l F.lo))).trans e
  ns := hn
  lo := F.lo
  off := F.off
  keep := fun a o p => (hs.2 a (F.off a o p)).trans (F.keep a o p)
  own := fun p hp => let ⟨a1, a2, a3⟩ := F.own p hp; ⟨(hs.2 p.1 a2).trans a1, a2, a3⟩
theorem Fm.alloc (F : Fm w mg mb P L h m own) (o : Obj) (hf : o.isFreed = false := by rfl) : Fm w mg mb P L (h.push o) m ((h.objs.size, o) :: own) where
  G := F.G.sub fun b o e => Heap.get?_push_of_some _ e
  ns := let ⟨o, es, ep, ho, r⟩ := F.ns; ⟨o, es, ep, Heap.get?_push_of_some _ ho, r⟩
  lo := F.lo
  off := F.off
  keep := fun a o p => Heap.get?_push_of_some _ (F.keep a o p)
  own := fun p hp => by
    rcases List.mem_cons.mp hp with rfl | hp
    · exact ⟨Heap.get?_push_size _ hf, Nat.ne_of_gt F.ltL, F.G.size, fun o' q => absurd (Heap.lt_size (F.keep _ _ q)) (Nat.lt_irrefl _)⟩
    · exact let ⟨a1, a2⟩ := F.own p hp; ⟨Heap.get?_push_of_some _ a1, a2⟩
/-- one more known -/
abbrev Add (P : Nat → Obj → Prop) (a : Nat) (o : Obj) : Nat → Obj → Prop := fun b x => P b x ∨ (b = a ∧ x = o)
theorem Fm.freeze (F : Fm w mg mb P L h m ((a, o) :: own)) (hne : ∀ p ∈ own, p.1 ≠ a) : Fm w mg mb (Add P a o) L h m own where
  G := F.G
  ns := F.ns
  lo := F.lo
  off := fun b x q => q.elim (F.off b x) fun e => e.1 ▸ (F.own _ (.head _)).2.1
  keep := fun b x q => q.elim (F.keep b x) fun e => by rw [e.1, e.2]; exact (F.own _ (.head _)).1
  own := fun p hp => let ⟨a1, a2, a3, a4⟩ := F.own p (.tail _ hp); ⟨a1, a2, a3, fun o' q => q.elim (a4 o') fun e => hne p hp e.1⟩
theorem Fm.drop (F : Fm w mg mb P L h m own) {own' : List (Nat × Obj)} (hs : ∀ p ∈ own', p ∈ own) : Fm w mg mb P L h m own' :=
  ⟨F.G, F.ns, F.lo, F.off, F.keep, fun p hp => F.own p (hs p hp)⟩
/-- an own thing turned -/
theorem Fm.upd (F : Fm w mg mb P L h m ((a, o) :: own)) {f : Obj → Obj} (e : f o = o') (hf : o'.isFreed = false) (hne : ∀ p ∈ own, p.1 ≠ a) : Fm w mg mb P L (h.update a f) m ((a, o') :: own) where
  G := F.G.low fun b x l q => (Heap.get?_update_ne _ _ _ _ (Nat.ne_of_lt (Nat.lt_of_lt_of_le l (F.own _ (.head _)).2.2.1))).trans q
  ns := let ⟨x, es, ep, ho, r⟩ := F.ns; ⟨x, es, ep, (Heap.get?_update_ne _ _ _ _ (Ne.symm (F.own _ (.head _)).2.1)).trans ho, r⟩
  lo := F.lo
  off := F.off
  keep := fun b x q => (Heap.get?_update_ne _ _ _ _ fun z => (F.own _ (.head _)).2.2.2 x (by subst z; exact q)).trans (F.keep b x q)
  own := fun p hp => by
    rcases List.mem_cons.mp hp with rfl | hp
    · exact ⟨e ▸ Heap.get?_update_self _ (F.own _ (.head _)).1 (e ▸ hf), (F.own _ (.head _)).2⟩
    · exact let ⟨a1, a2⟩ := F.own p (.tail _ hp); ⟨(Heap.get?_update_ne _ _ _ _ (hne p hp)).trans a1, a2⟩
/-- an own thing turned, told by what stays -/
theorem Fm.turn (F : Fm w mg mb P L h m ((a, o) :: own)) (hs : Heap.SameBut a h h') (ho : h'.get? a = some o') (hne : ∀ p ∈ own, p.1 ≠ a) : Fm w mg mb P L h' m ((a, o') :: own) where
  G := F.G.low fun b x l q => (hs.2 b (Nat.ne_of_lt (Nat.lt_of_lt_of_le l (F.own _ (.head _)).2.2.1))).trans q
  ns := let ⟨x, es, ep, hx, r⟩ := F.ns; ⟨x, es, ep, (hs.2 L (Ne.symm (F.own _ (.head _)).2.1)).trans hx, r⟩
  lo := F.lo
  off := F.off
  keep := fun b x q => (hs.2 b fun z => (F.own _ (.head _)).2.2.2 x (by subst z; exact q)).trans (F.keep b x q)
  own := fun p hp => by
    rcases List.mem_cons.mp hp with rfl | hp
    · exact ⟨ho, (F.own _ (.head _)).2⟩
    · exact let ⟨a1, a2⟩ := F.own p (.tail _ hp); ⟨(hs.2 p.1 (hne p hp)).trans a1, a2⟩
/-- something made at the heap's end -/
theorem Fm.made (F : Fm w mg mb P L h m own) (k : Sub h h') (ho : h'.get? h.objs.size = some o) : Fm w mg mb P L h' m ((h.objs.size, o) :: own) where
  G := F.G.sub k
  ns := let ⟨x, es, ep, hx, r⟩ := F.ns; ⟨x, es, ep, k _ _ hx, r⟩
  lo := F.lo
  off := F.off
  keep := fun a o p => k _ _ (F.keep a o p)
  own := fun p hp => by
    rcases List.mem_cons.mp hp with rfl | hp
    · exact ⟨ho, Nat.ne_of_gt F.ltL, F.G.size, fun o' q => absurd (Heap.lt_size (F.keep _ _ q)) (Nat.lt_irrefl _)⟩
    · exact let ⟨a1, a2⟩ := F.own p hp; ⟨k _ _ a1, a2⟩
theorem Fm.madeAt (F : Fm w mg mb P L h m own) (k : Sub h h') (ho : h'.get? a = some o) (la : h.objs.size ≤ a) : Fm w mg mb P L h' m ((a, o) :: own) where
  G := F.G.sub k
  ns := let ⟨x, es, ep, hx, r⟩ := F.ns; ⟨x, es, ep, k _ _ hx, r⟩
  lo := F.lo
  off := F.off
  keep := fun a o p => k _ _ (F.keep a o p)
  own := fun p hp => by
    rcases List.mem_cons.mp hp with rfl | hp
    · exact ⟨ho, Nat.ne_of_gt (Nat.lt_of_lt_of_le F.ltL la), Nat.le_trans F.G.size la, fun o' q => absurd (Heap.lt_size (F.keep _ _ q)) (Nat.not_lt.mpr la)⟩
    · exact let ⟨a1, a2⟩ := F.own p hp; ⟨k _ _ a1, a2⟩
theorem Fm.apart (F : Fm w mg mb P L h m own) (la : h.objs.size ≤ a) : ∀ p ∈ own, p.1 ≠ a := fun p hp e => absurd (Heap.lt_size (F.own p hp).1) (by rw [e]; exact Nat.not_lt.mpr la)
theorem Fm.above (F : Fm w mg mb P L h m own) (la : h.objs.size ≤ a) : L < a := Nat.lt_of_lt_of_le F.ltL la
theorem Fm.fresh (F : Fm w mg mb P L h m own) : L < h.objs.size ∧ ∀ p ∈ own, p.1 ≠ h.objs.size := ⟨F.ltL, fun p hp e => absurd (Heap.lt_size (F.own p hp).1) (by rw [e]; exact Nat.lt_irrefl _)⟩
theorem Fm.kept (F : Fm w mg mb P L h m own) (k : Sub h h') : Fm w mg mb P L h' m own :=
  ⟨F.G.sub k, let ⟨x, es, ep, hx, r⟩ := F.ns; ⟨x, es, ep, k _ _ hx, r⟩, F.lo, F.off, fun a o p => k _ _ (F.keep a o p), fun p hp => let ⟨a1, a2⟩ := F.own p hp; ⟨k _ _ a1, a2⟩⟩
theorem Fm.get (F : Fm w mg mb P L h m own) (q : P a o) : h.get? a = some o := F.keep a o q
theorem Fm.ownAt (F : Fm w mg mb P L h m own) (q : (a, o) ∈ own) : h.get? a = some o := (F.own _ q).1
/-- what a call hands on: more is known, all of it stands, what is new lies above -/
structure Ge (P P' : Nat → Obj → Prop) (h h' : Heap) : Prop where
  mono : ∀ a o, P a o → P' a o
  new : ∀ a o, P' a o → P a o ∨ h.objs.size ≤ a
  at_ : ∀ a o, P' a o → h'.get? a = some o
/-- behind a call that keeps all -/
theorem Fm.behind (F : Fm w mg mb P L h m own) (k : Sub h h') (g : Ge P P' h h') : Fm w mg mb P' L h' m own where
  G := F.G.sub k
  ns := let ⟨x, es, ep, ho, r⟩ := F.ns; ⟨x, es, ep, k _ _ ho, r⟩
  lo := F.lo
  off := fun a o q => (g.new a o q).elim (F.off a o) fun l => Nat.ne_of_gt (Nat.lt_of_lt_of_le F.ltL l)
  keep := g.at_
  own := fun p hp => let ⟨a1, a2, a3, a4⟩ := F.own p hp; ⟨k _ _ a1, a2, a3, fun o' q => (g.new _ o' q).elim (a4 o') fun l => absurd (Heap.lt_size a1) (Nat.not_lt.mpr l)⟩
end

/-! lists -/
abbrev listObj (xs : List Value) (n : Nat) : Obj := { cls := .type "list", data := .seq xs.toArray n }
abbrev PL (P : Nat → Obj → Prop) (l : Nat) (xs : List Value) : Prop := ∃ n, P l (listObj xs n)
theorem PL.isList {P : Nat → Obj → Prop} {h : Heap} {l : Nat} {xs : List Value} (x : PL P l xs) (k : ∀ a o, P a o → h.get? a = some o) : h.IsList l xs.toArray := let ⟨n, q⟩ := x; ⟨_, k _ _ q, rfl, n, rfl⟩
theorem isList_at {h : Heap} {l : Nat} {xs : List Value} {n : Nat} (e : h.get? l = some (listObj xs n)) : h.IsList l xs.toArray := ⟨_, e, rfl, n, rfl⟩

/-! the vectors -/
abbrev vecObj (d : Nat) (c : Int) (tc : Tok) (r : Nat) (sh : Int) (ts : Tok) (t : Nat) (f : Int) (tf : Tok) : Obj :=
  ⟨.ref C, some d, .plain, #[some (.int c tc), some (.ref r), some (.int sh ts), some (.ref t), some (.int f tf)]⟩
def Leaves (P : Nat → Obj → Prop) : List Nat → List (List Value) → Prop
  | [], [] => True
  | a :: as, l :: ls => PL P a l ∧ l.length = 32 ∧ Leaves P as ls
  | _, _ => False
theorem Leaves.mono {P P' : Nat → Obj → Prop} (k : ∀ a o, P a o → P' a o) : ∀ {as : List Nat} {ls : List (List Value)}, Leaves P as ls → Leaves P' as ls
  | [], [], _ => trivial
  | _ :: _, _ :: _, ⟨⟨n, q⟩, e, r⟩ => ⟨⟨n, k _ _ q⟩, e, Leaves.mono k r⟩
  | [], _ :: _, h => h.elim
  | _ :: _, [], h => h.elim
/-- a vector's make: its parts, told -/
structure VecOf (P : Nat → Obj → Prop) (d r : Nat) (as : List Nat) (ls : List (List Value)) : Prop where
  dict : P d (dictOf [] 0)
  root : PL P r (as.map .ref)
  leaves : Leaves P as ls
theorem VecOf.mono {P P' : Nat → Obj → Prop} (k : ∀ a o, P a o → P' a o) {d r : Nat} {as : List Nat} {ls : List (List Value)} (x : VecOf P d r as ls) : VecOf P' d r as ls :=
  ⟨k _ _ x.dict, let ⟨n, q⟩ := x.root; ⟨n, k _ _ q⟩, x.leaves.mono k⟩
def Vec (P : Nat → Obj → Prop) (v : Nat) (xs : List Value) : Prop := ∃ (d r t : Nat) (tc ts tf : Tok) (as : List Nat) (ls : List (List Value)) (tl : List Value),
  P v (vecObj d xs.length tc r 5 ts t (xs.length - tl.length : Nat) tf) ∧ VecOf P d r as ls ∧ PL P t tl ∧ tl.length ≤ 32 ∧ xs = ls.flatten ++ tl
theorem Vec.mono {P P' : Nat → Obj → Prop} (k : ∀ a o, P a o → P' a o) {v : Nat} {xs : List Value} (x : Vec P v xs) : Vec P' v xs :=
  let ⟨d, r, t, tc, ts, tf, as, ls, tl, a1, a2, ⟨n, a3⟩, a4, a5⟩ := x
  ⟨d, r, t, tc, ts, tf, as, ls, tl, k _ _ a1, a2.mono k, ⟨n, k _ _ a3⟩, a4, a5⟩

/-! the steps -/
section
variable {w : World} {mg mb : Str → Option Value} {P P' : Nat → Obj → Prop} {L a : Nat} {m m' : Str → Option Value} {own : List (Nat × Obj)} {A : Around} {E : Value → Shared → Prop} {s : Shared} {env : Env}
theorem nmL {M : Model} {x : Str} {pos : Pos} {v : Value} {Q : Value → Shared → Prop} (F : Fm w mg mb P L s.heap m own) (hv : m x = some v) (h : Q v s)
    (hL : env.locals = L := by rfl) (hk : env.scope.kind = .function := by rfl) (hl : env.kindOf x = some .local := by rfl) (hd : (x == ("__debug__" : Str)) = false := by decide) :
    wpAny M A (eval (.Name x pos) env) Q E s := wpAny_Name (wpAny_loadName_local hk hl (by rw [hL]; exact F.ns) hv h) hd
theorem lnL {M : Model} {x : Str} {v : Value} {Q : Value → Shared → Prop} (F : Fm w mg mb P L s.heap m own) (hv : m x = some v) (h : Q v s)
    (hL : env.locals = L := by rfl) (hk : env.scope.kind = .function := by rfl) (hl : env.kindOf x = some .local := by rfl) :
    wpAny M A (loadName env x) Q E s := wpAny_loadName_local hk hl (by rw [hL]; exact F.ns) hv h
theorem nmG {M : Model} {x : Str} {pos : Pos} {v : Value} {Q : Value → Shared → Prop} (F : Fm w mg mb P L s.heap m own) (hv : nsIn (K w.params) mainGlobals x = some (some v)) (h : Q v s)
    (hG : env.globals = mainGlobals := by rfl) (hk : env.scope.kind = .function := by rfl) (hl : env.kindOf x = some .globalImplicit := by rfl) (hd : (x == ("__debug__" : Str)) = false := by decide) :
    wpAny M A (eval (.Name x pos) env) Q E s :=
  Calls.Name_function_global hk hl (Calls.loadGlobal_global (env := env) (by rw [hG]; exact F.G.g) (mg_of F.G.X F.G.g hv) h) hd
theorem nmB {M : Model} {x : Str} {pos : Pos} {v : Value} {Q : Value → Shared → Prop} (F : Fm w mg mb P L s.heap m own) (hm : nsIn (K w.params) mainGlobals x = some none) (hv : bootBuiltins x = some v) (hn : x ≠ "__name__") (h : Q v s)
    (hG : env.globals = mainGlobals := by rfl) (hB : env.builtins = builtinsNs := by rfl) (hk : env.scope.kind = .function := by rfl) (hl : env.kindOf x = some .globalImplicit := by rfl) (hd : (x == ("__debug__" : Str)) = false := by decide) :
    wpAny M A (eval (.Name x pos) env) Q E s :=
  Calls.Name_function_global hk hl (Calls.loadGlobal_builtin (env := env) (by rw [hG]; exact F.G.g) (mg_none_of F.G.X F.G.g hm) (by rw [hB]; exact F.G.b) ((F.G.bt x hn).trans hv) h) hd
theorem stL {M : Model} {x : Str} {v : Value} {Q : Unit → Shared → Prop} (F : Fm w mg mb P L s.heap m own)
    (h : ∀ h', Fm w mg mb P L h' (fun y => if y = x then some v else m y) own → Q () { s with heap := h', toks := s.toks + 1 })
    (hL : env.locals = L := by rfl) (hk : env.scope.kind = .function := by rfl) (hl : env.kindOf x = some .local := by rfl) :
    wpAny M A (storeName env x v) Q E s := by
  subst hL
  exact wpAny_storeName_local hl F.ns (fun h' hn hs => h h' (F.set hn hs)) (by rw [hk]; rfl)
theorem newL {M : Model} {vs : List Value} {Q : Value → Shared → Prop} (F : Fm w mg mb P L s.heap m own)
    (h : ∀ l h', Fm w mg mb P L h' m ((l, listObj vs 0) :: own) → L < l → (∀ p ∈ own, p.1 ≠ l) → Q (.ref l) { s with heap := h' }) (hsz : vs.length ≤ sizeLine := by size_fits) :
    wpAny M A (newList vs) Q E s :=
  wpAny_newObj_type (h _ _ (F.alloc _) F.ltL fun p hp e => absurd (Heap.lt_size (F.own p hp).1) (by rw [e]; exact Nat.lt_irrefl _)) (by show vs.toArray.size ≤ sizeLine; rw [List.size_toArray]; exact hsz)
theorem newT {M : Model} {vs : List Value} {Q : Value → Shared → Prop} (F : Fm w mg mb P L s.heap m own)
    (h : ∀ l h', Fm w mg mb P L h' m ((l, { cls := .type "tuple", data := .seq vs.toArray }) :: own) → L < l → (∀ p ∈ own, p.1 ≠ l) → Q (.ref l) { s with heap := h' }) (hsz : vs.length ≤ sizeLine := by size_fits) :
    wpAny M A (newTuple vs) Q E s :=
  wpAny_newObj_type (h _ _ (F.alloc _) F.ltL fun p hp e => absurd (Heap.lt_size (F.own p hp).1) (by rw [e]; exact Nat.lt_irrefl _)) (by show vs.toArray.size ≤ sizeLine; rw [List.size_toArray]; exact hsz)
end

/-! the text's own class: fields and methods -/
theorem kc_plain (P : Params) (nm : Str) : plainGet (K P) C nm = true := by
  unfold plainGet
  rw [show findIn (K P) (.ref C) "__getattribute__" = some (some (.builtin "object.__getattribute__")) by kernel_rfl!, show findIn (K P) (.ref C) "__getattr__" = some none by kernel_rfl!]
  rfl
theorem kc_cls (P : Params) : isClsIn (K P) C = true := by kernel_rfl!
theorem ga {w : World} {mg mb : Str → Option Value} {A : Around} {E Q : Value → Shared → Prop} {s : Shared} {x d p : Nat} {sl : Array (Option Value)} {name : Str} {i : Nat} {v : Value} {ex : Bool}
    (G : Gr w mg mb s.heap) (hx : s.heap.get? x = some ⟨.ref C, some d, .plain, sl⟩) (hd : s.heap.get? d = some (dictOf [] 0)) (ha : findIn (K w.params) (.ref C) name = some (some (.ref p)))
    (hn : specialIn (K w.params) (.ref p) "__get__" = some (some (.builtin "member_descriptor.__get__"))) (ht : takesIn (K w.params) (.ref p) = some true) (hp : slotIn (K w.params) p C = some i)
    (hv : (sl[i]?).join = some v) (hh : handedIn v = true) (h : Q v { s with toks := s.toks + 1 }) : wpAny (model prog w) A (getAttr (.ref x) name ex) Q E s :=
  have I : InstAt s.heap x ⟨.ref C, some d, .plain, sl⟩ C (some (dictOf [] 0)) := ⟨hx, rfl, rfl, hd⟩
  get_bind G.X I (plainGet_of (kc_plain _ name)).1 (findObj_data (kc_cls _) ha hn ht) (plainGet_of (kc_plain _ name)).2 (wpAny_call (slot_get (s := { s with toks := s.toks + 1 }) G.X I hp hv (handed_on hh h)))
theorem sub0 {own : List (Nat × Obj)} : ∀ p ∈ ([] : List (Nat × Obj)), p ∈ own := fun _ h => nomatch h
theorem sub1 {own r : List (Nat × Obj)} {a : Nat × Obj} (h : a ∈ own) (t : ∀ p ∈ r, p ∈ own) : ∀ p ∈ a :: r, p ∈ own := fun p hp => (List.mem_cons.mp hp).elim (fun e => e ▸ h) (t p)
theorem apart0 {x : Nat} : ∀ p ∈ ([] : List (Nat × Obj)), p.1 ≠ x := fun _ h => nomatch h
theorem apart1 {x b : Nat} {o : Obj} {r : List (Nat × Obj)} (h : b ≠ x) (t : ∀ p ∈ r, p.1 ≠ x) : ∀ p ∈ (b, o) :: r, p.1 ≠ x := fun p hp => (List.mem_cons.mp hp).elim (fun e => e ▸ h) (t p)
theorem apartSub {x : Nat} {own r : List (Nat × Obj)} (n : ∀ p ∈ own, p.1 ≠ x) (s : ∀ p ∈ r, p ∈ own) : ∀ p ∈ r, p.1 ≠ x := fun p hp => n p (s p hp)
theorem after0 {h' : Heap} {l : List Nat} {n : Nat} : ∀ p ∈ ([] : List (Nat × Obj)), h'.get? p.1 = some p.2 ∧ (p.1 ∈ l ∨ n ≤ p.1) := fun _ h => nomatch h
theorem after1 {h' : Heap} {l : List Nat} {n b : Nat} {o : Obj} {r : List (Nat × Obj)} (h : h'.get? b = some o ∧ (b ∈ l ∨ n ≤ b)) (t : ∀ p ∈ r, h'.get? p.1 = some p.2 ∧ (p.1 ∈ l ∨ n ≤ p.1)) : ∀ p ∈ (b, o) :: r, h'.get? p.1 = some p.2 ∧ (p.1 ∈ l ∨ n ≤ p.1) := fun p hp => (List.mem_cons.mp hp).elim (fun e => e ▸ h) (t p)
theorem q12 (L : Nat) : L + 1 ≠ L + 2 := by omega
theorem q13 (L : Nat) : L + 1 ≠ L + 3 := by omega
theorem q23 (L : Nat) : L + 2 ≠ L + 3 := by omega
section
open PySem PySem.W PyProof.Rows PySem.Calls Builtin Builtin.ObjectAttr Builtin.Getset_descriptor
section
variable {prog : Program} {w : World} {A : Around} {R : Result → Shared → Prop} {s : Shared} {K : Frag} {x C : Nat}
theorem slotSet {ox : Obj} {od : Option Obj} {v : Value} {p i : Nat} (X : K.In s.heap) (I : InstAt s.heap x ox C od)
    (hp : slotIn K p C = some i) (hi : i < 1000)
    (h : R (.ok (.ret .none)) { s with heap := s.heap.update x (fun o => { o with slots := (o.slots ++ Array.replicate (i + 1 - o.slots.size) none).setIfInBounds i (some v) }) }) :
    codeAny (model prog w) A (.call (.builtin "member_descriptor.__set__") ⟨[.ref p, .ref x, v], []⟩) R s := by
  obtain ⟨n, tn, owner, behind, tb, d, sl, cd, ho, hc, hm, hb, rfl⟩ := slot_of X hp
  obtain ⟨hh, g, dr, t, os⟩ := s
  have L0 := I.type (M := model prog w)
  have L1 := looks_mroIn (M := model prog w) X hm
  have L2 : Looks (model prog w) hh (Slots.slotNamesOf (.ref C)) cd.slotNames := (looks_clsIn X hc).andThen .now
  have hx := I.at_
  dsimp only at ho hx L0 L1
  have f0 := looks_field (M := model prog w) ho 0 (v := .str n tn) rfl
  have f1 := looks_field (M := model prog w) ho 1 (v := owner) rfl
  have f3 := looks_field (M := model prog w) ho 3 (v := .builtin "proto.slot#set") rfl
  have f4 := looks_field (M := model prog w) ho 4 (v := .int behind tb) rfl
  refine codeAny_call_builtin KF.slot_mset.plain KF.entry_mset (KF.slot_mset.check _ _ _ _ _ _ _ _ ⟨_, ho, rfl⟩ (KF.args_mset _ _ _) ?_)
  unfold Builtin.«member_descriptor.__set__» descrSet descrStoreThrough descrCheckInstance descrNameAndClass isInstance
  have f5 : Looks (model prog w) hh (descrItself (.ref p)) [.ref p] := ((Looks.ld (part := none) ho).andThen .now).andThen (Looks.of_pure (by kernel_rfl))
  repeat lk
  refine ⟨Code.quiet_builtin _ (by decide +kernel), codeAny_builtin KF.entry_slotset ?_⟩
  unfold Builtin.«proto.slot#set» Slots.target
  repeat lk
  rw [if_neg hb]
  refine wpAny_pure (wpAny_bind ?_)
  unfold setSlotAt
  dsimp only
  rw [if_neg (by rw [sizeLine_eq]; omega)]
  exact wpAny_updatePart hx (wpAny_pure h)
end
theorem kc_over (P : Params) : plainOver (K P) C = true := by kernel_rfl!
theorem kc_setattr (P : Params) : findIn (K P) (.ref C) "__setattr__" = some (some (.builtin "object.__setattr__")) := by kernel_rfl!
theorem sa {w : World} {mg mb : Str → Option Value} {P : Nat → Obj → Prop} {L : Nat} {m : Str → Option Value} {own : List (Nat × Obj)} {A : Around} {E : Value → Shared → Prop} {Q : Unit → Shared → Prop} {s : Shared} {x d p : Nat} {sl sl' : Array (Option Value)} {name : Str} {i : Nat} {v : Value}
    (F : Fm w mg mb P L s.heap m ((x, ⟨.ref C, some d, .plain, sl⟩) :: own)) (hne : ∀ p ∈ own, p.1 ≠ x) (hd : s.heap.get? d = some (dictOf [] 0)) (ht : takerIn (K w.params) C name = some (some (.ref p))) (hT : typeIn (K w.params) (.ref p) = some (.type "member_descriptor"))
    (hi : slotIn (K w.params) p C = some i) (hz : i < 1000) (e : (sl ++ Array.replicate (i + 1 - sl.size) none).setIfInBounds i (some v) = sl')
    (h : ∀ h', Fm w mg mb P L h' m ((x, ⟨.ref C, some d, .plain, sl'⟩) :: own) → Q () { s with heap := h', toks := s.toks + 1 }) : wpAny (model prog w) A (setAttr (.ref x) name v) Q E s := by
  have hx := (F.own _ (.head _)).1
  have I : InstAt s.heap x ⟨.ref C, some d, .plain, sl⟩ C (some (dictOf [] 0)) := ⟨hx, rfl, rfl, hd⟩
  refine set_plain F.G.X I (kc_setattr _) (osa_descr (s := { s with toks := s.toks + 1 }) KF.slot_mset F.G.X I (kc_over _) ht hT (slotSet (s := { s with toks := s.toks + 1 }) F.G.X I hi hz ?_))
  exact h _ (F.upd (f := fun o => { o with slots := (o.slots ++ Array.replicate (i + 1 - o.slots.size) none).setIfInBounds i (some v) }) (by rw [← e]) rfl hne)
section
variable {w : World} {mg mb : Str → Option Value} {A : Around} {E Q : Value → Shared → Prop} {s : Shared} {x d : Nat} {c : Int} {tc : Tok} {r : Nat} {sh : Int} {ts : Tok} {t : Nat} {f : Int} {tf : Tok} {ex : Bool}
theorem ga_count (G : Gr w mg mb s.heap) (hx : s.heap.get? x = some (vecObj d c tc r sh ts t f tf)) (hd : s.heap.get? d = some (dictOf [] 0)) (h : Q (.int c tc) { s with toks := s.toks + 1 }) : wpAny (model prog w) A (getAttr (.ref x) "_count" ex) Q E s :=
  ga (p := sCount) (i := 0) G hx hd (by kernel_rfl!) (by kernel_rfl!) (by kernel_rfl!) (by kernel_rfl!) rfl rfl h
theorem ga_root (G : Gr w mg mb s.heap) (hx : s.heap.get? x = some (vecObj d c tc r sh ts t f tf)) (hd : s.heap.get? d = some (dictOf [] 0)) (h : Q (.ref r) { s with toks := s.toks + 1 }) : wpAny (model prog w) A (getAttr (.ref x) "_root" ex) Q E s :=
  ga (p := sRoot) (i := 1) G hx hd (by kernel_rfl!) (by kernel_rfl!) (by kernel_rfl!) (by kernel_rfl!) rfl rfl h
theorem ga_shift (G : Gr w mg mb s.heap) (hx : s.heap.get? x = some (vecObj d c tc r sh ts t f tf)) (hd : s.heap.get? d = some (dictOf [] 0)) (h : Q (.int sh ts) { s with toks := s.toks + 1 }) : wpAny (model prog w) A (getAttr (.ref x) "_shift" ex) Q E s :=
  ga (p := sShift) (i := 2) G hx hd (by kernel_rfl!) (by kernel_rfl!) (by kernel_rfl!) (by kernel_rfl!) rfl rfl h
theorem ga_tail (G : Gr w mg mb s.heap) (hx : s.heap.get? x = some (vecObj d c tc r sh ts t f tf)) (hd : s.heap.get? d = some (dictOf [] 0)) (h : Q (.ref t) { s with toks := s.toks + 1 }) : wpAny (model prog w) A (getAttr (.ref x) "_tail" ex) Q E s :=
  ga (p := sTail) (i := 3) G hx hd (by kernel_rfl!) (by kernel_rfl!) (by kernel_rfl!) (by kernel_rfl!) rfl rfl h
theorem ga_off (G : Gr w mg mb s.heap) (hx : s.heap.get? x = some (vecObj d c tc r sh ts t f tf)) (hd : s.heap.get? d = some (dictOf [] 0)) (h : Q (.int f tf) { s with toks := s.toks + 1 }) : wpAny (model prog w) A (getAttr (.ref x) "_tail_offset" ex) Q E s :=
  ga (p := sOff) (i := 4) G hx hd (by kernel_rfl!) (by kernel_rfl!) (by kernel_rfl!) (by kernel_rfl!) rfl rfl h
end
/-- a method of the class's, looked up at a vector -/
theorem gm {w : World} {mg mb : Str → Option Value} {A : Around} {E : Value → Shared → Prop} {s : Shared} {x d fn : Nat} {sl : Array (Option Value)} {name : Str} {pl : Sem Bool} {Q : Value × List Value → Shared → Prop}
    (G : Gr w mg mb s.heap) (hx : s.heap.get? x = some ⟨.ref C, some d, .plain, sl⟩) (hd : s.heap.get? d = some (dictOf [] 0)) (hf : findIn (K w.params) (.ref C) name = some (some (.ref fn))) (ht : typeIn (K w.params) (.ref fn) = some (.type "function"))
    (h : Q (.ref fn, [.ref x]) s) : wpAny (model prog w) A (getMethod (.ref x) name pl) Q E s :=
  have I : InstAt s.heap x ⟨.ref C, some d, .plain, sl⟩ C (some (dictOf [] 0)) := ⟨hx, rfl, rfl, hd⟩
  method_fn G.X I (plainGet_of (kc_plain _ name)).1 (plainGet_of (kc_plain _ name)).2 hf ht rfl h
end
section
open PySem PySem.W PyProof.Rows PySem.Calls Builtin
section
variable {w : World} {A : Around} {E : Value → Shared → Prop} {R : Result → Shared → Prop} {h : Heap} {g : Array GenState} {d : Drawn} {t : Nat} {os : OsState}
theorem clsAt {h : Heap} (X : (K w.params).In h) : ∃ oc od cd sl, h.get? C = some ⟨oc, od, .cls cd, sl⟩ ∧ cd.abstract = false ∧ cd.hasDel = false ∧ cd.mro = [.ref C, .type "object"] ∧ cd.hasDict = false := ⟨_, _, _, _, X C _ (by rfl), rfl, rfl, rfl, rfl⟩
theorem newObj0 (X : (K w.params).In h) (hq : R (.ok (.ret (.ref (h.objs.size + 1)))) ⟨(h.push emptyDict).push (instObj C h.objs.size), g, d, t, os⟩) :
    codeAny (model prog w) A (.call (.builtin "object.__new__") ⟨[.ref C], []⟩) R ⟨h, g, d, t, os⟩ := by
  have F := PySem.F.objNew
  obtain ⟨oc, od, cd, sl, hC, e1, e2, e3, e4⟩ := clsAt X
  have here : Looks (model prog w) h (Bind.madeHere "object.__new__" (.ref C)) () := Looks.of_peek X (by kernel_rfl!)
  have chk : Looks (model prog w) h (checkBuiltinCall "object.__new__" ⟨[.ref C], []⟩) () := Looks.of_peek X (by kernel_rfl!)
  refine codeAny_call_builtin_code (Code.quiet_builtin _ F.quiet) (chk.at ?_)
  refine codeAny_builtin F.entry ?_
  unfold Builtin.«object.__new__»
  have fin : ∀ A', wpAny (model prog w) A' (do
      let d ← if typeHasDict (.ref C) then some <$> alloc { cls := .type "dict", data := .dict #[] } else pure none
      ret (← newObj (.ref C) .plain d)) (fun fin s' => match fin with | .done f => R (.ok f) s' | .again c' => c'.quiet = true ∧ codeAny (model prog w) A c' R s') (fun e s' => R (.error e) s') ⟨h, g, d, t, os⟩ := by
    intro A'
    show wpAny _ _ ((alloc emptyDict >>= fun x => pure (some x)) >>= _) _ _ _
    refine wpAny_bind (wpAny_bind (wpAny_alloc (wpAny_pure (wpAny_bind ?_))))
    show wpAny _ _ (newObjAsIs _ _ _) _ _ _
    unfold newObjAsIs classHasDel
    refine wpAny_bind (wpAny_alloc (wpAny_bind (wpAny_bind (wpAny_load (Heap.get?_push_of_some _ (Heap.get?_push_of_some _ hC)) (wpAny_pure ?_)))))
    rw [e2]
    refine wpAny_pure (wpAny_pure ?_)
    show R _ _
    rw [Heap.size_push]
    exact hq
  repeat (first | simp only [e1, Bool.false_eq_true, if_false] | exact fin _ | lk)

theorem superCall {Q : Value → Shared → Prop} (X : (K w.params).In h)
    (hq : ∀ h', h'.get? h.objs.size = some { cls := .type "super", dict := none, data := .fields #[.ref C, .ref C, .ref C], slots := #[] } → Sub h h' → Q (.ref h.objs.size) ⟨h', g, d, t, os⟩) :
    wpAny (model prog w) A (call (.type "super") [.ref C, .ref C]) Q E ⟨h, g, d, t, os⟩ := by
  obtain ⟨oc, od, cd, sl, hD, e1, e2, e3, e4⟩ := clsAt X
  refine ks_callType_codesW (Q₁ := fun obj s₁ => obj = .ref h.objs.size ∧ s₁ = ⟨h.push { cls := .type "super", data := .fields #[.none, .none, .none] }, g, d, t, os⟩) PySem.F.ks_called_super (ks_wpAny_checkTypeCall_super hD rfl) PySem.F.ks_entry_super_init
    (ks_code_super_new _ _ ⟨rfl, rfl⟩) fun obj s₁ h₁ => ?_
  obtain ⟨rfl, rfl⟩ := h₁
  have up : ∀ y o, h.get? y = some o → (h.push { cls := .type "super", data := .fields #[.none, .none, .none] }).get? y = some o := fun y o e => Heap.get?_push_of_some _ e
  have hso : (h.push { cls := .type "super", data := .fields #[.none, .none, .none] }).get? h.objs.size = some { cls := .type "super", dict := none, data := .fields #[.none, .none, .none], slots := #[] } := Heap.get?_push_at rfl rfl
  have hD' := up _ _ hD
  have hsub : Looks (model prog w) h (isSubtype (.ref C) (.ref C)) true := Looks.of_peek X (by kernel_rfl!)
  have hsub' := hsub.keeps up
  refine ⟨⟨_, hso, rfl⟩, PySem.F.ks_initArgs_super _ _ _, ?_⟩
  unfold Builtin.«super.__init__» noKeywords
  repeat (first | (with_reducible refine ks_wpAny_isType_cls hD' rfl ?_) | (with_reducible refine Looks.at hsub' ?_) | (with_reducible refine ks_wpAny_super_set3 hso ?_) | wp_step)
  intro h' e k
  exact ⟨rfl, hq h' e fun y o ey => k y o (Nat.ne_of_lt (Heap.lt_size ey)) (up y o ey)⟩

theorem superGa {so : Nat} {tk : Tok} {Q : Fin → Shared → Prop} (X : (K w.params).In h)
    (hso : h.get? so = some { cls := .type "super", dict := none, data := .fields #[.ref C, .ref C, .ref C], slots := #[] }) (hq : Q (.done (.ret (.builtin "object.__new__"))) ⟨h, g, d, t, os⟩) :
    wpAny (model prog w) A (Builtin.«super.__getattribute__» ⟨[.ref so, .str "__new__" tk], []⟩) Q E ⟨h, g, d, t, os⟩ := by
  have hno : Looks (model prog w) h (opaqueClassAbove (.ref C)) none := looks_opaque X (by kernel_rfl!)
  have hC : Looks (model prog w) h (mroOf (.ref C)) [.ref C, .type "object"] := Looks.of_peek X (by kernel_rfl!)
  have hdt : ({ cls := .type "super", dict := none, data := .fields #[.ref C, .ref C, .ref C], slots := #[] } : Obj).data = .fields #[.ref C, .ref C, .ref C] := rfl
  have f0 : (#[.ref C, .ref C, .ref C] : Array Value)[0]? = some (.ref C) := rfl
  have f1 : (#[.ref C, .ref C, .ref C] : Array Value)[1]? = some (.ref C) := rfl
  have f2 : (#[.ref C, .ref C, .ref C] : Array Value)[2]? = some (.ref C) := rfl
  have hl : (([.ref C, .type "object"] : List Value).dropWhile (· != .ref C)).drop 1 = [.type "object"] := by kernel_rfl!
  have own : Looks (model prog w) h (classOwn (.type "object") "__new__") (some (.builtin "object.__new__")) := Looks.of_peek X (by kernel_rfl!)
  have ty : Looks (model prog w) h (typeOf (.builtin "object.__new__")) (.type "builtin_function_or_method") := Looks.of_peek X (by kernel_rfl!)
  have lk : Looks (model prog w) h (typeLookup (.type "builtin_function_or_method") "__get__") none := Looks.of_peek X (by kernel_rfl!)
  unfold Builtin.«super.__getattribute__»
  repeat (first
    | (with_reducible refine wpAny_field hso hdt f0 ?_) | (with_reducible refine wpAny_field hso hdt f1 ?_) | (with_reducible refine wpAny_field hso hdt f2 ?_)
    | (with_reducible refine ks_wpAny_notOpaque hno ?_)
    | (with_reducible refine Looks.at hC ?_; rw [hl])
    | (with_reducible refine Looks.at own ?_) | (with_reducible refine Looks.at ty ?_) | (with_reducible refine Looks.at lk ?_)
    | wp_step
    | dsimp only)
  all_goals exact hq

theorem superGm {so : Nat} {pl : Sem Bool} {Q : Value × List Value → Shared → Prop} (X : (K w.params).In h)
    (hso : h.get? so = some { cls := .type "super", dict := none, data := .fields #[.ref C, .ref C, .ref C], slots := #[] }) (hq : Q (.builtin "object.__new__", []) ⟨h, g, d, t + 1, os⟩) :
    wpAny (model prog w) A (getMethod (.ref so) "__new__" pl) Q E ⟨h, g, d, t, os⟩ := by
  have hlk := PySem.F.ks_slot_super_ga.lookup
  have hcan := PySem.F.ks_canon_super_ga
  have hT : ∀ t', (⟨h, g, d, t', os⟩ : Shared).TypeIs (.ref so) "super" := fun _ => ⟨_, hso, rfl⟩
  unfold getMethod
  refine wpAny_bind (wpAny_specialOf (hT _) hlk ?_)
  show wpAny _ _ (if (Manifest.canonical "super.__getattribute__" != "object.__getattribute__") = true then _ else _) _ _ _
  rw [if_pos hcan]
  unfold getAttr getAttrBy
  refine wpAny_bind (wpAny_bind (wpAny_mkText (wpAny_holding (wpAny_bind (wpAny_typeOf (hT _) (wpAny_bind (wpAny_of_eq hlk ?_)))))))
  show wpAny _ _ (getAttrByItsOwn (.ref so) (.str "__new__" t) (.type "super") (.builtin "super.__getattribute__") true false) _ _ _
  unfold getAttrByItsOwn hookBefore callGetattribute boundAndCalled
  refine wpAny_bind (wpAny_of_eq (show (if onTheHeap (.type "super") then typeLookup (.type "super") "__getattr__" else pure none) = pure none from rfl) ?_)
  refine wpAny_bind (wpAny_attempt (wpAny_holding ?_))
  show wpAny _ _ (bindSpecial (.builtin "super.__getattribute__") (.ref so) >>= _) _ _ _
  refine wpAny_bind (wpAny_of_eq (PySem.F.ks_slot_super_ga.bind _) ?_)
  refine wpAny_mono (Q := fun v s' => v = .builtin "object.__new__" ∧ s' = ⟨h, g, d, t + 1, os⟩) (E := fun _ _ => False)
    (wpAny_call_entry PySem.F.ks_slot_super_ga (hT _) PySem.F.ks_entry_super_ga (superGa X hso ⟨_, rfl, rfl, rfl⟩) (PySem.F.ks_gaArgs_super _ _)) (fun v s' hv => ?_) fun _ _ z => z.elim
  obtain ⟨rfl, rfl⟩ := hv
  exact wpAny_pure (wpAny_pure hq)

theorem getNew {ex : Bool} {Q : Value → Shared → Prop} (X : (K w.params).In h) (hq : Q (.ref fNew) ⟨h, g, d, t + 1, os⟩) : wpAny (model prog w) A (getAttr (.ref C) "__new__" ex) Q E ⟨h, g, d, t, os⟩ := by
  refine cls_bind (mc := .type "type") (g := .builtin "staticmethod.__get__") (a := .ref 297) (obj := .none) (tp := .ref C) (s := ⟨h, g, d, t, os⟩) X (by kernel_rfl!) (by kernel_rfl!) (wpAny_call (sm_get (f := .ref fNew) (rest := []) X (by kernel_rfl!) ?_))
  exact handed_on rfl hq

theorem initCall {x dx : Nat} {sl : Array (Option Value)} {rest : List Value} {Q : Value → Shared → Prop} (X : (K w.params).In h) (hx : h.get? x = some ⟨.ref C, some dx, .plain, sl⟩) (hq : Q .none ⟨h, g, d, t, os⟩) :
    wpAny (model prog w) A (call (.builtin "object.__init__") (.ref x :: rest)) Q E ⟨h, g, d, t, os⟩ := by
  have t1 : Looks (model prog w) h (typeOf (.ref x)) (.ref C) := (Looks.ld hx).andThen .now
  have t0 : Looks (model prog w) h (isSubtype (.ref C) (.type "object")) true := Looks.of_peek X (by kernel_rfl!)
  have t2 : Looks (model prog w) h (isInstance (.ref x) (.type "object")) true := t1.andThen t0
  have t3 : Looks (model prog w) h (typeLookup (.ref C) "__init__") (some (.builtin "object.__init__")) := Looks.of_peek X (by kernel_rfl!)
  have made : Looks (model prog w) h (Bind.madeBy (.ref C)) none := Looks.of_peek X (by kernel_rfl!)
  refine wpAny_call (codeAny_call_builtin oi_plain entry_oi (@check_slot (model prog w) _ _ _ "object.__init__" "object" "__init__" (.ref x) rest [] _ oi_kind oi_split t2 (by unfold argsOk; kernel_rfl) ?_))
  unfold Builtin.«object.__init__»
  cases rest with
  | nil => exact wpAny_pure hq
  | cons a r =>
    repeat (first | (with_reducible refine Looks.at t1 ?_) | (with_reducible refine Looks.at t3 ?_) | (with_reducible refine Looks.at made ?_) | lk)
    exact hq

/-- the class called: __new__ first, then object.__init__ (which takes what __new__ took) -/
theorem makeBy {rest : List Value} (X : (K w.params).In h)
    (hn : codeAny (model prog w) (A.under (.builtin "type.__call__" ⟨.ref C :: rest, []⟩)) (.call (.ref fNew) ⟨.ref C :: rest, []⟩)
      (fun r s' => match r with | .ok (.ret v) => ∃ x dx sl, v = .ref x ∧ (K w.params).In s'.heap ∧ s'.heap.get? x = some ⟨.ref C, some dx, .plain, sl⟩ ∧ R (.ok (.ret (.ref x))) s' | .ok _ => False | .error e => R (.error e) s')
      ⟨h, g, d, t + 1, os⟩) :
    codeAny (model prog w) A (.call (.ref C) ⟨rest, []⟩) R ⟨h, g, d, t, os⟩ := by
  obtain ⟨oc, od, cd, sl, hC, e1, e2, e3, e4⟩ := clsAt X
  have call : Looks (model prog w) h (specialOf (.ref C) "__call__") (some (.builtin "type.__call__")) := Looks.of_peek X (by kernel_rfl!)
  have typ : Looks (model prog w) h (isInstance (.ref C) (.type "type")) true := Looks.of_peek X (by kernel_rfl!)
  have made : Looks (model prog w) h (Bind.madeBy (.ref C)) none := Looks.of_peek X (by kernel_rfl!)
  have hm : Looks (model prog w) h (mroOf (.ref C)) [.ref C, .type "object"] := Looks.of_peek X (by kernel_rfl!)
  refine codeAny_of_tree ?_
  show wpAny _ _ (callAny (.ref C) _) _ _ _
  refine nd_load hC ?_
  show wpAny _ _ (callAny.viaDunder (.ref C) _) _ _ _
  unfold callAny.viaDunder
  refine wpAny_bind (call.at ?_)
  dsimp only
  rw [tc_bind]
  refine wpAny_bind (wpAny_pure (wpAny_bind (wpAny_pure ?_)))
  refine wpAny_pure (a := Fin.again (.call (.builtin "type.__call__") ⟨.ref C :: rest, []⟩)) (And.intro rfl ?_)
  refine codeAny_call_builtin_at (Code.quiet_builtin _ (by decide +kernel)) entry_typeCall (check_slot tc_kind tc_split typ (tc_args _ _ _) ?_)
  unfold Builtin.«type.__call__»
  repeat (first | (with_reducible refine getNew X ?_) | (with_reducible refine wpAny_call ?_) | lk)
  refine codeAny_mono hn fun r s' z => ?_
  rcases r with e | (v | _ | _ | _) <;> first | exact z | exact z.elim | skip
  obtain ⟨x, dx, sl', rfl, X', hx, z⟩ := z
  obtain ⟨h', g', d', t', os'⟩ := s'
  dsimp only at X' hx
  have t1 : Looks (model prog w) h' (typeOf (.ref x)) (.ref C) := (Looks.ld hx).andThen .now
  have t0 : Looks (model prog w) h' (isSubtype (.ref C) (.ref C)) true := Looks.of_peek X' (by kernel_rfl!)
  have t3 : Looks (model prog w) h' (typeLookup (.ref C) "__init__") (some (.builtin "object.__init__")) := Looks.of_peek X' (by kernel_rfl!)
  have b1 := oi_bind (.ref x)
  unfold isInstance callSpecial? specialOf
  repeat (first | (with_reducible refine Looks.at t1 ?_) | (with_reducible refine Looks.at t0 ?_) | (with_reducible refine Looks.at t3 ?_) | rw [b1] | ((with_reducible show wpAny _ _ (PySem.call (.builtin "object.__init__") _) _ _ _); refine initCall (rest := rest) X' hx ?_) | lk)
  exact z
end
end
section
open PySem PySem.W PyProof.Rows PySem.Calls Builtin
/-- all that stands in a heap -/
abbrev At (h : Heap) : Nat → Obj → Prop := fun a o => h.get? a = some o
/-- .. but some addresses -/
abbrev AtBut (h : Heap) (S : List Nat) : Nat → Obj → Prop := fun a o => h.get? a = some o ∧ a ∉ S
theorem enterC {w : World} {mg mb : Str → Option Value} {P : Nat → Obj → Prop} {own : List (Nat × Obj)} {A : Around} {s : Shared} {R : Result → Shared → Prop} {f : Nat} {oc : Value} {od : Option Nat} {osl : Array (Option Value)}
    {name qual : Str} {params : Arguments} {body : List Stmt} {scope : Scope} {cl : List (Str × Nat)} {dV kV doc pm cdv ct : Value} {an : Option Nat} {vals : List Value} (binds : List (Str × Value))
    (G : Gr w mg mb s.heap) (hP : ∀ a o, P a o → s.heap.get? a = some o) (hO : ∀ p ∈ own, s.heap.get? p.1 = some p.2 ∧ NB ≤ p.1 ∧ ∀ o', ¬ P p.1 o')
    (ho : (K w.params).lookup f = some ⟨oc, od, .func (fnX name qual params body scope cl dV kV doc pm an cdv ct), osl⟩)
    (hcd : codeIn (K w.params) cdv qual = true) (hroom : A.depth < recursionLimit) (hbind : BindsTo s (fnX name qual params body scope cl dV kV doc pm an cdv ct) ⟨vals, []⟩ binds)
    (hloc : ∀ y ∈ binds, scope.names.lookup y.1 = some .local)
    (h : ∀ L h₁, L = s.heap.objs.size → Fm w mg mb P L h₁ (fun y => binds.reverse.lookup y) own →
      wpAny (model prog w) (A.deeper (envX qual scope L f cdv cl)) (execs body (envX qual scope L f cdv cl))
        (fun fl s' => R (.ok (.ret (match fl with | .ret v => v | _ => .none))) s') (fun _ _ => False) { s with heap := h₁, toks := s.toks + binds.length })
    (hco : scope.isCoroutine = false := by rfl) (hgen : scope.isGenerator = false := by rfl) (hk : scope.kind = .function := by rfl) (hcell : ∀ x ∈ scope.names, x.2 ≠ .cell := by decide) :
    codeAny (model prog w) A (.call (.ref f) ⟨vals, []⟩) R s := by
  refine codeAny_call_def (fd := fnX name qual params body scope cl dV kV doc pm an cdv ct) (binds := binds) hroom (G.X _ _ ho) rfl G.lim (codeRec_of G.X hcd) rfl hbind hcell hloc (fun h₁ hns hk₁ => ?_) hco hgen hk
  refine wpAny_mono (h _ h₁ rfl ⟨G.sub hk₁, hns, G.size, fun a o p e => ?_, fun a o p => hk₁ _ _ (hP a o p), fun p hp => ?_⟩) (fun _ _ q => q) (fun _ _ q => q.elim)
  · exact absurd (Heap.lt_size (hP a o p)) (by rw [e]; exact Nat.lt_irrefl _)
  · obtain ⟨a1, a2, a3⟩ := hO p hp
    exact ⟨hk₁ _ _ a1, Nat.ne_of_lt (Heap.lt_size a1), a2, a3⟩
theorem enter {w : World} {mg mb : Str → Option Value} {P : Nat → Obj → Prop} {own : List (Nat × Obj)} {A : Around} {s : Shared} {Q E : Value → Shared → Prop} {f : Nat} {oc : Value} {od : Option Nat} {osl : Array (Option Value)}
    {name qual : Str} {params : Arguments} {body : List Stmt} {scope : Scope} {cl : List (Str × Nat)} {dV kV doc pm cdv ct : Value} {an : Option Nat} {vals : List Value} (binds : List (Str × Value))
    (G : Gr w mg mb s.heap) (hP : ∀ a o, P a o → s.heap.get? a = some o) (hO : ∀ p ∈ own, s.heap.get? p.1 = some p.2 ∧ NB ≤ p.1 ∧ ∀ o', ¬ P p.1 o')
    (ho : (K w.params).lookup f = some ⟨oc, od, .func (fnX name qual params body scope cl dV kV doc pm an cdv ct), osl⟩)
    (hcd : codeIn (K w.params) cdv qual = true) (hroom : A.depth < recursionLimit) (hbind : BindsTo s (fnX name qual params body scope cl dV kV doc pm an cdv ct) ⟨vals, []⟩ binds)
    (hloc : ∀ y ∈ binds, scope.names.lookup y.1 = some .local)
    (h : ∀ L h₁, L = s.heap.objs.size → Fm w mg mb P L h₁ (fun y => binds.reverse.lookup y) own →
      wpAny (model prog w) (A.deeper (envX qual scope L f cdv cl)) (execs body (envX qual scope L f cdv cl))
        (fun fl s' => Q (match fl with | .ret v => v | _ => .none) s') (fun _ _ => False) { s with heap := h₁, toks := s.toks + binds.length })
    (hco : scope.isCoroutine = false := by rfl) (hgen : scope.isGenerator = false := by rfl) (hk : scope.kind = .function := by rfl) (hcell : ∀ x ∈ scope.names, x.2 ≠ .cell := by decide) :
    wpAny (model prog w) A (call (.ref f) vals) Q E s := wpAny_call (enterC binds G hP hO ho hcd hroom hbind hloc h hco hgen hk hcell)
section
variable {w : World} {mg mb : Str → Option Value} {P P' : Nat → Obj → Prop} {L l b : Nat} {m m' : Str → Option Value} {own : List (Nat × Obj)} {A : Around} {E Q : Value → Shared → Prop} {s : Shared} {xs ys : List Value} {n n2 : Nat}
theorem lenL (hl : s.heap.get? l = some (listObj xs n)) (hz : xs.length < 2 ^ 30) (h : Q (.int xs.length (s.toks + 1)) { s with toks := s.toks + 1 + 1 }) : wpAny (model prog w) A (call (.builtin "len") [.ref l]) Q E s := by
  refine Calls.call_len_list (isList_at hl) (by simp; omega) ?_
  simpa using h
theorem copyL (F : Fm w mg mb P L s.heap m own) (hl : s.heap.get? l = some (listObj xs n)) (hz : xs.length < 2 ^ 20)
    (h : ∀ D c h', Fm w mg mb P L h' m ((D, listObj xs c) :: own) → L < D → (∀ p ∈ own, p.1 ≠ D) → Q (.ref D) { s with heap := h' }) : wpAny (model prog w) A (call (.type "list") [.ref l]) Q E s :=
  call_list_seq l (.inl rfl) hl rfl rfl (fun h' c' hk hD => h _ c' h' (F.made hk hD) F.fresh.1 F.fresh.2) (hsz := by rw [sizeLine_eq, List.size_toArray]; omega)
theorem gm_list {name : Str} {id : String} {pl : Sem Bool} {Q : Value × List Value → Shared → Prop} (hl : s.heap.get? l = some (listObj xs n)) (slot : Slot "list" name id) (hty : typeOf (.builtin id) = pure (.type "method_descriptor"))
    (h : Q (.builtin id, [.ref l]) s) : wpAny (model prog w) A (getMethod (.ref l) name pl) Q E s :=
  getMethod_list_of slot hty (isList_at hl) ⟨_, hl, rfl⟩ h
theorem appendL {x : Value} (F : Fm w mg mb P L s.heap m ((l, listObj xs n) :: own)) (hne : ∀ p ∈ own, p.1 ≠ l) (hz : xs.length < 2 ^ 20)
    (h : ∀ c h', Fm w mg mb P L h' m ((l, listObj (xs ++ [x]) c) :: own) → Q .none { s with heap := h' }) : wpAny (model prog w) A (call (.builtin "list.append") [.ref l, x]) Q E s := by
  refine wpAny_list_append_plain (items := xs.toArray) ⟨n, (F.own _ (.head _)).1⟩ (fun h' ⟨c, e⟩ hs => h c h' (F.turn hs ?_ hne)) (by rw [sizeLine_eq, List.size_toArray]; omega)
  simpa using e
theorem extendL (F : Fm w mg mb P L s.heap m ((l, listObj xs n) :: own)) (hne : ∀ p ∈ own, p.1 ≠ l) (hb : s.heap.get? b = some (listObj ys n2)) (hz : xs.length + ys.length < 2 ^ 20)
    (h : ∀ c h', Fm w mg mb P L h' m ((l, listObj (xs ++ ys) c) :: own) → Q .none { s with heap := h' }) : wpAny (model prog w) A (call (.builtin "list.extend") [.ref l, .ref b]) Q E s := by
  have z := F.own _ (.head _)
  refine call_meets PySem.F.slot_list_extend ⟨_, z.1, rfl⟩ PySem.F.entry_list_extend (PySem.F.args_list_extend_2 _ _) (PySem.AutoSeq1.list_extend_list_list_0 l xs.toArray n b ys.toArray n2 ?_ (by rw [sizeLine_eq, List.size_toArray]; omega) (by rw [sizeLine_eq, List.size_toArray, List.size_toArray]; omega)) ⟨z.1, hb, ?_⟩
  · have : Builtin.List.listTooLong (xs.toArray.size + ys.toArray.size) = false := by
      unfold Builtin.List.listTooLong
      simp [sizeLine_eq]
      omega
    rw [this, Bool.and_false]; decide
  · refine h (if (xs ++ ys).length = xs.length then n else n + 1) _ (F.turn (Heap.SameBut.update ..) ?_ hne)
    refine (Heap.get?_update_self _ z.1 rfl).trans ?_
    simp [Obj.mapSeq]
theorem setL {k : Int} {t : Tok} {v : Value} {Q : Unit → Shared → Prop} (F : Fm w mg mb P L s.heap m ((l, listObj xs n) :: own)) (hne : ∀ p ∈ own, p.1 ≠ l) (h0 : 0 ≤ k) (hk : k.toNat < xs.length) (hz : xs.length < 2 ^ 20)
    (h : ∀ c h', Fm w mg mb P L h' m ((l, listObj (xs.set k.toNat v) c) :: own) → Q () { s with heap := h' }) : wpAny (model prog w) A (setItem (.ref l) (.int k t) v) Q E s := by
  have z := F.own _ (.head _)
  have hl := isList_at z.1
  unfold setItem
  try with_reducible refine wpAny_holding ?_
  first | refine wpAny_bind (wpAny_pure ?_) | skip
  refine wpAny_bind (wpAny_sequenceKey hl.typeIs (by decide) ?_)
  refine wpAny_bind (wpAny_callSpecial?_slot (name := Str.ofString "__setitem__") hl.typeIs slot_list_setitem
    (wpAny_call_entry slot_list_setitem hl.typeIs entry_list_setitem ?_ (args_list_setitem _ _ _)))
  show wpAny _ _ (Builtin.List.listSubscript? (.int k t) >>= _) _ _ s
  refine wpAny_bind (wpAny_listSubscript_int (fitsIndex_of h0 (by omega)) ?_)
  obtain ⟨j, rfl⟩ := Int.eq_ofNat_of_zero_le h0
  have hj : j < xs.toArray.size := by simpa using hk
  have hx' : xs.toArray[j]? = some xs.toArray[j] := Array.getElem?_eq_getElem hj
  show wpAny _ _ ((seqItemAt l j >>= fun r => pure (r.map (j, ·))) >>= _) _ _ s
  refine wpAny_bind (wpAny_bind (wpAny_seqItemAt z.1 rfl (wpAny_pure ?_)))
  rw [hx']
  show wpAny _ _ (setSeqItemAt l j v >>= _) _ _ s
  have fin : (s.heap.update l (Obj.mapSeq (·.setIfInBounds j v))).get? l = some (listObj (xs.set j v) n) := by
    refine (Heap.get?_update_self _ z.1 rfl).trans ?_
    simp [Obj.mapSeq]
  have q := h n _ (F.turn (Heap.SameBut.update ..) fin hne)
  refine wpAny_bind (wpAny_setSeqItemAt z.1 rfl ?_)
  first
    | exact wpAny_bind (wpAny_pure (wpAny_pure ⟨.none, rfl, wpAny_pure q⟩))
    | exact wpAny_pure ⟨.none, rfl, wpAny_pure q⟩
end
end
theorem g_SHIFT (P : Params) : nsIn (K P) mainGlobals "SHIFT" = some (some (.int 5 368)) := by kernel_rfl!
theorem g_MASK (P : Params) : nsIn (K P) mainGlobals "BIT_MASK" = some (some (.int 31 363)) := by kernel_rfl!
theorem g_BF (P : Params) : nsIn (K P) mainGlobals "BRANCH_FACTOR" = some (some (.int 32 360)) := by kernel_rfl!
theorem g_Cls (P : Params) : nsIn (K P) mainGlobals "PythonPVector" = some (some (.ref C)) := by kernel_rfl!
theorem g_Empty (P : Params) : nsIn (K P) mainGlobals "_EMPTY_PVECTOR" = some (some (.ref aEmpty)) := by kernel_rfl!
theorem g_pvector (P : Params) : nsIn (K P) mainGlobals "pvector" = some (some (.ref fPvector)) := by kernel_rfl!
theorem g_compare (P : Params) : nsIn (K P) mainGlobals "compare_pvector" = some (some (.ref 54)) := by kernel_rfl!
theorem g_eq (P : Params) : nsIn (K P) mainGlobals "eq" = some (some (.builtin "_operator.eq")) := by kernel_rfl!
theorem n_list (P : Params) : nsIn (K P) mainGlobals "list" = some none := by kernel_rfl!
theorem n_len (P : Params) : nsIn (K P) mainGlobals "len" = some none := by kernel_rfl!
theorem n_isinstance (P : Params) : nsIn (K P) mainGlobals "isinstance" = some none := by kernel_rfl!
theorem n_range (P : Params) : nsIn (K P) mainGlobals "range" = some none := by kernel_rfl!
theorem n_super (P : Params) : nsIn (K P) mainGlobals "super" = some none := by kernel_rfl!
theorem n_slice (P : Params) : nsIn (K P) mainGlobals "slice" = some none := by kernel_rfl!
theorem n_int (P : Params) : nsIn (K P) mainGlobals "int" = some none := by kernel_rfl!
theorem n_zip (P : Params) : nsIn (K P) mainGlobals "zip" = some none := by kernel_rfl!
theorem n_IndexError (P : Params) : nsIn (K P) mainGlobals "IndexError" = some none := by kernel_rfl!
theorem n_hasattr (P : Params) : nsIn (K P) mainGlobals "hasattr" = some none := by kernel_rfl!
theorem b_list : bootBuiltins "list" = some (.type "list") := by first | exact PyProof.Rows.boot_list | exact PySem.W.boot_list | kernel_rfl!
theorem b_len : bootBuiltins "len" = some (.builtin "len") := by first | exact PyProof.Rows.boot_len | exact PySem.W.boot_len | kernel_rfl!
theorem b_isinstance : bootBuiltins "isinstance" = some (.builtin "isinstance") := by first | exact PyProof.Rows.boot_isinstance | exact PySem.W.boot_isinstance | kernel_rfl!
theorem b_range : bootBuiltins "range" = some (.type "range") := by first | exact PyProof.Rows.boot_range | exact PySem.W.boot_range | kernel_rfl!
theorem b_super : bootBuiltins "super" = some (.type "super") := by first | exact PyProof.Rows.boot_super | exact PySem.W.boot_super | kernel_rfl!
theorem b_slice : bootBuiltins "slice" = some (.type "slice") := by first | exact PyProof.Rows.boot_slice | exact PySem.W.boot_slice | kernel_rfl!
theorem b_int : bootBuiltins "int" = some (.type "int") := by first | exact PyProof.Rows.boot_int | exact PySem.W.boot_int | kernel_rfl!
theorem b_zip : bootBuiltins "zip" = some (.type "zip") := by first | exact PyProof.Rows.boot_zip | exact PySem.W.boot_zip | kernel_rfl!
theorem b_IndexError : bootBuiltins "IndexError" = some (.type "IndexError") := by first | exact PyProof.Rows.boot_IndexError | exact PySem.W.boot_IndexError | kernel_rfl!
theorem b_hasattr : bootBuiltins "hasattr" = some (.builtin "hasattr") := by first | exact PyProof.Rows.boot_hasattr | exact PySem.W.boot_hasattr | kernel_rfl!
theorem mf_append (P : Params) : findIn (K P) (.ref C) "append" = some (some (.ref fAppend)) := by kernel_rfl!
theorem mt_append (P : Params) : typeIn (K P) (.ref fAppend) = some (.type "function") := by kernel_rfl!
theorem mf_tolist (P : Params) : findIn (K P) (.ref C) "tolist" = some (some (.ref fTolist)) := by kernel_rfl!
theorem mt_tolist (P : Params) : typeIn (K P) (.ref fTolist) = some (.type "function") := by kernel_rfl!
theorem mf_extend (P : Params) : findIn (K P) (.ref C) "extend" = some (some (.ref fExtend)) := by kernel_rfl!
theorem mt_extend (P : Params) : typeIn (K P) (.ref fExtend) = some (.type "function") := by kernel_rfl!
theorem mf_newRoot (P : Params) : findIn (K P) (.ref C) "_create_new_root" = some (some (.ref fNewRoot)) := by kernel_rfl!
theorem mt_newRoot (P : Params) : typeIn (K P) (.ref fNewRoot) = some (.type "function") := by kernel_rfl!
theorem mf_push (P : Params) : findIn (K P) (.ref C) "_push_tail" = some (some (.ref fPush)) := by kernel_rfl!
theorem mt_push (P : Params) : typeIn (K P) (.ref fPush) = some (.type "function") := by kernel_rfl!
theorem mf_insTail (P : Params) : findIn (K P) (.ref C) "_mutating_insert_tail" = some (some (.ref fInsTail)) := by kernel_rfl!
theorem mt_insTail (P : Params) : typeIn (K P) (.ref fInsTail) = some (.type "function") := by kernel_rfl!
theorem mf_fillTail (P : Params) : findIn (K P) (.ref C) "_mutating_fill_tail" = some (some (.ref fFillTail)) := by kernel_rfl!
theorem mt_fillTail (P : Params) : typeIn (K P) (.ref fFillTail) = some (.type "function") := by kernel_rfl!
theorem mf_mutExt (P : Params) : findIn (K P) (.ref C) "_mutating_extend" = some (some (.ref fMutExt)) := by kernel_rfl!
theorem mt_mutExt (P : Params) : typeIn (K P) (.ref fMutExt) = some (.type "function") := by kernel_rfl!
theorem mf_fill (P : Params) : findIn (K P) (.ref C) "_fill_list" = some (some (.ref fFill)) := by kernel_rfl!
theorem mt_fill (P : Params) : typeIn (K P) (.ref fFill) = some (.type "function") := by kernel_rfl!
theorem mf_set (P : Params) : findIn (K P) (.ref C) "set" = some (some (.ref fSet)) := by kernel_rfl!
theorem mt_set (P : Params) : typeIn (K P) (.ref fSet) = some (.type "function") := by kernel_rfl!
theorem mf_doSet (P : Params) : findIn (K P) (.ref C) "_do_set" = some (some (.ref fDoSet)) := by kernel_rfl!
theorem mt_doSet (P : Params) : typeIn (K P) (.ref fDoSet) = some (.type "function") := by kernel_rfl!
theorem mf_delete (P : Params) : findIn (K P) (.ref C) "delete" = some (some (.ref fDelete)) := by kernel_rfl!
theorem mt_delete (P : Params) : typeIn (K P) (.ref fDelete) = some (.type "function") := by kernel_rfl!
section
variable {w : World} {mg mb : Str → Option Value} {P : Nat → Obj → Prop} {L : Nat} {m : Str → Option Value} {own : List (Nat × Obj)} {A : Around} {E Q : Value → Shared → Prop} {s : Shared} {env : Env} {pos : Pos} {f : Value} {first : List Value} {e : Expr} {rest : List Expr}
theorem cwK (F : Fm w mg mb P L s.heap m own) (hk : keepIn (K w.params) f = true)
    (h : wpAny (model prog w) A (spliced (backTo pos (starEach (e :: rest) env))) (fun vs s₁ => (K w.params).In s₁.heap ∧ wpAny (model prog w) A (call f (first ++ vs)) Q E s₁) E s)
    (h1 : starEach (e :: rest) env = (false, eval e env) :: starEach rest env := by rfl) (h2 : ((backTo pos (starEach rest env)).any fun x => x.fst) = false := by rfl) :
    wpAny (model prog w) A (callWith pos f first (backTo pos (starEach (e :: rest) env)) []) Q E s := callWith_K F.G.X hk h h1 h2
theorem cwK0 (F : Fm w mg mb P L s.heap m own) (hk : keepIn (K w.params) f = true) (h : wpAny (model prog w) A (call f (first ++ [])) Q E s) :
    wpAny (model prog w) A (callWith pos f first (backTo pos (starEach [] env)) []) Q E s := callWith_K0 F.G.X hk h
end
local macro_rules | `(tactic| walk_at "keep") => `(tactic| kernel_rfl!)
local macro_rules | `(tactic| walk_at "nm") => `(tactic| first | assumption | rfl | exact if_pos rfl | (refine (if_neg (by decide)).trans ?_; walk_at "nm"))
local macro_rules | `(tactic| walk_at "gl") => `(tactic| with_reducible first | exact g_SHIFT _ | exact g_MASK _ | exact g_BF _ | exact g_Cls _ | exact g_Empty _ | exact g_pvector _ | exact g_compare _ | exact g_eq _)
local macro_rules | `(tactic| walk_at "gn") => `(tactic| with_reducible first | exact n_list _ | exact n_len _ | exact n_isinstance _ | exact n_range _ | exact n_super _ | exact n_slice _ | exact n_int _ | exact n_zip _ | exact n_IndexError _ | exact n_hasattr _)
local macro_rules | `(tactic| walk_at "gb") => `(tactic| with_reducible first | exact b_list | exact b_len | exact b_isinstance | exact b_range | exact b_super | exact b_slice | exact b_int | exact b_zip | exact b_IndexError | exact b_hasattr)
local macro_rules | `(tactic| walk_at "mf") => `(tactic| with_reducible first | exact mf_append _ | exact mf_tolist _ | exact mf_extend _ | exact mf_newRoot _ | exact mf_push _ | exact mf_insTail _ | exact mf_fillTail _ | exact mf_mutExt _ | exact mf_fill _ | exact mf_set _ | exact mf_doSet _ | exact mf_delete _)
local macro_rules | `(tactic| walk_at "mt") => `(tactic| with_reducible first | exact mt_append _ | exact mt_tolist _ | exact mt_extend _ | exact mt_newRoot _ | exact mt_push _ | exact mt_insTail _ | exact mt_fillTail _ | exact mt_mutExt _ | exact mt_fill _ | exact mt_set _ | exact mt_doSet _ | exact mt_delete _)
local macro_rules | `(tactic| walk_at "mem") => `(tactic| first | exact List.mem_cons_self | exact List.mem_cons_of_mem _ List.mem_cons_self | exact List.mem_cons_of_mem _ (List.mem_cons_of_mem _ List.mem_cons_self) | exact List.mem_cons_of_mem _ (List.mem_cons_of_mem _ (List.mem_cons_of_mem _ List.mem_cons_self)) | exact List.Mem.tail _ (List.Mem.tail _ (List.Mem.tail _ (List.Mem.tail _ (List.Mem.head _)))) | exact List.Mem.tail _ (List.Mem.tail _ (List.Mem.tail _ (List.Mem.tail _ (List.Mem.tail _ (List.Mem.head _))))) | exact List.Mem.tail _ (List.Mem.tail _ (List.Mem.tail _ (List.Mem.tail _ (List.Mem.tail _ (List.Mem.tail _ (List.Mem.head _)))))) | exact List.Mem.tail _ (List.Mem.tail _ (List.Mem.tail _ (List.Mem.tail _ (List.Mem.tail _ (List.Mem.tail _ (List.Mem.tail _ (List.Mem.head _))))))))
local macro_rules | `(tactic| walk_at "obj") => `(tactic| first | exact Fm.get (by assumption) (by assumption) | exact Fm.ownAt (by assumption) (by walk_at "mem"))
local macro_rules | `(tactic| walk_at "lt") => `(tactic| first | omega | (simp only [List.length_append, List.length_cons, List.length_nil, List.length_map, List.length_set, List.length_drop, List.length_take] at *; omega))
local macro_rules | `(tactic| walk_at "perm") => `(tactic| repeat (first | exact sub0 | refine sub1 (by walk_at "mem") ?_))
local macro_rules | `(tactic| walk_at "apart") => `(tactic| repeat (first | exact apart0 | refine apart1 (by first | assumption | exact Ne.symm (by assumption) | exact q12 _ | exact q13 _ | exact q23 _ | exact (q12 _).symm | exact (q13 _).symm | exact (q23 _).symm | omega) ?_))
-- one step of the walk that leans on the syntax, the frame and written ints alone
local macro_rules | `(tactic| walk_at "M") => `(tactic| first
  | with_reducible refine wpAny_execs_cons ?_
  | with_reducible refine wpAny_execs_nil ?_
  | with_reducible refine wpAny_Return_some ?_
  | with_reducible refine wpAny_If ?_
  | with_reducible refine wpAny_BinOp ?_
  | with_reducible refine spliced_none ?_
  | with_reducible refine wpAny_truthy_bool ?_
  | with_reducible refine evalPart_some_step ?_
  | with_reducible refine evalPart_none_step ?_
  | with_reducible refine wpAny_Constant_int ?_
  | with_reducible refine add_int ?_
  | with_reducible refine sub_int ?_
  | with_reducible refine eq_int ?_
  | with_reducible refine lt_int ?_
  | with_reducible refine gt_int ?_
  | with_reducible refine ge_int ?_
  | with_reducible refine le_int ?_
  | with_reducible refine and_int ?_
  | with_reducible refine rshift_int (by decide) ?_
  | with_reducible refine lshift_int_small (by decide) (by decide) (by decide) ?_
  | ((with_reducible show wpAny _ _ (eval (Expr.Name _ _) _) _ _ _); first
      | refine nmL (by assumption) (by walk_at "nm") ?_
      | refine nmG (by assumption) (by walk_at "gl") ?_
      | refine nmB (by assumption) (by walk_at "gn") (by walk_at "gb") (by decide) ?_)
  | ((with_reducible show wpAny _ _ (getAttr (Value.ref _) _ _) _ _ _); with_reducible first
      | refine ga_count (Fm.G (by assumption)) (by walk_at "obj") (by walk_at "obj") ?_
      | refine ga_root (Fm.G (by assumption)) (by walk_at "obj") (by walk_at "obj") ?_
      | refine ga_shift (Fm.G (by assumption)) (by walk_at "obj") (by walk_at "obj") ?_
      | refine ga_tail (Fm.G (by assumption)) (by walk_at "obj") (by walk_at "obj") ?_
      | refine ga_off (Fm.G (by assumption)) (by walk_at "obj") (by walk_at "obj") ?_)
  | ((with_reducible show wpAny _ _ (getMethod (Value.ref _) _ _) _ _ _); first
      | refine gm (Fm.G (by assumption)) (by walk_at "obj") (by walk_at "obj") (by walk_at "mf") (by walk_at "mt") ?_
      | ((with_reducible show wpAny _ _ (getMethod (Value.ref _) (Str.ofString "append") _) _ _ _); refine gm_list (by walk_at "obj") PySem.F.slot_list_append PySem.F.type_list_append ?_)
      | ((with_reducible show wpAny _ _ (getMethod (Value.ref _) (Str.ofString "extend") _) _ _ _); refine gm_list (by walk_at "obj") PySem.F.slot_list_extend PySem.F.type_list_extend ?_))
  | ((with_reducible show wpAny _ _ (call (Value.builtin "len") [Value.ref _]) _ _ _); refine lenL (by walk_at "obj") (by walk_at "lt") ?_)
  | ((with_reducible show wpAny _ _ (exec (Stmt.Assign [Expr.Name _ _] _ _) _) _ _ _); refine wpAny_Assign_Name ?_)
  | ((with_reducible show wpAny _ _ (exec (Stmt.Assign [Expr.Subscript _ _ _] _ _) _) _ _ _); refine wpAny_Assign_Subscript ?_)
  | ((with_reducible show wpAny _ _ (exec (Stmt.Assign [Expr.Attribute _ _ _] _ _) _) _ _ _); refine plainObj_wpAny_Assign_Attribute ?_)
  | ((with_reducible show wpAny _ _ (exec (Stmt.Assign [Expr.Tuple _ _ _] _ _) _) _ _ _); refine Assign_Tuple ?_)
  | ((with_reducible show wpAny _ _ (exec (Stmt.Expr _ _) _) _ _ _); refine wpAny_Expr_any ?_)
  | ((with_reducible show wpAny _ _ (spliced _) _ _ _); refine spliced_more ?_)
  | ((with_reducible show wpAny _ _ (eval (Expr.Call (Expr.Attribute _ _ _) _ _ _) _) _ _ _); refine MethodCall_ ?_)
  | ((with_reducible show wpAny _ _ (eval (Expr.Call (Expr.Name _ _) _ _ _) _) _ _ _); refine Call_ ?_)
  | ((with_reducible show wpAny _ _ (eval (Expr.Attribute _ _ _) _) _ _ _); refine Attribute_any_ ?_)
  | ((with_reducible show wpAny _ _ (eval (Expr.Subscript _ (Expr.Slice _ _ none _) _) _) _ _ _); refine wpAny_Subscript_list_slice ?_)
  | ((with_reducible show wpAny _ _ (eval (Expr.Subscript _ _ _) _) _ _ _); refine Subscript_ ?_)
  | ((with_reducible show wpAny _ _ (exec (Stmt.AugAssign (Expr.Attribute _ _ _) _ _ _) _) _ _ _); refine wpAny_AugAssign_AttributeAny ?_)
  | with_reducible refine iadd_int ?_
  | ((with_reducible show wpAny _ _ (PySem.isTrue (Expr.Compare _ [_] [_] _) _ _) _ _ _); refine wpAny_isTrue_Compare1 ?_)
  | ((with_reducible show wpAny _ _ (eval (Expr.Tuple _ _ _) _) _ _ _); refine Tuple_ ?_)
  | ((with_reducible show wpAny _ _ (eval (Expr.List _ _) _) _ _ _); refine List_ ?_)
  | ((with_reducible show wpAny _ _ (callWith _ (Value.type _) [] _ _) _ _ _); refine PyProof.Rows.callWith_type1 ?_)
  | ((with_reducible show wpAny _ _ (callWith _ (Value.builtin _) [] _ _) _ _ _); refine PyProof.Rows.callWith_builtin1 ?_)
  | ((with_reducible show wpAny _ _ (callWith _ (Value.builtin _) _ _ _) _ _ _); first | refine callWith_method1 ?_ | refine callWith_method0 ?_)
  | ((with_reducible show wpAny _ _ (callWith _ (Value.ref _) _ _ _) _ _ _); first | refine cwK (by assumption) (by walk_at "keep") ?_ | refine cwK0 (by assumption) (by walk_at "keep") ?_)
  | ((with_reducible show Frag.In _ _ ∧ _); refine ⟨Gr.X (Fm.G (by assumption)), ?_⟩; (try dsimp only [List.nil_append, List.cons_append]))
  | ((with_reducible show wpAny _ _ (storeName _ _ _) _ _ _); refine stL (by assumption) ?_; intro h' F')
  | ((with_reducible show wpAny _ _ (newList _) _ _ _); refine newL (by assumption) ?_; intro l' h' F' lt' ne')
  | ((with_reducible show wpAny _ _ (newTuple _) _ _ _); refine newT (by assumption) ?_; intro l' h' F' lt' ne')
  | dsimp only)
theorem pushTail {w : World} {mg mb : Str → Option Value} {A : Around} {s : Shared} {Q E : Value → Shared → Prop} {r : Nat} {rs : List Value} {n : Nat} {self t : Value} {tk : Tok}
    (G : Gr w mg mb s.heap) (hd : A.depth < recursionLimit) (hr : s.heap.get? r = some (listObj rs n)) (hz : rs.length < 2 ^ 19)
    (ret : ∀ D c h' tk', Sub s.heap h' → h'.get? D = some (listObj (rs ++ [t]) c) → s.heap.objs.size ≤ D → Q (.ref D) { s with heap := h', toks := tk' }) :
    wpAny (model prog w) A (call (.ref fPush) [self, .int 5 tk, .ref r, t]) Q E s := by
  refine enter (P := At s.heap) (own := []) [("self", self), ("level", .int 5 tk), ("parent", .ref r), ("tail_node", t)] G (fun _ _ h => h) (fun _ h => nomatch h) (by rfl) (by rfl) hd (BindsTo.of_eq (by rfl)) (locs (by rfl)) ?_
  intro L h₁ hL F
  repeat (walk_at "M")
  refine copyL F (F.get hr) (by omega) (fun D c h' F lD ne => ?_)
  repeat (walk_at "M")
  refine ite_pos rfl ?_
  repeat (walk_at "M")
  rename_i h2 F2
  refine appendL F2 ne (by omega) (fun c h' F => ?_)
  repeat (walk_at "M")
  exact ret D _ _ _ (fun b o e => F.keep b o e) (F.ownAt (.head _)) (hL ▸ Nat.le_of_lt lD)
theorem small_root {c : Int} (h0 : 0 ≤ c) (hc : c < 1056) : ¬ (decide ((1 : Int) * 2 ^ Int.toNat 5 < c.fdiv (2 ^ Int.toNat 5)) = true) := by
  rw [show (2 : Int) ^ Int.toNat 5 = 32 from rfl, Int.fdiv_eq_ediv_of_nonneg _ (by decide)]
  simp
  omega
theorem newRoot {w : World} {mg mb : Str → Option Value} {A : Around} {s : Shared} {Q E : Value → Shared → Prop} {v d r t : Nat} {c : Int} {tc : Tok} {ts : Tok} {f : Int} {tf : Tok} {rs : List Value} {n : Nat}
    (G : Gr w mg mb s.heap) (hd : A.depth + 1 < recursionLimit) (hv : s.heap.get? v = some (vecObj d c tc r 5 ts t f tf)) (hdd : s.heap.get? d = some (dictOf [] 0)) (hr : s.heap.get? r = some (listObj rs n)) (hz : rs.length < 2 ^ 19) (h0 : 0 ≤ c) (hc : c < 1056)
    (ret : ∀ T D k ts' h' tk', Sub s.heap h' → h'.get? D = some (listObj (rs ++ [.ref t]) k) → s.heap.objs.size ≤ D → h'.get? T = some { cls := .type "tuple", data := .seq #[.ref D, .int 5 ts'] } → s.heap.objs.size ≤ T → Q (.ref T) { s with heap := h', toks := tk' }) :
    wpAny (model prog w) A (call (.ref fNewRoot) [.ref v]) Q E s := by
  refine enter (P := At s.heap) (own := []) [("self", .ref v)] G (fun _ _ h => h) (fun _ h => nomatch h) (by rfl) (by rfl) (Nat.lt_of_succ_lt hd) (BindsTo.of_eq (by rfl)) (locs (by rfl)) ?_
  intro L h₁ hL F
  repeat (walk_at "M")
  refine ite_neg (small_root h0 hc) ?_
  repeat (walk_at "M")
  rename_i h2 F2
  refine pushTail F2.G hd (F2.get hr) hz (fun D k h' tk' sb hD lD => ?_)
  have F3 := F2.madeAt sb hD lD
  repeat (walk_at "M")
  rename_i T h4 F4 lT ne4
  exact ret T D k ts _ _ (fun b o e => F4.keep b o e) (F4.ownAt (.tail _ (.head _))) (hL ▸ Nat.le_of_lt (F2.above lD)) (F4.ownAt (.head _)) (hL ▸ Nat.le_of_lt lT)
section
variable {w : World} {mg mb : Str → Option Value} {P : Nat → Obj → Prop} {L : Nat} {m : Str → Option Value} {own : List (Nat × Obj)} {A : Around} {E : Value → Shared → Prop} {Q : Unit → Shared → Prop} {s : Shared} {x d : Nat} {sl sl' : Array (Option Value)} {v : Value}
theorem sa_count (F : Fm w mg mb P L s.heap m ((x, ⟨.ref C, some d, .plain, sl⟩) :: own)) (hne : ∀ p ∈ own, p.1 ≠ x) (hd : s.heap.get? d = some (dictOf [] 0)) (e : (sl ++ Array.replicate (0 + 1 - sl.size) none).setIfInBounds 0 (some v) = sl')
    (h : ∀ h', Fm w mg mb P L h' m ((x, ⟨.ref C, some d, .plain, sl'⟩) :: own) → Q () { s with heap := h', toks := s.toks + 1 }) : wpAny (model prog w) A (setAttr (.ref x) "_count" v) Q E s := sa (p := sCount) (i := 0) F hne hd (by kernel_rfl!) (by kernel_rfl!) (by kernel_rfl!) (by decide) e h
theorem sa_root (F : Fm w mg mb P L s.heap m ((x, ⟨.ref C, some d, .plain, sl⟩) :: own)) (hne : ∀ p ∈ own, p.1 ≠ x) (hd : s.heap.get? d = some (dictOf [] 0)) (e : (sl ++ Array.replicate (1 + 1 - sl.size) none).setIfInBounds 1 (some v) = sl')
    (h : ∀ h', Fm w mg mb P L h' m ((x, ⟨.ref C, some d, .plain, sl'⟩) :: own) → Q () { s with heap := h', toks := s.toks + 1 }) : wpAny (model prog w) A (setAttr (.ref x) "_root" v) Q E s := sa (p := sRoot) (i := 1) F hne hd (by kernel_rfl!) (by kernel_rfl!) (by kernel_rfl!) (by decide) e h
theorem sa_shift (F : Fm w mg mb P L s.heap m ((x, ⟨.ref C, some d, .plain, sl⟩) :: own)) (hne : ∀ p ∈ own, p.1 ≠ x) (hd : s.heap.get? d = some (dictOf [] 0)) (e : (sl ++ Array.replicate (2 + 1 - sl.size) none).setIfInBounds 2 (some v) = sl')
    (h : ∀ h', Fm w mg mb P L h' m ((x, ⟨.ref C, some d, .plain, sl'⟩) :: own) → Q () { s with heap := h', toks := s.toks + 1 }) : wpAny (model prog w) A (setAttr (.ref x) "_shift" v) Q E s := sa (p := sShift) (i := 2) F hne hd (by kernel_rfl!) (by kernel_rfl!) (by kernel_rfl!) (by decide) e h
theorem sa_tail (F : Fm w mg mb P L s.heap m ((x, ⟨.ref C, some d, .plain, sl⟩) :: own)) (hne : ∀ p ∈ own, p.1 ≠ x) (hd : s.heap.get? d = some (dictOf [] 0)) (e : (sl ++ Array.replicate (3 + 1 - sl.size) none).setIfInBounds 3 (some v) = sl')
    (h : ∀ h', Fm w mg mb P L h' m ((x, ⟨.ref C, some d, .plain, sl'⟩) :: own) → Q () { s with heap := h', toks := s.toks + 1 }) : wpAny (model prog w) A (setAttr (.ref x) "_tail" v) Q E s := sa (p := sTail) (i := 3) F hne hd (by kernel_rfl!) (by kernel_rfl!) (by kernel_rfl!) (by decide) e h
theorem sa_off (F : Fm w mg mb P L s.heap m ((x, ⟨.ref C, some d, .plain, sl⟩) :: own)) (hne : ∀ p ∈ own, p.1 ≠ x) (hd : s.heap.get? d = some (dictOf [] 0)) (e : (sl ++ Array.replicate (4 + 1 - sl.size) none).setIfInBounds 4 (some v) = sl')
    (h : ∀ h', Fm w mg mb P L h' m ((x, ⟨.ref C, some d, .plain, sl'⟩) :: own) → Q () { s with heap := h', toks := s.toks + 1 }) : wpAny (model prog w) A (setAttr (.ref x) "_tail_offset" v) Q E s := sa (p := sOff) (i := 4) F hne hd (by kernel_rfl!) (by kernel_rfl!) (by kernel_rfl!) (by decide) e h
end
theorem mkVec {w : World} {mg mb : Str → Option Value} {A : Around} {s : Shared} {Q E : Value → Shared → Prop} {r t : Nat} {c sh : Int} {tc ts : Tok} {tl : List Value} {n : Nat}
    (G : Gr w mg mb s.heap) (hd : A.depth + 1 < recursionLimit) (ht : s.heap.get? t = some (listObj tl n)) (hz : tl.length < 2 ^ 20)
    (ret : ∀ v d tf h' tk', Sub s.heap h' → h'.get? v = some (vecObj d c tc r sh ts t (c - tl.length) tf) → h'.get? d = some (dictOf [] 0) → s.heap.objs.size ≤ v → s.heap.objs.size ≤ d → d ≠ v → Q (.ref v) { s with heap := h', toks := tk' }) :
    wpAny (model prog w) A (call (.ref C) [.int c tc, .int sh ts, .ref r, .ref t]) Q E s := by
  obtain ⟨h, g, dr, tk, os⟩ := s
  dsimp only at G ht ret
  refine wpAny_call (makeBy G.X ?_)
  refine enterC (P := At h) (own := []) [("cls", .ref C), ("count", .int c tc), ("shift", .int sh ts), ("root", .ref r), ("tail", .ref t)] G (fun _ _ h => h) (fun _ h => nomatch h) (by rfl) (by rfl) hd (BindsTo.of_eq (by rfl)) (locs (by rfl)) ?_
  intro L h₁ hL F
  repeat (walk_at "M")
  refine superCall F.G.X (fun h2 hso sb => ?_)
  have F2 := F.made sb hso
  refine superGm F2.G.X hso ?_
  repeat (walk_at "M")
  refine wpAny_call (newObj0 F2.G.X ?_)
  have F3 := (F2.alloc emptyDict).alloc (instObj C h2.objs.size)
  rw [Heap.size_push] at F3
  have ne3 : h2.objs.size ≠ h2.objs.size + 1 := by omega
  have l3 : L < h2.objs.size := F2.ltL
  have hne : ∀ p ∈ [(h2.objs.size, emptyDict), (h₁.objs.size, ({ cls := .type "super", dict := none, data := .fields #[.ref C, .ref C, .ref C], slots := #[] } : Obj))], p.1 ≠ h2.objs.size + 1 := by
    have q1 : h₁.objs.size < h2.objs.size := Heap.lt_size (F2.ownAt (.head _))
    intro p hp
    simp only [List.mem_cons, List.not_mem_nil, or_false] at hp
    rcases hp with rfl | rfl
    · exact ne3
    · exact Nat.ne_of_lt (Nat.lt_succ_of_lt q1)
  dsimp only
  repeat (walk_at "M")
  rename_i h4 F4
  refine sa_count (sl' := #[some (.int c tc)]) F4 hne (F4.ownAt (.tail _ (.head _))) rfl (fun h5 F5 => ?_)
  repeat (walk_at "M")
  refine sa_shift (sl' := #[some (.int c tc), none, some (.int sh ts)]) F5 hne (F5.ownAt (.tail _ (.head _))) rfl (fun h6 F6 => ?_)
  repeat (walk_at "M")
  refine sa_root (sl' := #[some (.int c tc), some (.ref r), some (.int sh ts)]) F6 hne (F6.ownAt (.tail _ (.head _))) rfl (fun h7 F7 => ?_)
  repeat (walk_at "M")
  refine sa_tail (sl' := #[some (.int c tc), some (.ref r), some (.int sh ts), some (.ref t)]) F7 hne (F7.ownAt (.tail _ (.head _))) rfl (fun h8 F8 => ?_)
  repeat (walk_at "M")
  refine ga (p := sCount) (i := 0) F8.G (F8.ownAt (.head _)) (F8.ownAt (.tail _ (.head _))) (by kernel_rfl!) (by kernel_rfl!) (by kernel_rfl!) (by kernel_rfl!) rfl rfl ?_
  repeat (walk_at "M")
  refine ga (p := sTail) (i := 3) F8.G (F8.ownAt (.head _)) (F8.ownAt (.tail _ (.head _))) (by kernel_rfl!) (by kernel_rfl!) (by kernel_rfl!) (by kernel_rfl!) rfl rfl ?_
  repeat (walk_at "M")
  refine sa_off (sl' := #[some (.int c tc), some (.ref r), some (.int sh ts), some (.ref t), some (.int (c - tl.length) _)]) F8 hne (F8.ownAt (.tail _ (.head _))) rfl (fun h9 F9 => ?_)
  repeat (walk_at "M")
  refine ⟨_, _, _, rfl, F9.G.X, F9.ownAt (.head _), ?_⟩
  have q : h.objs.size ≤ h2.objs.size := by have e : L = h.objs.size := hL; omega
  exact ret _ _ _ _ _ (fun b o e => F9.keep b o e) (F9.ownAt (.head _)) (F9.ownAt (.tail _ (.head _))) (Nat.le_succ_of_le q) q ne3
section
variable {w : World} {mg mb : Str → Option Value} {P : Nat → Obj → Prop} {L T : Nat} {m : Str → Option Value} {own : List (Nat × Obj)} {A : Around} {E : Value → Shared → Prop} {Q : Unit → Shared → Prop} {s : Shared} {env : Env}
theorem assign2 {e1 e2 : Expr} {k : Nat} {pos : Pos} {a b : Value} (F : Fm w mg mb P L s.heap m own) (hA : A.handled = none) (ht : s.heap.get? T = some { cls := .type "tuple", data := .seq #[a, b] })
    (hs : assignEach [e1, e2] env = [(false, assign e1 env), (false, assign e2 env)])
    (h : ∀ h', Fm w mg mb P L h' m own → Sub s.heap h' → wpAny (model prog w) A (assign e1 env a) (fun _ s₁ => wpAny (model prog w) A (assign e2 env b) Q E s₁) E { s with heap := h' }) :
    wpAny (model prog w) A (assign (.Tuple [e1, e2] k pos) env (.ref T)) Q E s := by
  refine assign_Tuple_tuple hA ⟨_, ht, rfl, _, rfl⟩ (by rw [hs]; rfl) (by rw [hs]; rfl) fun h' he => ?_
  have sb : Sub s.heap h' := fun b o e => he b o (Nat.ne_of_lt (Heap.lt_size e)) e
  rw [hs]
  refine wpAny_bind (wpAny_holding (wpAny_mono (h h' (F.kept sb) sb) (fun _ s₁ q => wpAny_bind (wpAny_holding (wpAny_mono q (fun _ s₂ q => wpAny_pure q) fun _ _ q => q))) fun _ _ q => q))
theorem assignN {M : Model} {x : Str} {pos : Pos} {v : Value} (h : wpAny M A (storeName env x v) Q E s) : wpAny M A (assign (.Name x pos) env v) Q E s := by
  rw [arm_assign_Name]
  exact wpAny_bind (wpAny_standAt (bindName_ h))
theorem assignA {M : Model} {o : Expr} {x : Str} {pos : Pos} {v : Value} (h : wpAny M A (eval o env) (fun ov s₁ => wpAny M A (setAttr ov x v) Q E s₁) E s) : wpAny M A (assign (.Attribute o x pos) env v) Q E s := by
  rw [arm_assign_Attribute]
  refine wpAny_bind (wpAny_holding (wpAny_mono h (fun ov s₁ q => wpAny_bind (wpAny_standAt (wpAny_bind (wpAny_holding (wpAny_mono q (fun _ s₂ q => wpAny_release q) fun _ _ q => q))))) fun _ _ q => q))
end
/-- a vector's object, its dict, root and tail, in a heap -/
def VAt (h : Heap) (v d r t : Nat) (c f : Int) (rs tl : List Value) : Prop :=
  (∃ tc ts tf, h.get? v = some (vecObj d c tc r 5 ts t f tf)) ∧ h.get? d = some (dictOf [] 0) ∧ (∃ n, h.get? r = some (listObj rs n)) ∧ ∃ n, h.get? t = some (listObj tl n)
theorem VAt.sub {h h' : Heap} {v d r t : Nat} {c f : Int} {rs tl : List Value} (x : VAt h v d r t c f rs tl) (k : Sub h h') : VAt h' v d r t c f rs tl :=
  let ⟨⟨tc, ts, tf, a⟩, b, ⟨n, c'⟩, ⟨n', d'⟩⟩ := x; ⟨⟨tc, ts, tf, k _ _ a⟩, k _ _ b, ⟨n, k _ _ c'⟩, ⟨n', k _ _ d'⟩⟩
/-- one item more: root and tail -/
def push1 (t : Nat) (rs tl : List Value) (x : Value) : List Value × List Value := if tl.length < 32 then (rs, tl ++ [x]) else (rs ++ [.ref t], [x])
theorem append_ {w : World} {mg mb : Str → Option Value} {A : Around} {s : Shared} {Q E : Value → Shared → Prop} {v d r t : Nat} {c f : Int} {rs tl : List Value} {x : Value}
    (G : Gr w mg mb s.heap) (hA : A.handled = none) (hd : A.depth + 3 < recursionLimit) (V : VAt s.heap v d r t c f rs tl) (hz : rs.length < 2 ^ 19) (hl : tl.length ≤ 32) (h0 : 0 ≤ c) (hc : c < 1056)
    (ret : ∀ v' d' r' t' h' tk', Sub s.heap h' → VAt h' v' d' r' t' (c + 1) (c + 1 - ((push1 t rs tl x).2.length : Int)) (push1 t rs tl x).1 (push1 t rs tl x).2 →
      s.heap.objs.size ≤ v' → s.heap.objs.size ≤ d' → s.heap.objs.size ≤ t' → (r' = r ∨ s.heap.objs.size ≤ r') → d' ≠ v' → t' ≠ v' → t' ≠ d' → r' ≠ v' → r' ≠ d' → r' ≠ t' → Q (.ref v') { s with heap := h', toks := tk' }) :
    wpAny (model prog w) A (call (.ref fAppend) [.ref v, x]) Q E s := by
  obtain ⟨⟨tc, ts, tf, hv⟩, hdd, ⟨nr, hr⟩, ⟨nt, ht⟩⟩ := V
  refine enter (P := At s.heap) (own := []) [("self", .ref v), ("val", x)] G (fun _ _ h => h) (fun _ h => nomatch h) (by rfl) (by rfl) (by omega) (BindsTo.of_eq (by rfl)) (locs (by rfl)) ?_
  intro L h₁ hL F
  repeat (walk_at "M")
  by_cases hlt : tl.length < 32
  · refine ite_pos (by simp; omega) ?_
    repeat (walk_at "M")
    refine copyL F (F.get ht) (by omega) (fun T k h2 F2 lT ne2 => ?_)
    repeat (walk_at "M")
    rename_i h3 F3
    refine appendL F3 ne2 (by omega) (fun k4 h4 F4 => ?_)
    repeat (walk_at "M")
    refine mkVec F4.G (by show A.depth + 1 + 1 < _; omega) (F4.ownAt (.head _)) (by simp; omega) (fun v' d' tf' h5 tk5 sb hv' hd' lv ld ne => ?_)
    have e : push1 t rs tl x = (rs, tl ++ [x]) := if_pos hlt
    have sb' : Sub s.heap h5 := fun b o e => sb _ _ (F4.keep b o e)
    have l5 : s.heap.objs.size ≤ h4.objs.size := by have := F4.ltL; omega
    have q := ret v' d' r T h5 tk5 sb' (by rw [e]; exact ⟨⟨_, _, _, hv'⟩, hd', ⟨nr, sb' _ _ hr⟩, ⟨k4, sb _ _ (F4.ownAt (.head _))⟩⟩) (Nat.le_trans l5 lv) (Nat.le_trans l5 ld) (by omega) (.inl rfl) ne
    have hT := ltS (F4.ownAt (.head _))
    have hr' := ltS hr
    have lv' : h4.objs.size ≤ v' := lv
    have ld' : h4.objs.size ≤ d' := ld
    exact q (by omega) (by omega) (by omega) (by omega) (by omega)
  · refine ite_neg (by simp; omega) ?_
    repeat (walk_at "M")
    refine newRoot F.G (by show A.depth + 1 + 1 < _; omega) (F.get hv) (F.get hdd) (F.get hr) hz h0 hc (fun T D k ts' h2 tk2 sb hD lD hT lT => ?_)
    have F2 := F.madeAt sb hD lD
    refine assign2 F2 hA hT rfl (fun h3 F3 sb3 => ?_)
    refine assignN ?_
    repeat (walk_at "M")
    refine assignN ?_
    repeat (walk_at "M")
    rename_i h4 F4 T5 h5 F5 lt5 ne5
    refine mkVec F5.G (by show A.depth + 1 + 1 < _; omega) (F5.ownAt (.head _)) (by simp) (fun v' d' tf' h6 tk6 sb6 hv' hd' lv ld ne => ?_)
    have e : push1 t rs tl x = (rs ++ [.ref t], [x]) := if_neg hlt
    have sb' : Sub s.heap h6 := fun b o e => sb6 _ _ (F5.keep b o e)
    have l5 : s.heap.objs.size ≤ h5.objs.size := by have := F5.ltL; omega
    have lv' : h5.objs.size ≤ v' := lv
    have ld' : h5.objs.size ≤ d' := ld
    have lD' : h₁.objs.size ≤ D := lD
    have lh₁ := F.ltL
    have q := ret v' d' D T5 h6 tk6 sb' (by rw [e]; exact ⟨⟨_, _, _, hv'⟩, hd', ⟨k, sb6 _ _ (F5.ownAt (.tail _ (.head _)))⟩, ⟨0, sb6 _ _ (F5.ownAt (.head _))⟩⟩) (Nat.le_trans l5 lv) (Nat.le_trans l5 ld) (by omega) (.inr (by omega)) ne
    have hT5 := ltS (F5.ownAt (.head _))
    have hD5 := ltS (F5.ownAt (.tail _ (.head _)))
    have nDT : D ≠ T5 := ne5 _ (.head _)
    exact q (by omega) (by omega) (by omega) (by omega) nDT
theorem Fm.sliced {w : World} {mg mb : Str → Option Value} {P : Nat → Obj → Prop} {L : Nat} {h : Heap} {m : Str → Option Value} {own : List (Nat × Obj)} (F : Fm w mg mb P L h m own) (so lo : Obj) (h1 : so.isFreed = false := by rfl) (h2 : lo.isFreed = false := by rfl) :
    Fm w mg mb P L ((h.push so).push lo) m ((h.objs.size + 1, lo) :: own) ∧ L < h.objs.size + 1 ∧ ∀ p ∈ own, p.1 ≠ h.objs.size + 1 := by
  have F2 := (F.alloc so h1).alloc lo h2
  rw [Heap.size_push] at F2
  refine ⟨F2.drop fun p hp => ?_, Nat.lt_succ_of_lt F.ltL, fun p hp => Nat.ne_of_lt (Nat.lt_succ_of_lt (ltS (F.own p hp).1))⟩
  rcases List.mem_cons.mp hp with rfl | hp
  · exact .head _
  · exact .tail _ (.tail _ hp)
theorem Fm.swap {w : World} {mg mb : Str → Option Value} {P : Nat → Obj → Prop} {L : Nat} {h : Heap} {m : Str → Option Value} {own : List (Nat × Obj)} {p q : Nat × Obj} (F : Fm w mg mb P L h m (p :: q :: own)) : Fm w mg mb P L h m (q :: p :: own) :=
  F.drop fun x hx => by simp only [List.mem_cons] at hx ⊢; rcases hx with h | h | h <;> simp [h]
theorem Fm.tl {w : World} {mg mb : Str → Option Value} {P : Nat → Obj → Prop} {L : Nat} {h : Heap} {m : Str → Option Value} {own : List (Nat × Obj)} {p : Nat × Obj} (F : Fm w mg mb P L h m (p :: own)) : Fm w mg mb P L h m own :=
  F.drop fun x hx => .tail _ hx
theorem pick_nat (xs : List Value) (a b : Nat) : (slicePick xs.toArray (some (a : Int)) (some (b : Int)) none) = ((xs.drop a).take (b - a)).toArray := by
  rw [slicePick_plain]
  simp only [Option.elim, clipAt_nat, List.size_toArray]
  congr 1
  apply List.ext_getElem?
  intro i
  simp only [List.getElem?_take, List.getElem?_drop]
  by_cases h1 : i < min b xs.length - min a xs.length
  · rw [if_pos h1, if_pos (by omega)]
    congr 1
    omega
  · rw [if_neg h1]
    split
    · rw [List.getElem?_eq_none (by omega)]
    · rfl
abbrev SubBut (S : List Nat) (h h' : Heap) : Prop := ∀ b o, b ∉ S → h.get? b = some o → h'.get? b = some o
theorem insTail {w : World} {mg mb : Str → Option Value} {A : Around} {s : Shared} {Q E : Value → Shared → Prop} {v d r t : Nat} {c : Int} {tc : Tok} {ts : Tok} {f : Int} {tf : Tok} {rs : List Value} {n : Nat}
    (G : Gr w mg mb s.heap) (hA : A.handled = none) (hd : A.depth + 2 < recursionLimit) (hv : s.heap.get? v = some (vecObj d c tc r 5 ts t f tf)) (nb : NB ≤ v) (hdd : s.heap.get? d = some (dictOf [] 0)) (ndv : d ≠ v) (hr : s.heap.get? r = some (listObj rs n)) (nrv : r ≠ v) (hz : rs.length < 2 ^ 19) (h0 : 0 ≤ c) (hc : c < 1056)
    (ret : ∀ D T ts' k h' tk', SubBut [v] s.heap h' → h'.get? v = some (vecObj d c tc D 5 ts' T f tf) → h'.get? D = some (listObj (rs ++ [.ref t]) k) → h'.get? T = some (listObj [] 0) → s.heap.objs.size ≤ D → s.heap.objs.size ≤ T → D ≠ T → Q .none { s with heap := h', toks := tk' }) :
    wpAny (model prog w) A (call (.ref fInsTail) [.ref v]) Q E s := by
  refine enter (P := AtBut s.heap [v]) (own := [(v, vecObj d c tc r 5 ts t f tf)]) [("self", .ref v)] G (fun _ _ h => h.1) (fun p hp => by rw [List.mem_singleton.mp hp]; exact ⟨hv, nb, fun o' q => q.2 (.head _)⟩) (by rfl) (by rfl) (by omega) (BindsTo.of_eq (by rfl)) (locs (by rfl)) ?_
  intro L h₁ hL F
  have hdd' : AtBut s.heap [v] d (dictOf [] 0) := ⟨hdd, by simp [ndv]⟩
  have hr' : AtBut s.heap [v] r (listObj rs n) := ⟨hr, by simp [nrv]⟩
  repeat (walk_at "M")
  refine newRoot F.G (by show A.depth + 1 + 1 < _; omega) (F.ownAt (.head _)) (F.get hdd') (F.get hr') hz h0 hc (fun T D k ts' h2 tk2 sb hD lD hT lT => ?_)
  have F2 := F.madeAt sb hD lD
  have vlt : v < s.heap.objs.size := ltS hv
  have lD' : h₁.objs.size ≤ D := lD
  have lh₁ := F.ltL
  have vD : v < D := by omega
  have ne2 : ∀ p ∈ [(D, listObj (rs ++ [.ref t]) k)], p.1 ≠ v := fun p hp => by rw [List.mem_singleton.mp hp]; exact Nat.ne_of_gt vD
  refine assign2 F2 hA hT rfl (fun h3 F3 sb3 => ?_)
  have F3' : Fm w mg mb (AtBut s.heap [v]) L h3 _ [(v, vecObj d c tc r 5 ts t f tf), (D, listObj (rs ++ [.ref t]) k)] := F3.drop (fun p hp => by simp only [List.mem_cons, List.not_mem_nil, or_false] at hp ⊢; exact hp.symm)
  clear F3
  refine assignA ?_
  repeat (walk_at "M")
  refine sa_root (sl' := #[some (.int c tc), some (.ref D), some (.int 5 ts), some (.ref t), some (.int f tf)]) F3' ne2 (F3'.get hdd') rfl (fun h4 F4 => ?_)
  refine assignA ?_
  repeat (walk_at "M")
  refine sa_shift (sl' := #[some (.int c tc), some (.ref D), some (.int 5 ts'), some (.ref t), some (.int f tf)]) F4 ne2 (F4.get hdd') rfl (fun h5 F5 => ?_)
  repeat (walk_at "M")
  rename_i T6 h6 F6 lt6 ne6
  have F6' : Fm w mg mb (AtBut s.heap [v]) L h6 _ [(v, vecObj d c tc D 5 ts' t f tf), (T6, listObj [] 0), (D, listObj (rs ++ [.ref t]) k)] := F6.drop (fun p hp => by simp only [List.mem_cons, List.not_mem_nil, or_false] at hp ⊢; rcases hp with h | h | h <;> simp [h])
  refine sa_tail (sl' := #[some (.int c tc), some (.ref D), some (.int 5 ts'), some (.ref T6), some (.int f tf)]) F6' (fun p hp => ?_) (F6'.get hdd') rfl (fun h7 F7 => ?_)
  · simp only [List.mem_cons, List.not_mem_nil, or_false] at hp
    rcases hp with rfl | rfl
    · exact Nat.ne_of_gt (Nat.lt_trans (hL ▸ vlt) lt6)
    · exact Nat.ne_of_gt vD
  repeat (walk_at "M")
  exact ret D T6 ts' k h7 _ (fun b o hb e => F7.keep b o ⟨e, hb⟩) (F7.ownAt (.head _)) (F7.ownAt (.tail _ (.tail _ (.head _)))) (F7.ownAt (.tail _ (.head _))) (by omega) (by omega) (ne6 _ (.tail _ (.head _)))
theorem fillTail {w : World} {mg mb : Str → Option Value} {A : Around} {s : Shared} {Q E : Value → Shared → Prop} {v d r t l : Nat} {c : Int} {tc : Tok} {ts : Tok} {f : Int} {tf : Tok} {tl xs : List Value} {n n2 : Nat} {o : Nat} {tok : Tok}
    (G : Gr w mg mb s.heap) (hA : A.handled = none) (hd : A.depth + 1 < recursionLimit) (hv : s.heap.get? v = some (vecObj d c tc r 5 ts t f tf)) (nb : NB ≤ v) (hdd : s.heap.get? d = some (dictOf [] 0)) (ht : s.heap.get? t = some (listObj tl n)) (nbt : NB ≤ t) (hl : s.heap.get? l = some (listObj xs n2))
    (ndv : d ≠ v) (ntv : t ≠ v) (ndt : d ≠ t) (nlv : l ≠ v) (nlt : l ≠ t) (hz : xs.length < 2 ^ 19) (hlt : tl.length ≤ 32) (ho : o ≤ xs.length)
    (ret : ∀ tc' k tk h' tk', SubBut [v, t] s.heap h' → h'.get? v = some (vecObj d (c + ((xs.drop o).take (32 - tl.length)).length) tc' r 5 ts t f tf) → h'.get? t = some (listObj (tl ++ (xs.drop o).take (32 - tl.length)) k) → Q (.int (o + ((xs.drop o).take (32 - tl.length)).length) tk) { s with heap := h', toks := tk' }) :
    wpAny (model prog w) A (call (.ref fFillTail) [.ref v, .int o tok, .ref l]) Q E s := by
  refine enter (P := AtBut s.heap [v, t]) (own := [(v, vecObj d c tc r 5 ts t f tf), (t, listObj tl n)]) [("self", .ref v), ("offset", .int o tok), ("sequence", .ref l)] G (fun _ _ h => h.1) (fun p hp => ?_) (by rfl) (by rfl) (by omega) (BindsTo.of_eq (by rfl)) (locs (by rfl)) ?_
  · simp only [List.mem_cons, List.not_mem_nil, or_false] at hp
    rcases hp with rfl | rfl
    · exact ⟨hv, nb, fun o' q => q.2 (.head _)⟩
    · exact ⟨ht, nbt, fun o' q => q.2 (.tail _ (.head _))⟩
  intro L h₁ hL F
  have hdd' : AtBut s.heap [v, t] d (dictOf [] 0) := ⟨hdd, by simp [ndv, ndt]⟩
  have hl' : AtBut s.heap [v, t] l (listObj xs n2) := ⟨hl, by simp [nlv, nlt]⟩
  repeat (walk_at "M")
  rename_i h2 F2
  refine ⟨l, xs.toArray, _, _, rfl, isList_at (F2.get hl'), by rw [sizeLine_eq, List.size_toArray]; omega, .int _ _, .int _ _, ?_⟩
  rw [show (o : Int) + (32 - (tl.length : Int)) = ((o + (32 - tl.length) : Nat) : Int) by omega, pick_nat, show o + (32 - tl.length) - o = 32 - tl.length by omega]
  generalize hde : (xs.drop o).take (32 - tl.length) = de at ret
  have hdl : de.length ≤ xs.length := by rw [← hde]; simp; omega
  obtain ⟨F3, l3, n3⟩ := F2.sliced { cls := .type "slice", data := .fields #[.int o tok, .int ((o + (32 - tl.length) : Nat) : Int) _, .none] } (listObj de 0)
  have vlt := ltS hv
  have tlt := ltS ht
  have lh2 := F2.ltL
  generalize hD : h2.objs.size + 1 = D at F3 l3 n3
  repeat (walk_at "M")
  rename_i h4 F4
  have F4' := F4.drop (own' := [(t, listObj tl n), (D, listObj de 0), (v, vecObj d c tc r 5 ts t f tf)]) (by walk_at "perm")
  have nDv : D ≠ v := by omega
  have nDt : D ≠ t := by omega
  clear F4
  refine extendL F4' (fun p hp => ?_) (F4'.ownAt (.tail _ (.head _))) (by omega) (fun k5 h5 F5 => ?_)
  · simp only [List.mem_cons, List.not_mem_nil, or_false] at hp
    rcases hp with rfl | rfl
    · exact nDt
    · exact ntv.symm
  clear F4'
  repeat (walk_at "M")
  rename_i h6 F6
  have F6' := F6.drop (own' := [(v, vecObj d c tc r 5 ts t f tf), (t, listObj (tl ++ de) k5)]) (by walk_at "perm")
  clear F6
  refine sa_count (sl' := #[some (.int (c + de.length) _), some (.ref r), some (.int 5 ts), some (.ref t), some (.int f tf)]) F6' (fun p hp => by rw [List.mem_singleton.mp hp]; exact ntv) (F6'.get hdd') rfl (fun h7 F7 => ?_)
  repeat (walk_at "M")
  exact ret _ k5 _ h7 _ (fun b o hb e => F7.keep b o ⟨e, hb⟩) (F7.ownAt (.head _)) (F7.ownAt (.tail _ (.head _)))
theorem Fm.again {w : World} {mg mb : Str → Option Value} {P : Nat → Obj → Prop} {L : Nat} {h : Heap} {m : Str → Option Value} {own : List (Nat × Obj)} {x : Str} {a b : Value} (F : Fm w mg mb P L h (fun y => if y = x then some a else if y = x then some b else m y) own) : Fm w mg mb P L h (fun y => if y = x then some a else m y) own := by
  have e : (fun y => if y = x then some a else if y = x then some b else m y) = fun y => if y = x then some a else m y := by funext y; split <;> rfl
  exact e ▸ F
theorem Fm.after {w : World} {mg mb : Str → Option Value} {P : Nat → Obj → Prop} {L : Nat} {h h' : Heap} {m : Str → Option Value} {own own' : List (Nat × Obj)} (F : Fm w mg mb P L h m own) (k : SubBut (own.map Prod.fst) h h') (ho : ∀ p ∈ own', h'.get? p.1 = some p.2 ∧ (p.1 ∈ own.map Prod.fst ∨ h.objs.size ≤ p.1)) : Fm w mg mb P L h' m own' where
  G := F.G.low fun b o l e => k b o (fun hb => by obtain ⟨p, hp, rfl⟩ := List.mem_map.mp hb; exact absurd (F.own p hp).2.2.1 (Nat.not_le.mpr l)) e
  ns := let ⟨x, es, ep, hx, r⟩ := F.ns; ⟨x, es, ep, k _ _ (fun hb => by obtain ⟨p, hp, e⟩ := List.mem_map.mp hb; exact (F.own p hp).2.1 e) hx, r⟩
  lo := F.lo
  off := F.off
  keep := fun a o q => k _ _ (fun hb => by obtain ⟨p, hp, rfl⟩ := List.mem_map.mp hb; exact (F.own p hp).2.2.2 o q) (F.keep a o q)
  own := fun p hp => by
    obtain ⟨a1, a2 | a2⟩ := ho p hp
    · obtain ⟨q, hq, e⟩ := List.mem_map.mp a2
      have := (F.own q hq).2
      rw [e] at this
      exact ⟨a1, this⟩
    · exact ⟨a1, Nat.ne_of_gt (Nat.lt_of_lt_of_le F.ltL a2), Nat.le_trans F.G.size a2, fun o' q => absurd (ltS (F.keep _ _ q)) (Nat.not_lt.mpr a2)⟩
theorem Leaves.snoc {P : Nat → Obj → Prop} {t : Nat} {tl : List Value} (ht : PL P t tl) (hl : tl.length = 32) : ∀ {as : List Nat} {ls : List (List Value)}, Leaves P as ls → Leaves P (as ++ [t]) (ls ++ [tl])
  | [], [], _ => ⟨ht, hl, trivial⟩
  | _ :: _, _ :: _, ⟨q, e, r⟩ => ⟨q, e, Leaves.snoc ht hl r⟩
  | [], _ :: _, h => h.elim
  | _ :: _, [], h => h.elim
theorem Leaves.len {P : Nat → Obj → Prop} : ∀ {as : List Nat} {ls : List (List Value)}, Leaves P as ls → as.length = ls.length ∧ ls.flatten.length = 32 * ls.length
  | [], [], _ => ⟨rfl, rfl⟩
  | _ :: _, _ :: _, ⟨q, e, r⟩ => by have := Leaves.len r; simp only [List.length_cons, List.flatten_cons, List.length_append, e]; omega
  | [], _ :: _, h => h.elim
  | _ :: _, [], h => h.elim
/-- the loop's state in _mutating_extend -/
def MX (w : World) (mg mb : Str → Option Value) (P P0 : Nat → Obj → Prop) (N t0 : Nat) (L : Nat) (v d l : Nat) (f : Int) (tf : Tok) (xs ys : List Value) (S : Shared) (n : Nat) (s : Shared) : Prop :=
  ∃ (o : Nat) (to tn : Tok) (h : Heap) (tk : Nat) (m : Str → Option Value) (P' P1 : Nat → Obj → Prop) (r t : Nat) (tc ts : Tok) (as : List Nat) (ls : List (List Value)) (tl : List Value) (k : Nat),
    s = { S with heap := h, toks := tk } ∧ n = 2 * (ys.length - o) + (if tl.length = 32 then 1 else 0) ∧ o ≤ ys.length ∧ Fm w mg mb P' L h m [(v, vecObj d (ls.flatten ++ tl).length tc r 5 ts t f tf), (t, listObj tl k)] ∧
    m "offset" = some (.int o to) ∧ m "sequence_len" = some (.int ys.length tn) ∧ m "self" = some (.ref v) ∧ m "sequence" = some (.ref l) ∧
    t ≠ v ∧ (∀ a o, P a o → P' a o) ∧ VecOf P1 d r as ls ∧ (∀ a o, P1 a o → P' a o) ∧ (∀ a o, P1 a o → P0 a o ∨ a = t0 ∨ N ≤ a) ∧ (t = t0 ∨ N ≤ t) ∧ ls.flatten ++ tl = xs ++ ys.take o ∧ tl.length ≤ 32
theorem mutExt {w : World} {mg mb : Str → Option Value} {A : Around} {s : Shared} {Q E : Value → Shared → Prop} {v d r t l : Nat} {tc : Tok} {ts : Tok} {f : Int} {tf : Tok} {as : List Nat} {ls : List (List Value)} {tl ys : List Value} {n n2 : Nat} {P0 : Nat → Obj → Prop}
    (G : Gr w mg mb s.heap) (hA : A.handled = none) (hd : A.depth + 4 < recursionLimit) (hv : s.heap.get? v = some (vecObj d (ls.flatten ++ tl).length tc r 5 ts t f tf)) (nb : NB ≤ v) (ht : s.heap.get? t = some (listObj tl n)) (nbt : NB ≤ t)
    (V : VecOf P0 d r as ls) (hP0 : ∀ a o, P0 a o → AtBut s.heap [v, t] a o) (hl : s.heap.get? l = some (listObj ys n2)) (nlv : l ≠ v) (nlt : l ≠ t) (ntv : t ≠ v) (htl : tl.length ≤ 32) (hz : (ls.flatten ++ tl).length + ys.length < 1056)
    (ret : ∀ h' tk', SubBut [v, t] s.heap h' → Vec (fun a o => h'.get? a = some o ∧ (P0 a o ∨ a = v ∨ a = t ∨ s.heap.objs.size ≤ a)) v (ls.flatten ++ tl ++ ys) → Q .none { s with heap := h', toks := tk' }) :
    wpAny (model prog w) A (call (.ref fMutExt) [.ref v, .ref l]) Q E s := by
  refine enter (P := AtBut s.heap [v, t]) (own := [(v, vecObj d (ls.flatten ++ tl).length tc r 5 ts t f tf), (t, listObj tl n)]) [("self", .ref v), ("sequence", .ref l)] G (fun _ _ h => h.1) (fun p hp => ?_) (by rfl) (by rfl) (by omega) (BindsTo.of_eq (by rfl)) (locs (by rfl)) ?_
  · simp only [List.mem_cons, List.not_mem_nil, or_false] at hp
    rcases hp with rfl | rfl
    · exact ⟨hv, nb, fun o' q => q.2 (.head _)⟩
    · exact ⟨ht, nbt, fun o' q => q.2 (.tail _ (.head _))⟩
  intro L h₁ hL F
  have hl' : AtBut s.heap [v, t] l (listObj ys n2) := ⟨hl, by simp [nlv, nlt]⟩
  repeat (walk_at "M")
  rename_i hb Fb hc Fc
  refine wpAny_While (codeAny_whileLoop (MX w mg mb (AtBut s.heap [v, t]) P0 s.heap.objs.size t L v d l f tf (ls.flatten ++ tl) ys s) ?_ (2 * (ys.length - 0) + (if tl.length = 32 then 1 else 0)) ?_)
  · rintro nn s' ⟨o, to, tn, h, tk, m, P', P1, r, t', tc, ts, as, ls', tl', k, rfl, rfl, ho, F, m1, m2, m3, m4, ntv, hP, V, hV1, hV2, ht0, he, htl'⟩
    have V1 := hV1 _ _ V.dict
    have lLh := F.ltL
    have V2 := hP _ _ hl'
    repeat (walk_at "M")
    by_cases hlt : o < ys.length
    · refine ite_pos (by simpa using hlt) ?_
      repeat (walk_at "M")
      have w1 := F.own _ (.head _)
      have w2 := F.own _ (.tail _ (.head _))
      have ndv : d ≠ v := fun e => w1.2.2.2 _ (e ▸ V1)
      have ndt : d ≠ t' := fun e => w2.2.2.2 _ (e ▸ V1)
      have nlv : l ≠ v := fun e => w1.2.2.2 _ (e ▸ V2)
      have nlt : l ≠ t' := fun e => w2.2.2.2 _ (e ▸ V2)
      refine fillTail F.G hA (by show A.depth + 1 + 1 < _; omega) w1.1 w1.2.2.1 (F.get V1) w2.1 w2.2.2.1 (F.get V2) ndv ntv ndt nlv nlt (by omega) htl' ho (fun tc' k3 tk3 h3 tk3' sb3 hv3 ht3 => ?_)
      have F3 := F.after (own' := [(v, _), (t', _)]) sb3 (fun p hp => by
        simp only [List.mem_cons, List.not_mem_nil, or_false] at hp
        rcases hp with rfl | rfl
        · exact ⟨hv3, .inl (by simp)⟩
        · exact ⟨ht3, .inl (by simp)⟩)
      clear F
      generalize hde : (ys.drop o).take (32 - tl'.length) = de at *
      have dl : de.length = min (32 - tl'.length) (ys.length - o) := by rw [← hde]; simp
      have hn : ((ls'.flatten ++ tl').length : Int) + de.length = ((ls'.flatten ++ (tl' ++ de)).length : Nat) := by simp; omega
      have ho' : (o : Int) + de.length = ((o + de.length : Nat) : Int) := by simp
      have he' : ls'.flatten ++ (tl' ++ de) = ls.flatten ++ tl ++ ys.take (o + de.length) := by
        rw [← List.append_assoc, he, List.take_add, List.append_assoc, List.append_assoc, List.append_assoc, ← hde]
        congr 3
        rw [List.take_eq_take_iff]
        simp
        try omega
      have hlen : (ls'.flatten ++ (tl' ++ de)).length < 1056 := by rw [he']; simp at hz ⊢; omega
      rw [hn] at F3
      rw [ho']
      repeat (walk_at "M")
      rename_i h4 F4
      clear F3
      by_cases h32 : (tl' ++ de).length = 32
      · refine ite_pos (by simp at h32 ⊢; omega) ?_
        repeat (walk_at "M")
        have w1 := F4.own _ (.head _)
        have w2 := F4.own _ (.tail _ (.head _))
        obtain ⟨nr, hr1⟩ := V.root
        have hr := hV1 _ _ hr1
        have nrv : r ≠ v := fun e => w1.2.2.2 _ (e ▸ hr)
        have nrt : r ≠ t' := fun e => w2.2.2.2 _ (e ▸ hr)
        have F5 := (F4.swap).freeze (by simpa using ntv.symm)
        have lv := V.leaves.len
        refine insTail F5.G hA (by show A.depth + 1 + 2 < _; omega) w1.1 w1.2.2.1 (F4.get V1) ndv (F4.get hr) nrv (by rw [List.length_map]; rw [List.length_append] at hlen; omega) (by omega) (by omega) (fun D T ts' k6 h6 tk6 sb6 hv6 hD6 hT6 lD lT nDT => ?_)
        have vl := ltS w1.1
        have lD' : h4.objs.size ≤ D := lD
        have lT' : h4.objs.size ≤ T := lT
        have F6 := F5.after (own' := [(D, _), (v, _), (T, _)]) sb6 (fun p hp => by
          simp only [List.mem_cons, List.not_mem_nil, or_false] at hp
          rcases hp with rfl | rfl | rfl
          · exact ⟨hD6, .inr lD⟩
          · exact ⟨hv6, .inl (by simp)⟩
          · exact ⟨hT6, .inr lT⟩)
        have F7 := F6.freeze (by simp; omega)
        have V7 : VecOf (Add (Add P1 t' (listObj (tl' ++ de) k3)) D (listObj (as.map .ref ++ [.ref t']) k6)) d D (as ++ [t']) (ls' ++ [tl' ++ de]) :=
          ⟨.inl (.inl V.dict), ⟨k6, .inr ⟨rfl, by simp⟩⟩, (V.leaves.mono fun _ _ q => .inl (.inl q)).snoc ⟨k3, .inl (.inr ⟨rfl, rfl⟩)⟩ h32⟩
        have lL4 := F4.ltL
        have hV1' : ∀ a o, Add (Add P1 t' (listObj (tl' ++ de) k3)) D (listObj (as.map .ref ++ [.ref t']) k6) a o → Add (Add P' t' (listObj (tl' ++ de) k3)) D (listObj (as.map .ref ++ [.ref t']) k6) a o := fun a o q => q.elim (fun q => .inl (q.elim (fun q => .inl (hV1 _ _ q)) .inr)) .inr
        have hV2' : ∀ a o, Add (Add P1 t' (listObj (tl' ++ de) k3)) D (listObj (as.map .ref ++ [.ref t']) k6) a o → P0 a o ∨ a = t ∨ s.heap.objs.size ≤ a := fun a o q => q.elim (fun q => q.elim (hV2 a o) fun e => by rw [e.1]; exact .inr ht0) fun e => by rw [e.1]; exact .inr (.inr (by omega))
        repeat (walk_at "M")
        refine ⟨_, ?_, o + de.length, _, _, h6, _, _, _, _, D, T, _, _, as ++ [t'], ls' ++ [tl' ++ de], [], _, rfl, rfl, by omega, by simpa using F7, by walk_at "nm", by walk_at "nm", by walk_at "nm", by walk_at "nm", by omega, fun a o q => .inl (.inl (hP a o q)), V7, hV1', hV2', .inr (by omega), by simpa using he', by simp⟩
        simp
        split <;> omega
      · refine ite_neg (by simp at h32 ⊢; omega) ?_
        refine wpAny_execs_nil ?_
        dsimp only
        refine wpAny_execs_nil ?_
        refine ⟨_, ?_, o + de.length, _, _, h4, _, _, P', P1, r, t', _, _, as, ls', tl' ++ de, _, rfl, rfl, by omega, F4, by walk_at "nm", by walk_at "nm", by walk_at "nm", by walk_at "nm", ntv, hP, V, hV1, hV2, ht0, he', by simp; omega⟩
        rw [if_neg h32]
        simp at h32
        omega
    · refine ite_neg (by simpa using hlt) ?_
      repeat (walk_at "M")
      refine sa_off (sl' := #[some (.int (ls'.flatten ++ tl').length tc), some (.ref r), some (.int 5 ts), some (.ref t'), some (.int ((ls'.flatten ++ tl').length - tl'.length) _)]) F (by simpa using ntv) (F.get V1) rfl (fun h3 F3 => ?_)
      repeat (walk_at "M")
      have e1 : ls'.flatten ++ tl' = ls.flatten ++ tl ++ ys := by rw [he, List.take_of_length_le (by omega)]
      refine ret _ _ (fun b o hb e => F3.keep _ _ (hP _ _ ⟨e, hb⟩)) ⟨d, r, t', _, _, _, as, ls', tl', ⟨by rw [← e1]; simpa using F3.ownAt (.head _), .inr (.inl rfl)⟩, V.mono (fun a o q => ⟨F3.keep _ _ (hV1 _ _ q), (hV2 _ _ q).elim .inl fun q => .inr (.inr q)⟩), ⟨_, F3.ownAt (.tail _ (.head _)), .inr (.inr ht0)⟩, htl', e1.symm⟩
  · exact ⟨0, _, _, hc, _, _, _, P0, r, t, tc, ts, as, ls, tl, n, rfl, rfl, Nat.zero_le _, Fc, by walk_at "nm", by walk_at "nm", by walk_at "nm", by walk_at "nm", ntv, fun _ _ h => h, V, hP0, fun _ _ q => .inl q, .inl rfl, by simp, htl⟩
section
variable {w : World} {mg mb : Str → Option Value} {A : Around} {E Q : Value → Shared → Prop} {s : Shared} {xs : List Value} {n l : Nat}
theorem kc_clsIn (P : Params) : (clsIn (K P) C).isSome = true := by kernel_rfl!
theorem kc_type (P : Params) : typeIn (K P) (.ref C) = some (.type "type") := by kernel_rfl!
theorem kc_inst (P : Params) : instIn (K P) (.ref C) (.type "type") = some true := by kernel_rfl!
theorem kc_listSub (P : Params) : subIn (K P) (.type "list") (.ref C) = some false := by kernel_rfl!
theorem isi_list (G : Gr w mg mb s.heap) (hl : s.heap.get? l = some (listObj xs n)) (h : Q (.bool false) { s with toks := s.toks + 1 }) :
    wpAny (model prog w) A (call (.builtin "isinstance") [.ref l, .ref C]) Q E s := by
  obtain ⟨hh, g, d, tt, os⟩ := s
  dsimp only at G hl h
  refine call_isinstance_of ?_ (by intro e; cases e)
  unfold Builtin.«isinstance.nested» rawInt
  have L0 : Looks (model prog w) hh (typeOf (.ref l)) (.type "list") := ((Looks.ld (part := none) hl).andThen .now)
  have L1 := looks_typeIn (M := model prog w) G.X (kc_type w.params)
  have L2 := looks_instIn (M := model prog w) G.X (kc_inst w.params)
  have L4 := looks_subIn (M := model prog w) G.X (kc_listSub w.params)
  have L3 : Looks (model prog w) hh (isInstance (.ref l) (.ref C)) false := L0.andThen L4
  refine wpAny_bind (L0.at ?_)
  rw [if_neg (by decide)]
  refine wpAny_bind (L1.at ?_)
  rw [if_pos (by decide)]
  k_delta "plainIsInstance"
  have e0 := kc_clsIn w.params
  unfold clsIn at e0
  split at e0
  · rename_i ho
    unfold isType
    repeat lk
    refine nd_load (G.X _ _ ho) (nd_pure (wpAny_pure ?_))
    simp only [Bool.not_true, Bool.false_eq_true, if_false]
    refine wpAny_bind (L3.at ?_)
    simp only [Bool.false_eq_true, if_false]
    refine wpAny_bind (class_attr_list hl rfl ?_)
    dsimp only
    refine wpAny_bind (wpAny_pure ?_)
    rw [if_neg (by decide)]
    refine wpAny_bind (wpAny_rule (L4.at ?_))
    exact wpAny_pure h
  · cases e0
end
section
variable {w : World} {mg mb : Str → Option Value} {A : Around} {E Q : Value → Shared → Prop} {s : Shared} {xs : List Value} {n l : Nat}
theorem truthyL {Q : Bool → Shared → Prop} (hl : s.heap.get? l = some (listObj xs n)) (hz : xs.length < 2 ^ 30) (h : Q (!xs.isEmpty) { s with toks := s.toks + 1 + 1 }) : wpAny (model prog w) A (truthy (.ref l)) Q E s := by
  refine wpAny_truthy_list (isList_at hl) (by simp; omega) ?_
  cases xs <;> exact h
theorem itemL {value slice : PySem.Expr} {k : Nat} {t : Tok} {x : Value} (hl : s.heap.get? l = some (listObj xs n)) (hz : xs.length < 2 ^ 30) (hx : xs[k]? = some x) (h : Q x s)
    (hs : subscripted slice false (.ref l) (.int k t) = operate [.ref l, .int k t] (getItem (.ref l) (.int k t)) := by rfl) : wpAny (model prog w) A (subscriptTail value slice (.ref l) (.int k t)) Q E s := by
  have hk := (List.getElem?_eq_some_iff.mp hx).1
  exact tail_any (isList_at hl).typeIs slot_list_getitem.lookup (wpAny_getItem_list (isList_at hl) (by omega) (by omega) (by simpa using hx) h) hs
end
local macro_rules | `(tactic| walk_at "N") => `(tactic| first
  | walk_at "M"
  | with_reducible refine truthy_int ?_
  | with_reducible refine Constant_none ?_
  | with_reducible refine is_int_none ?_
  | with_reducible refine is_none_none ?_
  | ((with_reducible show wpAny _ _ (PySem.isTrue (Expr.BoolOp BoolOp.And _ _) _ _) _ _ _); first | refine isTrue_and ?_ | refine isTrue_and_nil ?_)
  | ((with_reducible show wpAny _ _ (PySem.isTrue (Expr.BoolOp BoolOp.Or _ _) _ _) _ _ _); first | refine isTrue_or ?_ | refine isTrue_or_nil ?_)
  | ((with_reducible show wpAny _ _ (eval (Expr.UnaryOp UnaryOp.USub _ _) _) _ _ _); refine wpAny_UnaryOp ?_)
  | with_reducible refine neg_int ?_
  | ((with_reducible show wpAny _ _ (testChain _ _ (_ :: _ :: _) _) _ _ _); refine test_link ?_)
  | ((with_reducible show wpAny _ _ (testChain _ _ [_] _) _ _ _); refine test_last ?_)
  | ((with_reducible show wpAny _ _ (call (Value.builtin "isinstance") [Value.int _ _, Value.type "int"]) _ _ _); refine PySem.IsiPair.int_int ?_)
  | ((with_reducible show wpAny _ _ (exec (Stmt.AugAssign (Expr.Name _ _) _ _ _) _) _ _ _); refine wpAny_AugAssign_Name ?_)
  | ((with_reducible show wpAny _ _ (loadName _ _) _ _ _); refine lnL (by assumption) (by walk_at "nm") ?_)
  | ((with_reducible show wpAny _ _ (exec (Stmt.For _ _ _ _ _) _) _ _ _); refine wpAny_For ?_)
  | with_reducible refine isub_int ?_
  | ((with_reducible show wpAny _ _ (eval (Expr.IfExp _ _ _ _) _) _ _ _); refine wpAny_IfExp ?_)
  | ((with_reducible show wpAny _ _ (PySem.isTrue (Expr.Compare _ [_, _] [_, _] _) _ _) _ _ _); refine isTrue_chain ?_)
  | ((with_reducible show wpAny _ _ (PySem.isTrue (Expr.UnaryOp UnaryOp.Not _ _) _ _) _ _ _); refine isTrue_not ?_)
  | ((with_reducible show wpAny _ _ (PySem.isTrue (Expr.Call _ _ _ _) _ _) _ _ _); refine isTrue_plain ?_)
  | ((with_reducible show wpAny _ _ (PySem.isTrue (Expr.Name _ _) _ _) _ _ _); refine isTrue_plain ?_)
  | ((with_reducible show wpAny _ _ (truthy (Value.ref _)) _ _ _); refine truthyL (by walk_at "obj") (by walk_at "lt") ?_)
  | ((with_reducible show wpAny _ _ (call (Value.builtin "isinstance") [Value.ref _, Value.ref C]) _ _ _); refine isi_list (Fm.G (by assumption)) (by walk_at "obj") ?_))
theorem pick_from (xs : List Value) (a : Nat) : (slicePick xs.toArray (some (a : Int)) none none) = (xs.drop a).toArray := by
  rw [slicePick_plain]
  simp only [Option.elim, clipAt_nat, List.size_toArray]
  congr 1
  apply List.ext_getElem?
  intro i
  simp only [List.getElem?_take, List.getElem?_drop]
  by_cases h1 : i < xs.length - min a xs.length
  · rw [if_pos h1]
    congr 1
    omega
  · rw [if_neg h1, List.getElem?_eq_none (by omega)]
theorem Fm.rebase {w : World} {mg mb : Str → Option Value} {P : Nat → Obj → Prop} {L : Nat} {h : Heap} {m : Str → Option Value} {own : List (Nat × Obj)} (F : Fm w mg mb P L h m own) : Fm w mg mb (AtBut h (L :: own.map Prod.fst)) L h m own where
  G := F.G
  ns := F.ns
  lo := F.lo
  off := fun a o q e => q.2 (e ▸ List.mem_cons_self)
  keep := fun a o q => q.1
  own := fun p hp => let ⟨a1, a2, a3, a4⟩ := F.own p hp; ⟨a1, a2, a3, fun o' q => q.2 (List.mem_cons_of_mem _ (List.mem_map_of_mem hp))⟩
/-- what was known, or is new -/
abbrev Nw (P0 : Nat → Obj → Prop) (h h' : Heap) : Nat → Obj → Prop := fun a o => h'.get? a = some o ∧ (P0 a o ∨ h.objs.size ≤ a)
theorem pushed {h h' : Heap} {d r t v' d' r' t' : Nat} {c f : Int} {as : List Nat} {ls : List (List Value)} {tl : List Value} {x : Value} {nt : Nat} {P0 : Nat → Obj → Prop} (S : List Nat) (sb : Sub h h') (hP0 : ∀ a o, P0 a o → h.get? a = some o) (V : VecOf P0 d r as ls) (ht : P0 t (listObj tl nt)) (htl : tl.length ≤ 32)
    (W : VAt h' v' d' r' t' c f (push1 t (as.map .ref) tl x).1 (push1 t (as.map .ref) tl x).2) (hS : ∀ a ∈ S, h.objs.size ≤ a) (hdS : d' ∉ S) (hrS : r' ∉ S) (ld : h.objs.size ≤ d') (lr : r' = r ∨ h.objs.size ≤ r') :
    ∃ as' ls', VecOf (fun a o => AtBut h' S a o ∧ (P0 a o ∨ h.objs.size ≤ a)) d' r' as' ls' ∧ ls'.flatten ++ (push1 t (as.map .ref) tl x).2 = ls.flatten ++ tl ++ [x] ∧ (push1 t (as.map .ref) tl x).2.length ≤ 32 := by
  obtain ⟨_, hd', ⟨nr', hr'⟩, _⟩ := W
  obtain ⟨nr, hr⟩ := V.root
  have old : ∀ a o, P0 a o → AtBut h' S a o ∧ (P0 a o ∨ h.objs.size ≤ a) := fun a o q => ⟨⟨sb _ _ (hP0 _ _ q), fun z => by have := ltS (hP0 _ _ q); have := hS a z; omega⟩, .inl q⟩
  by_cases hlt : tl.length < 32
  · have e : push1 t (as.map .ref) tl x = (as.map .ref, tl ++ [x]) := if_pos hlt
    rw [e] at hr' ⊢
    refine ⟨as, ls, ⟨⟨⟨hd', hdS⟩, .inr ld⟩, ?_, V.leaves.mono old⟩, by simp, by simp; omega⟩
    rcases lr with q | q
    · subst q; exact ⟨nr, old _ _ hr⟩
    · exact ⟨nr', ⟨hr', hrS⟩, .inr q⟩
  · have e : push1 t (as.map .ref) tl x = (as.map .ref ++ [.ref t], [x]) := if_neg hlt
    rw [e] at hr' ⊢
    refine ⟨as ++ [t], ls ++ [tl], ⟨⟨⟨hd', hdS⟩, .inr ld⟩, ⟨nr', ⟨by simpa using hr', hrS⟩, ?_⟩, (V.leaves.mono old).snoc ⟨nt, old _ _ ht⟩ (by omega)⟩, by simp, by simp⟩
    rcases lr with q | q
    · subst q
      have := (sb _ _ (hP0 _ _ hr)).symm.trans hr'
      injection this with this
      injection this with _ _ this _
      injection this with this _
      have := congrArg Array.size this
      simp at this
    · exact .inr q
theorem appendV {w : World} {mg mb : Str → Option Value} {A : Around} {s : Shared} {Q E : Value → Shared → Prop} {v : Nat} {xs : List Value} {x : Value} {P0 : Nat → Obj → Prop}
    (G : Gr w mg mb s.heap) (hA : A.handled = none) (hd : A.depth + 3 < recursionLimit) (hP0 : ∀ a o, P0 a o → s.heap.get? a = some o) (V : Vec P0 v xs) (hz : xs.length < 1056)
    (ret : ∀ v' h' tk', Sub s.heap h' → Vec (Nw P0 s.heap h') v' (xs ++ [x]) → Q (.ref v') { s with heap := h', toks := tk' }) :
    wpAny (model prog w) A (call (.ref fAppend) [.ref v, x]) Q E s := by
  obtain ⟨d, r, t, tc, ts, tf, as, ls, tl, hv, hV, ⟨nt, ht⟩, htl, rfl⟩ := V
  have lv := hV.leaves.len
  refine append_ (v := v) (t := t) (rs := as.map .ref) (tl := tl) G hA hd ⟨⟨_, _, _, hP0 _ _ hv⟩, hP0 _ _ hV.dict, let ⟨n, q⟩ := hV.root; ⟨n, hP0 _ _ q⟩, nt, hP0 _ _ ht⟩ (by rw [List.length_map]; rw [List.length_append] at hz; omega) htl (by omega) (by omega) (fun v' d' r' t' h' tk' sb W lv ld lt lr n1 n2 n3 n4 n5 n6 => ?_)
  obtain ⟨as', ls', V', e, hl'⟩ := pushed [] sb hP0 hV ht htl W (fun _ h => nomatch h) (fun h => nomatch h) (fun h => nomatch h) ld lr
  obtain ⟨⟨tc', ts', tf', hv'⟩, _, _, ⟨nt', ht'⟩⟩ := W
  have e1 : ((ls.flatten ++ tl).length : Int) + 1 = ((ls.flatten ++ tl ++ [x]).length : Nat) := by simp; omega
  have e2 : (push1 t (as.map .ref) tl x).2.length ≤ (ls.flatten ++ tl ++ [x]).length := by rw [← e]; simp
  rw [e1] at hv'
  rw [show ((ls.flatten ++ tl ++ [x]).length : Int) - ((push1 t (as.map .ref) tl x).2.length : Nat) = (((ls.flatten ++ tl ++ [x]).length - (push1 t (as.map .ref) tl x).2.length : Nat) : Int) by omega] at hv'
  exact ret v' h' tk' sb ⟨d', r', t', tc', ts', tf', as', ls', (push1 t (as.map .ref) tl x).2, ⟨hv', .inr lv⟩, V'.mono (fun _ _ q => ⟨q.1.1, q.2⟩), ⟨nt', ht', .inr lt⟩, hl', e.symm⟩
theorem extendV {w : World} {mg mb : Str → Option Value} {A : Around} {s : Shared} {Q E : Value → Shared → Prop} {v l : Nat} {xs ys : List Value} {n : Nat} {P0 : Nat → Obj → Prop}
    (G : Gr w mg mb s.heap) (hA : A.handled = none) (hd : A.depth + 5 < recursionLimit) (hP0 : ∀ a o, P0 a o → s.heap.get? a = some o) (V : Vec P0 v xs) (hl : s.heap.get? l = some (listObj ys n)) (hz : xs.length + ys.length < 1056)
    (ret : ∀ v' h' tk', Sub s.heap h' → Vec (Nw P0 s.heap h') v' (xs ++ ys) → Q (.ref v') { s with heap := h', toks := tk' }) :
    wpAny (model prog w) A (call (.ref fExtend) [.ref v, .ref l]) Q E s := by
  obtain ⟨d, r, t, tc, ts, tf, as, ls, tl, hv0, hV0, ⟨nt, ht0⟩, htl, rfl⟩ := V
  have hv := hP0 _ _ hv0
  have hV := hV0.mono hP0
  have ht := hP0 _ _ ht0
  refine enter (P := At s.heap) (own := []) [("self", .ref v), ("obj", .ref l)] G (fun _ _ h => h) (fun _ h => nomatch h) (by rfl) (by rfl) (by omega) (BindsTo.of_eq (by rfl)) (locs (by rfl)) ?_
  intro L h₁ hL F
  repeat (walk_at "N")
  refine ite_neg (by decide) ?_
  repeat (walk_at "N")
  refine copyL F (F.get hl) (by omega) (fun D c h2 F2 lD ne2 => ?_)
  clear F
  have hV1 := hV.dict
  repeat (walk_at "N")
  rename_i h3 F3
  clear F2
  rcases ys with _ | ⟨y, ys⟩
  · refine ite_neg (by simp) ?_
    repeat (walk_at "N")
    exact ret v _ _ F3.keep ⟨d, r, t, tc, ts, tf, as, ls, tl, by simpa using (⟨F3.get hv, .inl hv0⟩ : Nw P0 s.heap h3 v _), hV0.mono (fun a o q => ⟨F3.get (hP0 _ _ q), .inl q⟩), ⟨nt, F3.get ht, .inl ht0⟩, htl, by simp⟩
  · refine ite_pos (by simp) ?_
    repeat (walk_at "N")
    refine itemL (k := 0) (F3.ownAt (.head _)) (by omega) rfl ?_
    repeat (walk_at "N")
    have lv := hV.leaves.len
    refine append_ (v := v) (t := t) (rs := as.map .ref) (tl := tl) F3.G hA (by show A.depth + 1 + 3 < _; omega) ⟨⟨_, _, _, F3.get hv⟩, F3.get hV.dict, let ⟨n, q⟩ := hV.root; ⟨n, F3.get q⟩, nt, F3.get ht⟩ (by rw [List.length_map]; rw [List.length_append] at hz; omega) htl (by omega) (by simp at hz; simp; omega) (fun v' d' r' t' h4 tk4 sb W lv ld lt lr n1 n2 n3 n4 n5 n6 => ?_)
    have lv' : h3.objs.size ≤ v' := lv
    have lt' : h3.objs.size ≤ t' := lt
    have ld' : h3.objs.size ≤ d' := ld
    have lr' : r' = r ∨ h3.objs.size ≤ r' := lr
    have lL := F3.ltL
    obtain ⟨nr, hr⟩ := hV.root
    have ltr := ltS hr
    have sb' : Sub s.heap h4 := fun b o e => sb _ _ (F3.keep b o e)
    obtain ⟨as', ls', V', e, hl'⟩ := pushed [L, v', t'] sb' hP0 hV0 ht0 htl W (by intro a ha; simp only [List.mem_cons, List.not_mem_nil, or_false] at ha; omega) (by simp only [List.mem_cons, List.not_mem_nil, or_false]; omega) (by simp only [List.mem_cons, List.not_mem_nil, or_false]; omega) (by omega) (by omega)
    obtain ⟨⟨tc', ts', tf', hv'⟩, _, _, ⟨nt', ht'⟩⟩ := W
    generalize (push1 t (as.map .ref) tl y).2 = tl' at *
    have lD3 := ltS (F3.ownAt (.head _))
    have hD4 := sb _ _ (F3.ownAt (.head _))
    have F4 := (F3.after (own' := [(v', _), (t', _)]) (fun b o _ e => sb b o e) (fun p hp => by
      simp only [List.mem_cons, List.not_mem_nil, or_false] at hp
      rcases hp with rfl | rfl
      · exact ⟨hv', .inr lv⟩
      · exact ⟨ht', .inr lt⟩)).rebase
    clear F3
    have hd4 := V'.dict.1
    have hD5 : AtBut h4 [L, v', t'] D (listObj (y :: ys) c) := ⟨hD4, by simp only [List.mem_cons, List.not_mem_nil, or_false]; omega⟩
    repeat (walk_at "N")
    rename_i h5 F5
    refine ⟨D, (y :: ys).toArray, _, _, rfl, isList_at (F5.get hD5), by rw [sizeLine_eq, List.size_toArray]; omega, .int _ _, .none, ?_⟩
    rw [show (1 : Int) = ((1 : Nat) : Int) from rfl, pick_from, List.drop_one, List.tail_cons]
    obtain ⟨F6, l6, n6⟩ := F5.sliced { cls := .type "slice", data := .fields #[.int ((1 : Nat) : Int) (tk4 + 1), .none, .none] } (listObj ys 0)
    generalize hD6 : h5.objs.size + 1 = D6 at F6 l6 n6
    clear F5
    repeat (walk_at "N")
    have w1 := F6.own _ (.tail _ (.head _))
    have w2 := F6.own _ (.tail _ (.tail _ (.head _)))
    have e1 : ((ls.flatten ++ tl).length : Int) + 1 = ((ls'.flatten ++ tl').length : Nat) := by rw [e]; simp; omega
    rw [e1] at w1
    have ne1 := n6 _ (.head _)
    have ne2 := n6 _ (.tail _ (.head _))
    have lL6 := F6.ltL
    refine mutExt (l := D6) F6.G hA (by show A.depth + 1 + 4 < _; omega) w1.1 w1.2.2.1 w2.1 w2.2.2.1 V' (fun a o q => ⟨F6.keep _ _ q.1, fun q' => q.1.2 (.tail _ q')⟩) (F6.ownAt (.head _)) (Ne.symm ne1) (Ne.symm ne2) n2 hl' (by rw [e]; simp at hz ⊢; omega) (fun h7 tk7 sb7 V7 => ?_)
    have F7 := (F6.tl).after (own' := []) sb7 (fun p hp => nomatch hp)
    repeat (walk_at "N")
    refine ret v' h7 _ (fun (b : Nat) o eb => ?_) ?_
    · have lb := ltS eb
      have nb : b ∉ [v', t'] := by simp only [List.mem_cons, List.not_mem_nil, or_false]; omega
      exact F7.keep _ _ ⟨sb' _ _ eb, by simp only [List.map_cons, List.map_nil, List.mem_cons, List.not_mem_nil, or_false]; omega⟩
    · rw [e] at V7
      rw [show ls.flatten ++ tl ++ (y :: ys) = ls.flatten ++ tl ++ [y] ++ ys by simp]
      refine V7.mono (fun a o q => ⟨q.1, ?_⟩)
      rcases q.2 with q | q | q | q
      · exact q.2
      · exact .inr (by omega)
      · exact .inr (by omega)
      · exact .inr (Nat.le_trans (Nat.le_of_lt (hL ▸ lL6)) q)
/-- a loop over a list that stands -/
theorem iterL {w : World} {mg mb : Str → Option Value} {P : Nat → Obj → Prop} {L l n : Nat} {m : Str → Option Value} {own : List (Nat × Obj)} {A : Around} {E : Value → Shared → Prop} {R : Result → Shared → Prop} {s : Shared} {env : Env} {items : List Value} {x : Str} {px : Pos} {body : List Stmt}
    (F : Fm w mg mb P L s.heap m own) (hh : A.handled = none) (hl : P l (listObj items n)) (J : Nat → (Nat → Obj → Prop) → (Str → Option Value) → List (Nat × Obj) → Prop) (h0 : J 0 P m own)
    (step : ∀ E' i v P' m' own' it io h tk, items[i]? = some v → (∀ a o, P a o → P' a o) → J i P' m' own' → (∀ p ∈ own', p.1 ≠ it) → Fm w mg mb P' L h (fun y => if y = x then some v else m' y) ((it, io) :: own') →
      wpAny (model prog w) A (execs body env) (fun f s' => match f with
        | .next | .cont => ∃ h' tk' P'' m'' own'', s' = { s with heap := h', toks := tk' } ∧ Fm w mg mb P'' L h' m'' ((it, io) :: own'') ∧ (∀ p ∈ own'', p.1 ≠ it) ∧ (∀ a o, P' a o → P'' a o) ∧ J (i + 1) P'' m'' own''
        | .brk => False
        | .ret v => R (.ok (.ret v)) s') E' { s with heap := h, toks := tk })
    (done : ∀ h' tk' P' m' own', Fm w mg mb P' L h' m' own' → (∀ a o, P a o → P' a o) → J items.length P' m' own' → R (.ok .next) { s with heap := h', toks := tk' })
    (hL : env.locals = L := by rfl) (hk : env.scope.kind = .function := by rfl) (hx : env.kindOf x = some .local := by rfl) :
    wpAny (model prog w) A (pyIter (.ref l)) (fun it s₂ => codeAny (model prog w) A (.forLoop (.Name x px) it body [] env) R s₂) E s := by
  refine wpAny_pyIter_list (isList_at (F.get hl)) ?_
  have F0 := F.alloc { cls := .type "list_iterator", data := .fields #[.ref l, .int 0 0] }
  have ne0 := F.fresh.2
  generalize hit : s.heap.objs.size = it at F0 ne0
  have I0 := F0.ownAt (.head _)
  refine codeAny_forLoop (fun k s' => ∃ h tk P' m' own' io i, s' = { s with heap := h, toks := tk } ∧ Fm w mg mb P' L h m' ((it, io) :: own') ∧ (∀ p ∈ own', p.1 ≠ it) ∧ (∀ a o, P a o → P' a o) ∧ h.IsListIter it l i ∧ J i P' m' own' ∧ i ≤ items.length ∧ k = items.length + 1 - i) ?_ (items.length + 1)
    ⟨_, s.toks, P, m, own, _, 0, rfl, F0, ne0, fun _ _ q => q, ⟨_, I0, rfl, rfl⟩, h0, Nat.zero_le _, rfl⟩
  rintro k s' ⟨h, tk, P', m', own', io, i, rfl, F1, ne1, hP, hI, hJ, hi, rfl⟩
  have hl1 := isList_at (F1.get (hP _ _ hl))
  cases hv : items[i]? with
  | none =>
    have hsz : i = items.length := Nat.le_antisymm hi (by simpa using hv)
    refine wpAny_pyNext_list_end hh hI hl1 (by simpa using hv) fun h₁ he₁ => wpAny_execs_nil ?_
    refine done h₁ tk P' m' own' (F1.after (fun b o hb e => he₁ b o (fun q => hb (q ▸ List.mem_cons_self)) e) (fun p hp => ⟨he₁ _ _ (ne1 p hp) (F1.own p (.tail _ hp)).1, .inl (List.mem_cons_of_mem _ (List.mem_map_of_mem hp))⟩)) hP (hsz ▸ hJ)
  | some v =>
    have hlt : i < items.length := (List.getElem?_eq_some_iff.mp hv).1
    refine wpAny_pyNext_list_item hI hl1 (by simpa using hv) fun h₁ hI₁ hs₁ => ?_
    obtain ⟨io₁, hio₁, hc₁, hd₁⟩ := id hI₁
    have F2 := F1.turn hs₁ hio₁ ne1
    refine wpAny_assign_Name (stL F2 (fun h₂ F3 => ?_) hL hk hx)
    refine wpAny_mono (step _ i v P' m' own' it io₁ h₂ _ hv hP hJ ne1 F3) (fun f s₃ h₃ => ?_) fun _ _ e => e
    have fin : (∃ h' tk' P'' m'' own'', s₃ = { s with heap := h', toks := tk' } ∧ Fm w mg mb P'' L h' m'' ((it, io₁) :: own'') ∧ (∀ p ∈ own'', p.1 ≠ it) ∧ (∀ a o, P' a o → P'' a o) ∧ J (i + 1) P'' m'' own'') → ∃ m, m < items.length + 1 - i ∧ (∃ h tk P' m' own' io i, s₃ = { s with heap := h, toks := tk } ∧ Fm w mg mb P' L h m' ((it, io) :: own') ∧ (∀ p ∈ own', p.1 ≠ it) ∧ (∀ a o, P a o → P' a o) ∧ h.IsListIter it l i ∧ J i P' m' own' ∧ i ≤ items.length ∧ m = items.length + 1 - i) := by
      rintro ⟨h', tk', P'', m'', own'', rfl, F4, ne4, hP4, J4⟩
      exact ⟨_, by omega, h', tk', P'', m'', own'', io₁, i + 1, rfl, F4, ne4, fun a o q => hP4 _ _ (hP _ _ q), ⟨_, F4.ownAt (.head _), hc₁, hd₁⟩, J4, hlt, rfl⟩
    cases f with
    | next => exact fin h₃
    | cont => exact fin h₃
    | brk => exact h₃.elim
    | ret v => exact h₃
theorem fill0 {w : World} {mg mb : Str → Option Value} {A : Around} {s : Shared} {Q E : Value → Shared → Prop} {a l : Nat} {xs ys : List Value} {n n2 : Nat} {self : Value} {tk : Tok}
    (G : Gr w mg mb s.heap) (hd : A.depth < recursionLimit) (hl : s.heap.get? l = some (listObj xs n)) (nb : NB ≤ l) (ha : s.heap.get? a = some (listObj ys n2)) (ne : a ≠ l) (hz : xs.length + ys.length < 2 ^ 20)
    (ret : ∀ c h' tk', SubBut [l] s.heap h' → h'.get? l = some (listObj (xs ++ ys) c) → Q .none { s with heap := h', toks := tk' }) :
    wpAny (model prog w) A (call (.ref fFill) [self, .ref a, .int 0 tk, .ref l]) Q E s := by
  refine enter (P := AtBut s.heap [l]) (own := [(l, listObj xs n)]) [("self", self), ("node", .ref a), ("shift", .int 0 tk), ("the_list", .ref l)] G (fun _ _ h => h.1) (fun p hp => by rw [List.mem_singleton.mp hp]; exact ⟨hl, nb, fun o' q => q.2 (.head _)⟩) (by rfl) (by rfl) hd (BindsTo.of_eq (by rfl)) (locs (by rfl)) ?_
  intro L h₁ hL F
  have ha' : AtBut s.heap [l] a (listObj ys n2) := ⟨ha, by simp [ne]⟩
  repeat (walk_at "N")
  refine ite_neg (by decide) ?_
  repeat (walk_at "N")
  refine extendL F (by simp) (F.get ha') hz (fun c h2 F2 => ?_)
  repeat (walk_at "N")
  exact ret c h2 _ (fun b o hb e => F2.keep b o ⟨e, hb⟩) (F2.ownAt (.head _))
theorem Leaves.get {P : Nat → Obj → Prop} : ∀ {as : List Nat} {ls : List (List Value)} {i : Nat} {x : Value}, Leaves P as ls → (as.map Value.ref)[i]? = some x → ∃ a n, x = .ref a ∧ ∃ ys, ls[i]? = some ys ∧ ys.length = 32 ∧ P a (listObj ys n)
  | [], [], _, _, _, h => by simp at h
  | a :: as, l :: ls, 0, x, ⟨⟨n, q⟩, e, r⟩, h => by simp at h; exact ⟨a, n, h.symm, l, rfl, e, q⟩
  | a :: as, l :: ls, i + 1, x, ⟨q, e, r⟩, h => by
    obtain ⟨a', n', e', ys, h', z⟩ := Leaves.get r (i := i) (by simpa using h)
    exact ⟨a', n', e', ys, by simpa using h', z⟩
  | [], _ :: _, _, _, h, _ => h.elim
  | _ :: _, [], _, _, h, _ => h.elim
theorem flatten_take_succ {ls : List (List Value)} {i : Nat} {ys : List Value} (h : ls[i]? = some ys) : (ls.take (i + 1)).flatten = (ls.take i).flatten ++ ys := by
  rw [List.take_add_one, h]; simp
theorem fill5 {w : World} {mg mb : Str → Option Value} {A : Around} {s : Shared} {Q E : Value → Shared → Prop} {v d r l : Nat} {sl : Array (Option Value)} {as : List Nat} {ls : List (List Value)} {n : Nat} {tk : Tok}
    (G : Gr w mg mb s.heap) (hA : A.handled = none) (hd : A.depth + 1 < recursionLimit) (hl : s.heap.get? l = some (listObj [] n)) (nb : NB ≤ l) (hv : s.heap.get? v = some ⟨.ref C, some d, .plain, sl⟩) (nv : v ≠ l) (V : VecOf (AtBut s.heap [l]) d r as ls) (hz : ls.flatten.length < 2 ^ 19)
    (ret : ∀ c h' tk', SubBut [l] s.heap h' → h'.get? l = some (listObj ls.flatten c) → Q .none { s with heap := h', toks := tk' }) :
    wpAny (model prog w) A (call (.ref fFill) [.ref v, .ref r, .int 5 tk, .ref l]) Q E s := by
  refine enter (P := AtBut s.heap [l]) (own := [(l, listObj [] n)]) [("self", .ref v), ("node", .ref r), ("shift", .int 5 tk), ("the_list", .ref l)] G (fun _ _ h => h.1) (fun p hp => by rw [List.mem_singleton.mp hp]; exact ⟨hl, nb, fun o' q => q.2 (.head _)⟩) (by rfl) (by rfl) (by omega) (BindsTo.of_eq (by rfl)) (locs (by rfl)) ?_
  intro L h₁ hL F
  have hv' : AtBut s.heap [l] v ⟨.ref C, some d, .plain, sl⟩ := ⟨hv, by simp [nv]⟩
  have hd' := V.dict
  obtain ⟨nr, hr⟩ := V.root
  have ll := V.leaves.len
  repeat (walk_at "N")
  refine ite_pos (by decide) ?_
  repeat (walk_at "N")
  rename_i h2 F2
  refine iterL F2 hA hr (fun i P' m' own' => ∃ c t, own' = [(l, listObj (ls.take i).flatten c)] ∧ m' "self" = some (.ref v) ∧ m' "shift" = some (.int (5 - 5) t) ∧ m' "the_list" = some (.ref l)) ⟨n, _, by simp, by walk_at "nm", by walk_at "nm", by walk_at "nm"⟩ ?_ ?_
  · rintro E' i x P' m' own' it io h tk' hx hP ⟨c, t, rfl, m1, m2, m3⟩ ne F3
    obtain ⟨a, na, rfl, ys, hy, hy32, pa⟩ := V.leaves.get hx
    have hv3 := hP _ _ hv'
    have hd3 := hP _ _ hd'
    have ha3 := hP _ _ pa
    repeat (walk_at "N")
    have w1 := F3.own _ (.tail _ (.head _))
    have hf := flatten_take_succ hy
    have hi := (List.getElem?_eq_some_iff.mp hy).1
    have hb : (ls.take (i + 1)).flatten.length ≤ ls.flatten.length := by
      conv => rhs; rw [← List.take_append_drop (i + 1) ls]
      rw [List.flatten_append, List.length_append]; omega
    rw [hf, List.length_append] at hb
    refine fill0 F3.G (by show A.depth + 1 < _; omega) w1.1 w1.2.2.1 (F3.get ha3) (fun e => w1.2.2.2 _ (e ▸ ha3)) (by omega) (fun c' h4 tk4 sb4 hl4 => ?_)
    have nit := ne _ (.head _)
    have F4 := F3.after (own' := [(it, io), (l, _)]) (fun b o hb e => sb4 b o (fun q => hb (by simp at q ⊢; exact .inr q)) e) (fun p hp => by
      simp only [List.mem_cons, List.not_mem_nil, or_false] at hp
      rcases hp with rfl | rfl
      · exact ⟨sb4 _ _ (by simpa using Ne.symm nit) (F3.ownAt (.head _)), .inl (by simp)⟩
      · exact ⟨hl4, .inl (by simp)⟩)
    repeat (walk_at "N")
    exact ⟨h4, _, P', _, _, rfl, F4, by simpa using nit, fun _ _ q => q, c', t, by rw [hf], by walk_at "nm", by walk_at "nm", by walk_at "nm"⟩
  · rintro h' tk' P' m' own' F3 hP ⟨c, t, rfl, m1, m2, m3⟩
    repeat (walk_at "N")
    refine ret c h' _ (fun b o hb e => F3.keep b o (hP _ _ ⟨e, hb⟩)) ?_
    have := F3.ownAt (.head _)
    rwa [List.length_map, ll.1, List.take_length] at this
theorem tolistV {w : World} {mg mb : Str → Option Value} {A : Around} {s : Shared} {Q E : Value → Shared → Prop} {v : Nat} {xs : List Value}
    (G : Gr w mg mb s.heap) (hA : A.handled = none) (hd : A.depth + 2 < recursionLimit) (V : Vec (At s.heap) v xs) (hz : xs.length < 2 ^ 18)
    (ret : ∀ D c h' tk', Sub s.heap h' → h'.get? D = some (listObj xs c) → s.heap.objs.size ≤ D → Q (.ref D) { s with heap := h', toks := tk' }) :
    wpAny (model prog w) A (call (.ref fTolist) [.ref v]) Q E s := by
  obtain ⟨d, r, t, tc, ts, tf, as, ls, tl, hv, hV, ⟨nt, ht⟩, htl, rfl⟩ := V
  refine enter (P := At s.heap) (own := []) [("self", .ref v)] G (fun _ _ h => h) (fun _ h => nomatch h) (by rfl) (by rfl) (by omega) (BindsTo.of_eq (by rfl)) (locs (by rfl)) ?_
  intro L h₁ hL F
  have hV1 := hV.dict
  repeat (walk_at "N")
  rename_i D h2 F2 lD ne h3 F3
  have w1 := F3.own _ (.head _)
  have low : ∀ a o, At s.heap a o → AtBut h3 [D] a o := fun (a : Nat) o e => ⟨F3.keep _ _ e, by have := ltS e; simp only [List.mem_cons, List.not_mem_nil, or_false]; omega⟩
  refine fill5 F3.G hA (by show A.depth + 1 + 1 < _; omega) w1.1 w1.2.2.1 (low _ _ hv).1 (by have := ltS hv; omega) (hV.mono low) (by rw [List.length_append] at hz; omega) (fun c h4 tk4 sb4 hD4 => ?_)
  have F4 := F3.after (own' := [(D, _)]) sb4 (fun p hp => by rw [List.mem_singleton.mp hp]; exact ⟨hD4, .inl (by simp)⟩)
  repeat (walk_at "N")
  refine extendL F4 (by simp) (F4.get ht) (by rw [List.length_append] at hz; omega) (fun c5 h5 F5 => ?_)
  repeat (walk_at "N")
  exact ret D c5 h5 _ F5.keep (F5.ownAt (.head _)) (by omega)
theorem emptyV {w : World} {mg mb : Str → Option Value} {h : Heap} (G : Gr w mg mb h) : Vec (At h) aEmpty [] := by
  refine ⟨_, _, _, _, _, _, [], [], [], G.X aEmpty _ (by rfl), ⟨G.X _ _ (by rfl), ⟨_, G.X _ _ (by rfl)⟩, trivial⟩, ⟨_, G.X _ _ (by rfl)⟩, by simp, rfl⟩
theorem and31 (i : Nat) : Builtin.bitAnd (i : Int) 31 = ((i % 32 : Nat) : Int) := by
  show ((((i : Int).toNat &&& (31 : Int).toNat : Nat)) : Int) = _
  rw [Int.toNat_natCast, show (31 : Int).toNat = 2 ^ 5 - 1 from rfl, Nat.and_two_pow_sub_one_eq_mod]
theorem shr5 (i : Nat) : Int.fdiv (i : Int) (2 ^ Int.toNat 5) = ((i / 32 : Nat) : Int) := by
  rw [show (2 : Int) ^ Int.toNat 5 = 32 from rfl, Int.fdiv_eq_ediv_of_nonneg _ (by decide)]
  rfl
theorem Leaves.set {P : Nat → Obj → Prop} {a' : Nat} {ys' : List Value} (hp : PL P a' ys') (hl : ys'.length = 32) : ∀ {as : List Nat} {ls : List (List Value)} (k : Nat), Leaves P as ls → Leaves P (as.set k a') (ls.set k ys')
  | [], [], _, _ => trivial
  | a :: as, l :: ls, 0, ⟨q, e, r⟩ => ⟨hp, hl, r⟩
  | a :: as, l :: ls, k + 1, ⟨q, e, r⟩ => ⟨q, e, Leaves.set hp hl k r⟩
  | [], _ :: _, _, h => h.elim
  | _ :: _, [], _, h => h.elim
theorem flatten_set {P : Nat → Obj → Prop} {x : Value} : ∀ {as : List Nat} {ls : List (List Value)} {j : Nat} {ys : List Value}, Leaves P as ls → ls[j / 32]? = some ys → (ls.set (j / 32) (ys.set (j % 32) x)).flatten = ls.flatten.set j x
  | [], [], j, ys, _, h => by simp at h
  | a :: as, l :: ls, j, ys, ⟨q, e, r⟩, h => by
    by_cases hj : j < 32
    · rw [Nat.div_eq_of_lt hj] at h ⊢
      have h' : l = ys := by simpa using h
      subst h'
      rw [Nat.mod_eq_of_lt hj]
      simp only [List.set_cons_zero, List.flatten_cons]
      rw [List.set_append_left _ _ (by omega)]
    · obtain ⟨k, rfl⟩ : ∃ k, j = k + 32 := ⟨j - 32, by omega⟩
      rw [Nat.add_div_right _ (by decide)] at h ⊢
      rw [Nat.add_mod_right]
      simp only [List.set_cons_succ, List.flatten_cons]
      rw [flatten_set r (by simpa using h), List.set_append_right _ _ (by omega), e, Nat.add_sub_cancel]
  | [], _ :: _, _, _, h, _ => h.elim
  | _ :: _, [], _, _, h, _ => h.elim
theorem flatten_get {P : Nat → Obj → Prop} : ∀ {as : List Nat} {ls : List (List Value)} {j : Nat} {ys : List Value}, Leaves P as ls → ls[j / 32]? = some ys → ls.flatten[j]? = ys[j % 32]?
  | [], [], j, ys, _, h => by simp at h
  | a :: as, l :: ls, j, ys, ⟨q, e, r⟩, h => by
    by_cases hj : j < 32
    · rw [Nat.div_eq_of_lt hj] at h
      have h' : l = ys := by simpa using h
      subst h'
      rw [Nat.mod_eq_of_lt hj, List.flatten_cons, List.getElem?_append_left (by omega)]
    · obtain ⟨k, rfl⟩ : ∃ k, j = k + 32 := ⟨j - 32, by omega⟩
      rw [Nat.add_div_right _ (by decide)] at h
      rw [Nat.add_mod_right, List.flatten_cons, List.getElem?_append_right (by omega), e, Nat.add_sub_cancel]
      exact flatten_get r (by simpa using h)
  | [], _ :: _, _, _, h, _ => h.elim
  | _ :: _, [], _, _, h, _ => h.elim
theorem doSet0 {w : World} {mg mb : Str → Option Value} {A : Around} {s : Shared} {Q E : Value → Shared → Prop} {a : Nat} {ys : List Value} {n : Nat} {self x : Value} {tk ti : Tok} {i : Nat}
    (G : Gr w mg mb s.heap) (hd : A.depth < recursionLimit) (ha : s.heap.get? a = some (listObj ys n)) (hz : ys.length = 32)
    (ret : ∀ D c h' tk', Sub s.heap h' → h'.get? D = some (listObj (ys.set (i % 32) x) c) → s.heap.objs.size ≤ D → Q (.ref D) { s with heap := h', toks := tk' }) :
    wpAny (model prog w) A (call (.ref fDoSet) [self, .int 0 tk, .ref a, .int i ti, x]) Q E s := by
  refine enter (P := At s.heap) (own := []) [("self", self), ("level", .int 0 tk), ("node", .ref a), ("i", .int i ti), ("val", x)] G (fun _ _ h => h) (fun _ h => nomatch h) (by rfl) (by rfl) hd (BindsTo.of_eq (by rfl)) (locs (by rfl)) ?_
  intro L h₁ hL F
  repeat (walk_at "N")
  refine copyL F (F.get ha) (by omega) (fun D c h' F lD ne => ?_)
  repeat (walk_at "N")
  refine ite_pos rfl ?_
  repeat (walk_at "N")
  rename_i h2 F2
  rw [and31]
  refine setL F2 ne (by omega) (by rw [Int.toNat_natCast]; omega) (by omega) (fun c' h3 F3 => ?_)
  repeat (walk_at "N")
  rw [Int.toNat_natCast] at F3
  exact ret D c' h3 _ F3.keep (F3.ownAt (.head _)) (by omega)
theorem doSet5 {w : World} {mg mb : Str → Option Value} {A : Around} {s : Shared} {Q E : Value → Shared → Prop} {v d r : Nat} {sl : Array (Option Value)} {as : List Nat} {ls : List (List Value)} {x : Value} {tk ti : Tok} {i : Nat} {P0 : Nat → Obj → Prop}
    (G : Gr w mg mb s.heap) (hd : A.depth + 1 < recursionLimit) (hv : s.heap.get? v = some ⟨.ref C, some d, .plain, sl⟩) (hP0 : ∀ a o, P0 a o → s.heap.get? a = some o) (V0 : VecOf P0 d r as ls) (hi : i < 32 * ls.length) (hz : ls.length ≤ 32)
    (ret : ∀ D h' tk', Sub s.heap h' → (∃ as' ls', VecOf (Nw P0 s.heap h') d D as' ls' ∧ ls'.flatten = ls.flatten.set i x) → s.heap.objs.size ≤ D → Q (.ref D) { s with heap := h', toks := tk' }) :
    wpAny (model prog w) A (call (.ref fDoSet) [.ref v, .int 5 tk, .ref r, .int i ti, x]) Q E s := by
  refine enter (P := At s.heap) (own := []) [("self", .ref v), ("level", .int 5 tk), ("node", .ref r), ("i", .int i ti), ("val", x)] G (fun _ _ h => h) (fun _ h => nomatch h) (by rfl) (by rfl) (by omega) (BindsTo.of_eq (by rfl)) (locs (by rfl)) ?_
  intro L h₁ hL F
  have V := V0.mono hP0
  have hd' := V.dict
  obtain ⟨nr, hr⟩ := V.root
  have ll := V.leaves.len
  repeat (walk_at "N")
  refine copyL F (F.get hr) (by rw [List.length_map]; omega) (fun D c h2 F2 lD ne => ?_)
  repeat (walk_at "N")
  refine ite_neg (by decide) ?_
  repeat (walk_at "N")
  rename_i h3 F3 h4 F4
  rw [shr5, and31, Nat.mod_eq_of_lt (by omega : i / 32 < 32)] at F4 ⊢
  have hlt : i / 32 < as.length := by omega
  have hx : (as.map Value.ref)[i / 32]? = some (.ref as[i / 32]) := by rw [List.getElem?_map, List.getElem?_eq_getElem hlt]; rfl
  obtain ⟨a, na, ea, ys, hy, hy32, pa⟩ := V.leaves.get hx
  refine itemL (F4.get hr) (by rw [List.length_map]; omega) hx ?_
  repeat (walk_at "N")
  rw [ea]
  refine doSet0 F4.G (by show A.depth + 1 < _; omega) (F4.get pa) hy32 (fun D5 c5 h5 tk5 sb5 hD5 lD5 => ?_)
  have F5 := F4.after (own' := [(D, _), (D5, _)]) (fun b o _ e => sb5 b o e) (fun p hp => by
    simp only [List.mem_cons, List.not_mem_nil, or_false] at hp
    rcases hp with rfl | rfl
    · exact ⟨sb5 _ _ (F4.ownAt (.head _)), .inl (by simp)⟩
    · exact ⟨hD5, .inr lD5⟩)
  have lD4 := ltS (F4.ownAt (.head _))
  have lD5' : h4.objs.size ≤ D5 := lD5
  clear F4 F3
  repeat (walk_at "N")
  refine setL F5 (by simp; omega) (by omega) (by rw [Int.toNat_natCast, List.length_map]; omega) (by rw [List.length_map]; omega) (fun c6 h6 F6 => ?_)
  repeat (walk_at "N")
  rw [Int.toNat_natCast] at F6
  refine ret D h6 _ F6.keep ⟨as.set (i / 32) D5, ls.set (i / 32) (ys.set (i % 32) x), ⟨⟨F6.get hd', .inl V0.dict⟩, ⟨c6, ?_, .inr (by omega)⟩, (V0.leaves.mono (P' := Nw P0 s.heap h6) (fun a o q => ⟨F6.get (hP0 _ _ q), .inl q⟩)).set ⟨c5, F6.ownAt (.tail _ (.head _)), .inr (by omega)⟩ (by simpa using hy32) _⟩, flatten_set V.leaves hy⟩ (by omega)
  rw [List.map_set]
  exact F6.ownAt (.head _)
theorem setV {w : World} {mg mb : Str → Option Value} {A : Around} {s : Shared} {Q E : Value → Shared → Prop} {v : Nat} {xs : List Value} {x : Value} {i : Int} {ti : Tok} {P0 : Nat → Obj → Prop}
    (G : Gr w mg mb s.heap) (hA : A.handled = none) (hd : A.depth + 3 < recursionLimit) (hP0 : ∀ a o, P0 a o → s.heap.get? a = some o) (V : Vec P0 v xs) (hz : xs.length < 1056) (h0 : -(xs.length : Int) ≤ i) (h1 : i < xs.length)
    (ret : ∀ v' h' tk', Sub s.heap h' → Vec (Nw P0 s.heap h') v' (xs.set (if i < 0 then i + xs.length else i).toNat x) → Q (.ref v') { s with heap := h', toks := tk' }) :
    wpAny (model prog w) A (call (.ref fSet) [.ref v, .int i ti, x]) Q E s := by
  obtain ⟨d, r, t, tc, ts, tf, as, ls, tl, hv0, hV0, ⟨nt, ht0⟩, htl, hxs⟩ := V
  have hv := hP0 _ _ hv0
  have hV := hV0.mono hP0
  have ht := hP0 _ _ ht0
  refine enter (P := At s.heap) (own := []) [("self", .ref v), ("i", .int i ti), ("val", x)] G (fun _ _ h => h) (fun _ h => nomatch h) (by rfl) (by rfl) (by omega) (BindsTo.of_eq (by rfl)) (locs (by rfl)) ?_
  intro L h₁ hL F
  have hd' := hV.dict
  have ll := hV.leaves.len
  have hlen : xs.length = 32 * ls.length + tl.length := by rw [hxs, List.length_append, ll.2]
  repeat (walk_at "N")
  refine ite_neg (by decide) ?_
  repeat (walk_at "N")
  obtain ⟨j, hj⟩ : ∃ j : Nat, (if i < 0 then i + (xs.length : Int) else i) = j := ⟨(if i < 0 then i + (xs.length : Int) else i).toNat, by split <;> omega⟩
  rw [hj, Int.toNat_natCast] at ret
  have hjl : j < xs.length := by split at hj <;> omega
  rcases Int.lt_or_le i 0 with hi | hi
  refine ite_pos (by simpa using hi) ?_
  repeat (walk_at "N")
  rename_i h2 F2
  rw [if_pos hi] at hj
  rw [hj] at F2
  rw [hj]
  clear F
  rotate_left
  refine ite_neg (by simpa using hi) ?_
  repeat (walk_at "N")
  rw [if_neg (by omega)] at hj
  subst hj
  have F2 := F
  clear F
  all_goals
    refine ite_pos (by simp) ?_
    repeat (walk_at "N")
    refine ite_pos (by simpa using hjl) ?_
    repeat (walk_at "N")
    by_cases hf : xs.length - tl.length ≤ j
    · refine ite_pos (by simp; omega) ?_
      repeat (walk_at "N")
      refine copyL F2 (F2.get ht) (by omega) (fun D c h3 F3 lD ne => ?_)
      repeat (walk_at "N")
      rename_i h4 F4
      clear F3 F2
      rw [and31]
      refine setL F4 ne (by omega) (by rw [Int.toNat_natCast]; omega) (by omega) (fun c' h5 F5 => ?_)
      rw [Int.toNat_natCast] at F5
      clear F4
      repeat (walk_at "N")
      refine mkVec F5.G (by show A.depth + 1 + 1 < _; omega) (F5.ownAt (.head _)) (by rw [List.length_set]; omega) (fun v' d' tf' h6 tk6 sb6 hv' hd6 lv ld ne => ?_)
      have sb' : Sub s.heap h6 := fun b o e => sb6 _ _ (F5.keep b o e)
      have V6 := hV0.mono (P' := Nw P0 s.heap h6) (fun a o q => ⟨sb' _ _ (hP0 _ _ q), .inl q⟩)
      have lv' : h5.objs.size ≤ v' := lv
      have ld' : h5.objs.size ≤ d' := ld
      have l5 := F5.ltL
      have lD5 := ltS (F5.ownAt (.head _))
      rw [List.length_set, show (xs.length : Int) - (tl.length : Nat) = ((xs.length - tl.length : Nat) : Int) by omega] at hv'
      refine ret v' h6 _ sb' ⟨d', r, D, _, _, _, as, ls, tl.set (j % 32) x, ⟨by rw [List.length_set, List.length_set]; exact hv', .inr (by omega)⟩, ⟨⟨hd6, .inr (by omega)⟩, V6.root, V6.leaves⟩, ⟨c', sb6 _ _ (F5.ownAt (.head _)), .inr (by omega)⟩, by rw [List.length_set]; exact htl, ?_⟩
      · rw [hxs, List.set_append_right _ _ (by omega), show j - ls.flatten.length = j % 32 by omega]
    · refine ite_neg (by simp; omega) ?_
      repeat (walk_at "N")
      refine doSet5 F2.G (by show A.depth + 1 + 1 < _; omega) (F2.get hv) (P0 := P0) (fun a o q => F2.get (hP0 _ _ q)) hV0 (by omega) (by omega) (fun D h3 tk3 sb3 V3 lD => ?_)
      have F3 := F2.after (own' := []) (fun b o _ e => sb3 b o e) (fun p hp => nomatch hp)
      have lF := Nat.le_of_lt (hL ▸ F2.ltL)
      clear F2
      repeat (walk_at "N")
      refine mkVec F3.G (by show A.depth + 1 + 1 < _; omega) (F3.get ht) (by omega) (fun v' d' tf' h6 tk6 sb6 hv' hd6 lv ld ne => ?_)
      have sb' : Sub s.heap h6 := fun b o e => sb6 _ _ (F3.keep b o e)
      obtain ⟨as', ls', V4, e4⟩ := V3
      have V6 := V4.mono (P' := Nw P0 s.heap h6) (fun a o q => ⟨sb6 _ _ q.1, q.2.imp id fun q => Nat.le_trans lF q⟩)
      have lv' : h3.objs.size ≤ v' := lv
      have ld' : h3.objs.size ≤ d' := ld
      have l5 := F3.ltL
      rw [show (xs.length : Int) - (tl.length : Nat) = ((xs.length - tl.length : Nat) : Int) by omega] at hv'
      refine ret v' h6 _ sb' ⟨d', D, t, _, _, _, as', ls', tl, ⟨by rw [List.length_set]; exact hv', .inr (by omega)⟩, ⟨⟨hd6, .inr (by omega)⟩, V6.root, V6.leaves⟩, ⟨nt, sb' _ _ ht, .inl ht0⟩, htl, ?_⟩
      · rw [hxs, List.set_append_left _ _ (by omega), e4]
/-- the library's frame, out of ours: the heap cut off below the frame -/
theorem Fm.fr {w : World} {mg mb : Str → Option Value} {P : Nat → Obj → Prop} {L : Nat} {h : Heap} {m : Str → Option Value} {own : List (Nat × Obj)} (F : Fm w mg mb P L h m own) : ∃ h₀, Fr h₀ L h m ∧ (K w.params).In h₀ := by
  have hsz : (h.objs.extract 0 L).size ≤ L := by simp; omega
  have hg : ∀ b, b < L → (Heap.mk (h.objs.extract 0 L) h.life).get? b = h.get? b := fun b hb => by
    have e : (h.objs.extract 0 L)[b]? = h.objs[b]? := by simp [Array.getElem?_extract]; omega
    unfold Heap.get?
    show (match (h.objs.extract 0 L)[b]? with | _ => _) = _
    rw [e]
  refine ⟨⟨h.objs.extract 0 L, h.life⟩, ⟨F.ns, fun b o e => ?_, hsz⟩, fun a o e => ?_⟩
  · have hb : b < L := Nat.lt_of_lt_of_le (Heap.lt_size e) hsz
    exact (hg b hb).symm.trans e
  · have ha : a < NB := Nat.le_of_ble_eq_true (List.all_eq_true.mp (kLow w.params) _ (lookup_mem e))
    exact (hg a (Nat.lt_of_lt_of_le ha F.lo)).trans (F.G.X a o e)
/-- a loop over a range -/
theorem iterR {w : World} {mg mb : Str → Option Value} {P : Nat → Obj → Prop} {L r : Nat} {m : Str → Option Value} {own : List (Nat × Obj)} {A : Around} {E : Value → Shared → Prop} {R : Result → Shared → Prop} {s : Shared} {env : Env} {a b c : Int} {t u v : Tok} {k : Nat} {x : Str} {px : Pos} {body : List Stmt}
    (F : Fm w mg mb P L s.heap m own) (hh : A.handled = none) (hr : IsRange s.heap r a b c t u v) (hs : Builtin.Range.small a b c = true) (hk : Builtin.Range.rangeSize a b c = k) (J : Nat → (Nat → Obj → Prop) → (Str → Option Value) → List (Nat × Obj) → Prop) (h0 : J 0 P m own)
    (step : ∀ E' i tv P' m' own' it io h tk, i < k → (∀ a o, P a o → P' a o) → J i P' m' own' → (∀ p ∈ own', p.1 ≠ it) → Fm w mg mb P' L h (fun y => if y = x then some (.int (a + i * c) tv) else m' y) ((it, io) :: own') →
      wpAny (model prog w) A (execs body env) (fun f s' => match f with
        | .next | .cont => ∃ h' tk' P'' m'' own'', s' = { s with heap := h', toks := tk' } ∧ Fm w mg mb P'' L h' m'' ((it, io) :: own'') ∧ (∀ p ∈ own'', p.1 ≠ it) ∧ (∀ a o, P' a o → P'' a o) ∧ J (i + 1) P'' m'' own''
        | .brk => False
        | .ret v => R (.ok (.ret v)) s') E' { s with heap := h, toks := tk })
    (done : ∀ h' tk' P' m' own', Fm w mg mb P' L h' m' own' → (∀ a o, P a o → P' a o) → J k P' m' own' → R (.ok .next) { s with heap := h', toks := tk' })
    (hL : env.locals = L := by rfl) (hkd : env.scope.kind = .function := by rfl) (hx : env.kindOf x = some .local := by rfl) :
    wpAny (model prog w) A (pyIter (.ref r)) (fun it s₂ => codeAny (model prog w) A (.forLoop (.Name x px) it body [] env) R s₂) E s := by
  refine wpAny_pyIter_range hr hs ?_
  rw [hk]
  have F0 := F.alloc { cls := .type "range_iterator", data := .fields #[rawInt a, rawInt (k : Nat), rawInt c] }
  have ne0 := F.fresh.2
  generalize hit : s.heap.objs.size = it at F0 ne0
  have I0 := F0.ownAt (.head _)
  refine codeAny_forLoop (fun n s' => ∃ h tk P' m' own' io i, s' = { s with heap := h, toks := tk } ∧ Fm w mg mb P' L h m' ((it, io) :: own') ∧ (∀ p ∈ own', p.1 ≠ it) ∧ (∀ a o, P a o → P' a o) ∧ IsRangeIter h it (a + (i : Nat) * c) ((k : Int) - (i : Nat)) c ∧ J i P' m' own' ∧ i ≤ k ∧ n = k + 1 - i) ?_ (k + 1)
    ⟨_, s.toks, P, m, own, _, 0, rfl, F0, ne0, fun _ _ q => q, by simpa using I0, h0, Nat.zero_le _, rfl⟩
  rintro n s' ⟨h, tk, P', m', own', io, i, rfl, F1, ne1, hP, hI, hJ, hi, rfl⟩
  by_cases hlt : i < k
  · refine wpAny_pyNext_range_item hI (by omega) fun h₁ hI₁ hs₁ => ?_
    have F2 := F1.turn hs₁ hI₁ ne1
    refine wpAny_assign_Name (stL F2 (fun h₂ F3 => ?_) hL hkd hx)
    refine wpAny_mono (step _ i _ P' m' own' it _ h₂ _ hlt hP hJ ne1 F3) (fun f s₃ h₃ => ?_) fun _ _ e => e
    have fin : (∃ h' tk' P'' m'' own'', s₃ = { s with heap := h', toks := tk' } ∧ Fm w mg mb P'' L h' m'' ((it, { cls := .type "range_iterator", dict := none, data := .fields #[rawInt (a + i * c + c), rawInt (k - i - 1), rawInt c], slots := #[] }) :: own'') ∧ (∀ p ∈ own'', p.1 ≠ it) ∧ (∀ a o, P' a o → P'' a o) ∧ J (i + 1) P'' m'' own'') → ∃ n, n < k + 1 - i ∧ (∃ h tk P' m' own' io i, s₃ = { s with heap := h, toks := tk } ∧ Fm w mg mb P' L h m' ((it, io) :: own') ∧ (∀ p ∈ own', p.1 ≠ it) ∧ (∀ a o, P a o → P' a o) ∧ IsRangeIter h it (a + (i : Nat) * c) ((k : Int) - (i : Nat)) c ∧ J i P' m' own' ∧ i ≤ k ∧ n = k + 1 - i) := by
      rintro ⟨h', tk', P'', m'', own'', rfl, F4, ne4, hP4, J4⟩
      refine ⟨_, by omega, h', tk', P'', m'', own'', _, i + 1, rfl, F4, ne4, fun a o q => hP4 _ _ (hP _ _ q), ?_, J4, hlt, rfl⟩
      rw [show a + ((i + 1 : Nat) : Int) * c = a + i * c + c by rw [Int.natCast_add, Int.add_mul]; simp; omega, show (k : Int) - ((i + 1 : Nat) : Int) = k - i - 1 by omega]
      exact F4.ownAt (.head _)
    cases f with
    | next => exact fin h₃
    | cont => exact fin h₃
    | brk => exact h₃.elim
    | ret v => exact h₃
  · have hsz : i = k := by omega
    refine wpAny_pyNext_range_end hh hI (by omega) fun h₁ he₁ => wpAny_execs_nil ?_
    refine done h₁ tk P' m' own' (F1.after (fun b o hb e => he₁ b o (fun q => hb (q ▸ List.mem_cons_self)) e) (fun p hp => ⟨he₁ _ _ (ne1 p hp) (F1.own p (.tail _ hp)).1, .inl (List.mem_cons_of_mem _ (List.mem_map_of_mem hp))⟩)) hP (hsz ▸ hJ)
theorem kn_reads (P : Params) : readsIn (K P) C (.type "type") = true := by kernel_rfl!
theorem kn_spec (P : Params) : specialIn (K P) (.ref C) "__getattribute__" = some (some (.builtin "type.__getattribute__")) := by kernel_rfl!
theorem kn_find (P : Params) : findCls (K P) (.ref C) (.type "type") "_node_for" = some (.get (.builtin "staticmethod.__get__") (.ref 206) .none (.ref C)) := by kernel_rfl!
theorem kn_rec (P : Params) : recIn (K P) 206 "staticmethod" = some [.ref fNodeFor, .bool false] := by kernel_rfl!
theorem kn_len (P : Params) : findIn (K P) (.ref C) "__len__" = some (some (.ref fLen)) := by kernel_rfl!
theorem kn_lenFn (P : Params) : isFn (K P) (.ref fLen) = true := by kernel_rfl!
theorem kn_get (P : Params) : findIn (K P) (.ref C) "__getitem__" = some (some (.ref fGetitem)) := by kernel_rfl!
theorem kn_getFn (P : Params) : isFn (K P) (.ref fGetitem) = true := by kernel_rfl!
theorem kn_getFn' (P : Params) : fnIn (K P) fGetitem = true := by kernel_rfl!
theorem kn_noSeq (P : Params) : noSeq (K P) C = true := by kernel_rfl!
theorem gmNodeFor {w : World} {mg mb : Str → Option Value} {A : Around} {E : Value → Shared → Prop} {s : Shared} {pl : Sem Bool} {Q : Value × List Value → Shared → Prop} (G : Gr w mg mb s.heap) (h : Q (.ref fNodeFor, []) { s with toks := s.toks + 1 }) :
    wpAny (model prog w) A (getMethod (.ref C) "_node_for" pl) Q E s :=
  method_cls G.X (kn_spec _) (cls_bind (mc := .type "type") G.X (kn_reads _) (kn_find _) (wpAny_call (sm_get (p := 206) (f := .ref fNodeFor) G.X (kn_rec _) (handed_on (by rfl) h))))
abbrev rangeObj (a : Int) (t : Tok) (b : Int) (u : Tok) (c : Int) (v : Tok) : Obj := { cls := .type "range", data := .fields #[.int a t, .int b u, .int c v] }
theorem range3L {w : World} {mg mb : Str → Option Value} {P : Nat → Obj → Prop} {L : Nat} {m : Str → Option Value} {own : List (Nat × Obj)} {A : Around} {E Q : Value → Shared → Prop} {s : Shared} {a b c : Int} {t u v : Tok} (F : Fm w mg mb P L s.heap m own) (hc : c ≠ 0) (hp : Builtin.divisionGoesByPylong (b - a) c = false)
    (h : ∀ r h', Fm w mg mb P L h' m ((r, rangeObj a t b u c v) :: own) → L < r → (∀ p ∈ own, p.1 ≠ r) → Q (.ref r) { s with heap := h' }) : wpAny (model prog w) A (call (.type "range") [.int a t, .int b u, .int c v]) Q E s :=
  call_range_3 hc (h _ _ (F.alloc _) F.fresh.1 F.fresh.2) (.inl hp)
theorem range1L {w : World} {mg mb : Str → Option Value} {P : Nat → Obj → Prop} {L : Nat} {m : Str → Option Value} {own : List (Nat × Obj)} {A : Around} {E Q : Value → Shared → Prop} {s : Shared} {n : Int} {t : Tok} (F : Fm w mg mb P L s.heap m own)
    (h : ∀ r h' t' u' tk', Fm w mg mb P L h' m ((r, rangeObj 0 t' n t 1 u') :: own) → L < r → (∀ p ∈ own, p.1 ≠ r) → Q (.ref r) { s with heap := h', toks := tk' }) : wpAny (model prog w) A (call (.type "range") [.int n t]) Q E s :=
  call_range_1 (h _ _ _ _ _ (F.alloc _) F.fresh.1 F.fresh.2)
theorem meta_slice : typeOf (.type "slice") = pure (.type "type") := by kernel_rfl
theorem sub_int_slice : isSubtype (.type "int") (.type "slice") = pure false := by rw [isSubtype_type]; kernel_rfl
theorem sub_slice_slice : isSubtype (.type "slice") (.type "slice") = pure true := by rw [isSubtype_type]; kernel_rfl
theorem isi_int_slice {w : World} {A : Around} {E Q : Value → Shared → Prop} {s : Shared} {n : Int} {u : Tok} (h : Q (.bool false) { s with toks := s.toks + 1 }) : wpAny (model prog w) A (call (.builtin "isinstance") [.int n u, .type "slice"]) Q E s :=
  call_isinstance (isinstance_false_int (by decide +kernel) meta_slice sub_int_slice) h
theorem lenBody {w : World} {mg mb : Str → Option Value} {A : Around} {s : Shared} {Q E : Value → Shared → Prop} {v : Nat} {xs : List Value}
    (G : Gr w mg mb s.heap) (hd : A.depth < recursionLimit) (V : Vec (At s.heap) v xs)
    (ret : ∀ tc h' tk', Sub s.heap h' → Q (.int xs.length tc) { s with heap := h', toks := tk' }) :
    wpAny (model prog w) A (call (.ref fLen) [.ref v]) Q E s := by
  obtain ⟨d, r, t, tc, ts, tf, as, ls, tl, hv, hV, ⟨nt, ht⟩, htl, hxs⟩ := V
  refine enter (P := At s.heap) (own := []) [("self", .ref v)] G (fun _ _ h => h) (fun _ h => nomatch h) (by rfl) (by rfl) hd (BindsTo.of_eq (by rfl)) (locs (by rfl)) ?_
  intro L h₁ hL F
  have hV1 := hV.dict
  repeat (walk_at "N")
  exact ret tc h₁ _ F.keep
theorem Vec.inst {h : Heap} {v : Nat} {xs : List Value} (V : Vec (At h) v xs) : ∃ o, InstAt h v o C (some (dictOf [] 0)) := by
  obtain ⟨d, r, t, tc, ts, tf, as, ls, tl, hv, hV, _⟩ := V
  exact ⟨_, ⟨hv, rfl, rfl, hV.dict⟩⟩
theorem lenV {w : World} {mg mb : Str → Option Value} {P : Nat → Obj → Prop} {L : Nat} {m : Str → Option Value} {own : List (Nat × Obj)} {A : Around} {s : Shared} {Q E : Value → Shared → Prop} {v : Nat} {xs : List Value}
    (F : Fm w mg mb P L s.heap m own) (hd : A.depth < recursionLimit) (V : Vec (At s.heap) v xs) (hz : xs.length < 2 ^ 20)
    (ret : ∀ tc h' tk', Sub s.heap h' → Q (.int xs.length tc) { s with heap := h', toks := tk' }) :
    wpAny (model prog w) A (call (.builtin "len") [.ref v]) Q E s := by
  obtain ⟨h₀, f, X⟩ := F.fr
  obtain ⟨o, I⟩ := V.inst
  exact len_K f X I (kn_len _) (kn_lenFn _) (lenBody F.G hd V (fun tc h' tk' sb => ⟨⟨by omega, by omega⟩, ret _ h' _ sb⟩))
theorem nodeFor {w : World} {mg mb : Str → Option Value} {A : Around} {s : Shared} {Q E : Value → Shared → Prop} {v : Nat} {xs : List Value} {j : Nat} {tj : Tok} {x : Value}
    (G : Gr w mg mb s.heap) (hA : A.handled = none) (hd : A.depth < recursionLimit) (V : Vec (At s.heap) v xs) (hz : xs.length < 1056) (hj : xs[j]? = some x)
    (ret : ∀ D ys n h' tk', Sub s.heap h' → h'.get? D = some (listObj ys n) → ys[j % 32]? = some x → ys.length ≤ 32 → Q (.ref D) { s with heap := h', toks := tk' }) :
    wpAny (model prog w) A (call (.ref fNodeFor) [.ref v, .int j tj]) Q E s := by
  obtain ⟨d, r, t, tc, ts, tf, as, ls, tl, hv, hV, ⟨nt, ht⟩, htl, hxs⟩ := V
  refine enter (P := At s.heap) (own := []) [("pvector_like", .ref v), ("i", .int j tj)] G (fun _ _ h => h) (fun _ h => nomatch h) (by rfl) (by rfl) hd (BindsTo.of_eq (by rfl)) (locs (by rfl)) ?_
  intro L h₁ hL F
  have hV1 := hV.dict
  have ll := hV.leaves.len
  have hlen : xs.length = 32 * ls.length + tl.length := by rw [hxs, List.length_append, ll.2]
  have hjl : j < xs.length := (List.getElem?_eq_some_iff.mp hj).1
  repeat (walk_at "N")
  refine ite_pos (by simp) ?_
  repeat (walk_at "N")
  refine ite_pos (by simpa using hjl) ?_
  repeat (walk_at "N")
  by_cases hf : xs.length - tl.length ≤ j
  · refine ite_pos (by simp; omega) ?_
    repeat (walk_at "N")
    refine ret t tl nt h₁ _ F.keep (F.get ht) ?_ htl
    rw [hxs, List.getElem?_append_right (by omega), show j - ls.flatten.length = j % 32 by omega] at hj
    exact hj
  · refine ite_neg (by simp; omega) ?_
    repeat (walk_at "N")
    rename_i h2 F2
    refine range3L F2 (by decide) (PyProof.noPylong_of_log2 (by decide +kernel)) (fun rg h3 F3 _ _ => ?_)
    have hr3 := F3.ownAt (.head _)
    obtain ⟨nr, hr⟩ := hV.root
    refine iterR (k := 1) F3 hA hr3 (by decide) (by decide) (fun i P' m' own' => m' "i" = some (.int j tj) ∧ (i = 0 → m' "node" = some (.ref r)) ∧ (i = 1 → ∃ D ys n, m' "node" = some (.ref D) ∧ P' D (listObj ys n) ∧ ys[j % 32]? = some x ∧ ys.length ≤ 32)) ⟨by walk_at "nm", fun _ => by walk_at "nm", fun h => by omega⟩ ?_ ?_
    · rintro E' i tv P' m' own' it io h tk' hi hP ⟨m1, m2, _⟩ ne F4
      obtain rfl : i = 0 := by omega
      have m3 := m2 rfl
      rw [show (5 : Int) + ((0 : Nat) : Int) * -5 = 5 from rfl] at F4
      have hr' := hP _ _ hr
      repeat (walk_at "N")
      rw [shr5, and31, Nat.mod_eq_of_lt (by omega : j / 32 < 32)]
      have hlt : j / 32 < as.length := by omega
      have hx : (as.map Value.ref)[j / 32]? = some (.ref as[j / 32]) := by rw [List.getElem?_map, List.getElem?_eq_getElem hlt]; rfl
      obtain ⟨a, na, ea, ys, hy, hy32, pa⟩ := hV.leaves.get hx
      refine itemL (F4.get hr') (by rw [List.length_map]; omega) hx ?_
      repeat (walk_at "N")
      rename_i h5 F5
      refine ⟨h5, _, P', _, own', rfl, F5, ne, fun _ _ q => q, by walk_at "nm", fun h => by omega, fun _ => ⟨a, ys, na, by rw [← ea]; walk_at "nm", hP _ _ pa, ?_, by omega⟩⟩
      rw [← flatten_get hV.leaves hy]
      rw [hxs, List.getElem?_append_left (by omega)] at hj
      exact hj
    · rintro h' tk' P' m' own' F4 hP ⟨m1, _, m2⟩
      obtain ⟨D, ys, n, m3, pD, hy, hy32⟩ := m2 rfl
      repeat (walk_at "N")
      exact ret D ys n h' _ (fun b o e => F4.keep _ _ (hP _ _ e)) (F4.get pD) hy hy32
theorem getV {w : World} {mg mb : Str → Option Value} {A : Around} {s : Shared} {Q E : Value → Shared → Prop} {v : Nat} {xs : List Value} {i : Int} {ti : Tok} {x : Value}
    (G : Gr w mg mb s.heap) (hA : A.handled = none) (hd : A.depth + 1 < recursionLimit) (V : Vec (At s.heap) v xs) (hz : xs.length < 1056) (h0 : -(xs.length : Int) ≤ i) (h1 : i < xs.length) (hx : xs[(if i < 0 then i + xs.length else i).toNat]? = some x)
    (ret : ∀ h' tk', Sub s.heap h' → Q x { s with heap := h', toks := tk' }) :
    wpAny (model prog w) A (call (.ref fGetitem) [.ref v, .int i ti]) Q E s := by
  have V' := V
  obtain ⟨d, r, t, tc, ts, tf, as, ls, tl, hv, hV, ⟨nt, ht⟩, htl, hxs⟩ := V'
  refine enter (P := At s.heap) (own := []) [("self", .ref v), ("index", .int i ti)] G (fun _ _ h => h) (fun _ h => nomatch h) (by rfl) (by rfl) (by omega) (BindsTo.of_eq (by rfl)) (locs (by rfl)) ?_
  intro L h₁ hL F
  have hV1 := hV.dict
  repeat (walk_at "N")
  refine isi_int_slice ?_
  repeat (walk_at "N")
  refine ite_neg (by decide) ?_
  repeat (walk_at "N")
  obtain ⟨j, hj⟩ : ∃ j : Nat, (if i < 0 then i + (xs.length : Int) else i) = j := ⟨(if i < 0 then i + (xs.length : Int) else i).toNat, by split <;> omega⟩
  rw [hj, Int.toNat_natCast] at hx
  have hjl : j < xs.length := by split at hj <;> omega
  rcases Int.lt_or_le i 0 with hi | hi
  refine ite_pos (by simpa using hi) ?_
  repeat (walk_at "N")
  rename_i h2 F2
  rw [if_pos hi] at hj
  rw [hj] at F2
  clear F
  rotate_left
  refine ite_neg (by simpa using hi) ?_
  repeat (walk_at "N")
  rw [if_neg (by omega)] at hj
  subst hj
  have F2 := F
  clear F
  all_goals
    repeat (walk_at "N")
    refine gmNodeFor F2.G ?_
    repeat (walk_at "N")
    try rw [hj]
    refine nodeFor F2.G hA (by show A.depth + 1 < _; omega) (V.mono F2.keep) hz hx (fun D ys n h3 tk3 sb3 hD hy hy32 => ?_)
    have F3 := F2.after (own' := []) (fun b o _ e => sb3 b o e) (fun p hp => nomatch hp)
    repeat (walk_at "N")
    try rw [hj]
    rw [and31]
    refine itemL hD (by omega) hy ?_
    repeat (walk_at "N")
    exact ret h3 _ F3.keep
/-- a tree: a number, or a row of trees -/
inductive T where
  | num (n : Int) : T
  | node (ts : List T) : T
/-- a vector (true) or a list (false) of these values -/
def Box (P : Nat → Obj → Prop) : Bool → Nat → List Value → Prop
  | true, a, xs => Vec P a xs
  | false, a, xs => ∃ n, P a (listObj xs n)
theorem Box.mono {P P' : Nat → Obj → Prop} (k : ∀ a o, P a o → P' a o) : ∀ {b : Bool} {a : Nat} {xs : List Value}, Box P b a xs → Box P' b a xs
  | true, _, _, x => Vec.mono k x
  | false, _, _, ⟨n, q⟩ => ⟨n, k _ _ q⟩
/-- v tells the tree t, by vectors (true) or by lists (false), of depth d at most -/
def Rep (P : Nat → Obj → Prop) (b : Bool) : Nat → Value → T → Prop
  | 0, v, t => ∃ n tk, t = .num n ∧ v = .int n tk ∧ tk ≠ 0
  | d + 1, v, t => (∃ n tk, t = .num n ∧ v = .int n tk ∧ tk ≠ 0) ∨ ∃ a xs ts, t = .node ts ∧ v = .ref a ∧ Box P b a xs ∧ xs.length < 1056 ∧ xs.length = ts.length ∧ ∀ (i : Nat) x u, xs[i]? = some x → ts[i]? = some u → Rep P b d x u
theorem Rep.mono {P P' : Nat → Obj → Prop} (k : ∀ a o, P a o → P' a o) {b : Bool} : ∀ {d : Nat} {v : Value} {t : T}, Rep P b d v t → Rep P' b d v t
  | 0, _, _, x => x
  | d + 1, _, _, .inl x => .inl x
  | d + 1, _, _, .inr ⟨a, xs, ts, e1, e2, x, l1, l2, r⟩ => .inr ⟨a, xs, ts, e1, e2, x.mono k, l1, l2, fun i x u h1 h2 => (r i x u h1 h2).mono k⟩
theorem Rep.num {P : Nat → Obj → Prop} {b : Bool} {n : Int} {tk : Tok} (h : tk ≠ 0) : ∀ {d : Nat}, Rep P b d (.int n tk) (.num n)
  | 0 => ⟨n, tk, rfl, rfl, h⟩
  | _ + 1 => .inl ⟨n, tk, rfl, rfl, h⟩
theorem Rep.up {P : Nat → Obj → Prop} {b : Bool} : ∀ {d : Nat} {v : Value} {t : T}, Rep P b d v t → Rep P b (d + 1) v t
  | 0, _, _, x => .inl x
  | d + 1, _, _, .inl x => .inl x
  | d + 1, _, _, .inr ⟨a, xs, ts, e1, e2, x, l1, l2, r⟩ => .inr ⟨a, xs, ts, e1, e2, x, l1, l2, fun i x u h1 h2 => (r i x u h1 h2).up⟩
theorem Rep.le {P : Nat → Obj → Prop} {b : Bool} {d d' : Nat} {v : Value} {t : T} (x : Rep P b d v t) (h : d ≤ d') : Rep P b d' v t := by
  induction h with
  | refl => exact x
  | step _ ih => exact ih.up
/-- the items of a node -/
abbrev Reps (P : Nat → Obj → Prop) (b : Bool) (d : Nat) (xs : List Value) (ts : List T) : Prop := xs.length = ts.length ∧ ∀ (i : Nat) x u, xs[i]? = some x → ts[i]? = some u → Rep P b d x u
theorem Reps.mono {P P' : Nat → Obj → Prop} (k : ∀ a o, P a o → P' a o) {b : Bool} {d : Nat} {xs : List Value} {ts : List T} (x : Reps P b d xs ts) : Reps P' b d xs ts := ⟨x.1, fun i a u h1 h2 => (x.2 i a u h1 h2).mono k⟩
theorem Reps.le {P : Nat → Obj → Prop} {b : Bool} {d d' : Nat} {xs : List Value} {ts : List T} (x : Reps P b d xs ts) (h : d ≤ d') : Reps P b d' xs ts := ⟨x.1, fun i a u h1 h2 => (x.2 i a u h1 h2).le h⟩
theorem Rep.node {P : Nat → Obj → Prop} {b : Bool} {d a : Nat} {xs : List Value} {ts : List T} (x : Box P b a xs) (l : xs.length < 1056) (r : Reps P b d xs ts) : Rep P b (d + 1) (.ref a) (.node ts) := .inr ⟨a, xs, ts, rfl, rfl, x, l, r.1, r.2⟩
theorem Rep.out {P : Nat → Obj → Prop} {b : Bool} {d : Nat} {v : Value} {ts : List T} (x : Rep P b d v (.node ts)) : ∃ d' a xs, d = d' + 1 ∧ v = .ref a ∧ Box P b a xs ∧ xs.length < 1056 ∧ Reps P b d' xs ts := by
  cases d with
  | zero => obtain ⟨n, tk, e, _⟩ := x; cases e
  | succ d =>
    rcases x with ⟨n, tk, e, _⟩ | ⟨a, xs, ts', e, rfl, x, l1, l2, r⟩
    · cases e
    · cases e; exact ⟨d, a, xs, rfl, rfl, x, l1, l2, r⟩
theorem Rep.outNum {P : Nat → Obj → Prop} {b : Bool} {d : Nat} {v : Value} {n : Int} (x : Rep P b d v (.num n)) : ∃ tk, v = .int n tk ∧ tk ≠ 0 := by
  cases d with
  | zero => obtain ⟨n', tk, e, e2⟩ := x; cases e; exact ⟨tk, e2⟩
  | succ d =>
    rcases x with ⟨n', tk, e, e2⟩ | ⟨a, xs, ts', e, _⟩
    · cases e; exact ⟨tk, e2⟩
    · cases e
theorem Rep.kind {P : Nat → Obj → Prop} {b : Bool} {d : Nat} {v : Value} {t : T} (x : Rep P b d v t) : (∃ n t, v = .int n t ∧ t ≠ 0) ∨ ∃ c, v = .ref c := by
  cases t with
  | num n => obtain ⟨tk, e, z⟩ := x.outNum; exact .inl ⟨_, _, e, z⟩
  | node ts => obtain ⟨_, a, _, _, e, _⟩ := x.out; exact .inr ⟨_, e⟩
theorem Reps.nil {P : Nat → Obj → Prop} {b : Bool} {d : Nat} : Reps P b d [] [] := ⟨rfl, fun i x u h => by simp at h⟩
theorem Reps.snoc {P : Nat → Obj → Prop} {b : Bool} {d : Nat} {xs : List Value} {ts : List T} {x : Value} {t : T} (r : Reps P b d xs ts) (h : Rep P b d x t) : Reps P b d (xs ++ [x]) (ts ++ [t]) := by
  refine ⟨by simp [r.1], fun i y u h1 h2 => ?_⟩
  by_cases hi : i < xs.length
  · rw [List.getElem?_append_left hi] at h1
    rw [List.getElem?_append_left (by have := r.1; omega)] at h2
    exact r.2 i y u h1 h2
  · rw [List.getElem?_append_right (by omega)] at h1
    rw [List.getElem?_append_right (by have := r.1; omega), ← r.1] at h2
    have hz : i - xs.length = 0 := by
      rcases Nat.eq_zero_or_pos (i - xs.length) with e | e
      · exact e
      · rw [List.getElem?_eq_none (by simp; omega)] at h1; cases h1
    rw [hz] at h1 h2
    simp at h1 h2
    subst h1; subst h2
    exact h
theorem Reps.get {P : Nat → Obj → Prop} {b : Bool} {d i : Nat} {xs : List Value} {ts : List T} {x : Value} (r : Reps P b d xs ts) (h : xs[i]? = some x) : ∃ t, ts[i]? = some t ∧ Rep P b d x t := by
  have hi := (List.getElem?_eq_some_iff.mp h).1
  have hi2 : i < ts.length := r.1 ▸ hi
  exact ⟨ts[i], List.getElem?_eq_getElem hi2, r.2 i x _ h (List.getElem?_eq_getElem hi2)⟩
theorem Reps.set {P : Nat → Obj → Prop} {b : Bool} {d k : Nat} {xs : List Value} {ts : List T} {x : Value} {t : T} (r : Reps P b d xs ts) (h : Rep P b d x t) : Reps P b d (xs.set k x) (ts.set k t) := by
  refine ⟨by simp [r.1], fun i y u h1 h2 => ?_⟩
  rw [List.getElem?_set] at h1 h2
  split at h1
  · rename_i hk
    subst hk
    rw [if_pos rfl] at h2
    split at h1
    · split at h2
      · cases h1; cases h2; exact h
      · cases h2
    · cases h1
  · rename_i hk
    rw [if_neg hk] at h2
    exact r.2 i y u h1 h2
/-- what stands at one place is one -/
theorem Leaves.fun {P P' : Nat → Obj → Prop} {h : Heap} (k : ∀ a o, P a o → h.get? a = some o) (k' : ∀ a o, P' a o → h.get? a = some o) : ∀ {as : List Nat} {ls ls' : List (List Value)}, Leaves P as ls → Leaves P' as ls' → ls = ls'
  | [], [], [], _, _ => rfl
  | a :: as, l :: ls, l' :: ls', ⟨⟨n, q⟩, _, r⟩, ⟨⟨n', q'⟩, _, r'⟩ => by
    have e := (k _ _ q).symm.trans (k' _ _ q')
    have e2 : l = l' := by injection e with e; injection e with _ _ e _; injection e with e _; simpa using e
    rw [e2, Leaves.fun k k' r r']
  | [], _ :: _, _, h, _ => h.elim
  | [], [], _ :: _, _, h => h.elim
  | _ :: _, [], _, h, _ => h.elim
  | _ :: _, _ :: _, [], _, h => h.elim
theorem map_ref_inj : ∀ {as bs : List Nat}, as.map Value.ref = bs.map Value.ref → as = bs
  | [], [], _ => rfl
  | [], _ :: _, h => by simp at h
  | _ :: _, [], h => by simp at h
  | a :: as, b :: bs, h => by
    simp only [List.map_cons, List.cons.injEq, Value.ref.injEq] at h
    rw [h.1, map_ref_inj h.2]
theorem listObj_inj {xs ys : List Value} {n m : Nat} (e : listObj xs n = listObj ys m) : xs = ys := by
  injection e with _ _ e _; injection e with e _; simpa using e
theorem Vec.fun {P P' : Nat → Obj → Prop} {h : Heap} (k : ∀ a o, P a o → h.get? a = some o) (k' : ∀ a o, P' a o → h.get? a = some o) {v : Nat} {xs ys : List Value} (x : Vec P v xs) (y : Vec P' v ys) : xs = ys := by
  obtain ⟨d, r, t, tc, ts, tf, as, ls, tl, hv, hV, ⟨nt, ht⟩, htl, hxs⟩ := x
  obtain ⟨d', r', t', tc', ts', tf', as', ls', tl', hv', hV', ⟨nt', ht'⟩, htl', hxs'⟩ := y
  have e := (k _ _ hv).symm.trans (k' _ _ hv')
  injection e with e
  injection e with _ e1 _ e2
  simp only [Array.mk.injEq, List.cons.injEq, Option.some.injEq, Value.ref.injEq] at e2
  obtain ⟨_, er, _, et, _⟩ := e2
  subst er; subst et
  obtain ⟨n1, q1⟩ := hV.root
  obtain ⟨n2, q2⟩ := hV'.root
  have ea := map_ref_inj (listObj_inj (Option.some.inj ((k _ _ q1).symm.trans (k' _ _ q2))))
  subst ea
  have el := Leaves.fun k k' hV.leaves hV'.leaves
  have e3 := listObj_inj (Option.some.inj ((k _ _ ht).symm.trans (k' _ _ ht')))
  rw [hxs, hxs', el, e3]
theorem Box.fun {P P' : Nat → Obj → Prop} {h : Heap} (k : ∀ a o, P a o → h.get? a = some o) (k' : ∀ a o, P' a o → h.get? a = some o) {v : Nat} {xs ys : List Value} : ∀ {b b' : Bool}, Box P b v xs → Box P' b' v ys → xs = ys
  | true, true, x, y => Vec.fun k k' x y
  | false, false, ⟨n, x⟩, ⟨n', y⟩ => listObj_inj (Option.some.inj ((k _ _ x).symm.trans (k' _ _ y)))
  | true, false, x, ⟨n', y⟩ => by
    obtain ⟨d, r, t, tc, ts, tf, as, ls, tl, hv, _⟩ := x
    have e := (k _ _ hv).symm.trans (k' _ _ y)
    injection e with e; injection e with e; cases e
  | false, true, ⟨n', x⟩, y => by
    obtain ⟨d, r, t, tc, ts, tf, as, ls, tl, hv, _⟩ := y
    have e := (k _ _ x).symm.trans (k' _ _ hv)
    injection e with e; injection e with e; cases e
theorem Rep.fun {P P' : Nat → Obj → Prop} {h : Heap} (k : ∀ a o, P a o → h.get? a = some o) (k' : ∀ a o, P' a o → h.get? a = some o) : ∀ {d d' : Nat} {b b' : Bool} {v : Value} {t t' : T}, Rep P b d v t → Rep P' b' d' v t' → t = t' := by
  intro d
  induction d with
  | zero =>
    intro d' b b' v t t' x y
    obtain ⟨n, tk, rfl, rfl, _⟩ := x
    cases t' with
    | num m => obtain ⟨tk', e, _⟩ := y.outNum; cases e; rfl
    | node us => obtain ⟨_, a, _, _, e, _⟩ := y.out; cases e
  | succ d ih =>
    intro d' b b' v t t' x y
    cases t with
    | num n =>
      obtain ⟨tk, rfl, _⟩ := x.outNum
      cases t' with
      | num m => obtain ⟨tk', e, _⟩ := y.outNum; cases e; rfl
      | node us => obtain ⟨_, a, _, _, e, _⟩ := y.out; cases e
    | node ts =>
      obtain ⟨d1, a, xs, e1, rfl, bx, l1, r⟩ := x.out
      cases e1
      cases t' with
      | num m => obtain ⟨tk', e, _⟩ := y.outNum; cases e
      | node us =>
        obtain ⟨d2, a', ys, rfl, e, by', l2, r'⟩ := y.out
        cases e
        have exy := Box.fun k k' bx by'
        subst exy
        congr 1
        apply List.ext_getElem?
        intro i
        by_cases hi : i < xs.length
        · have h1 : i < ts.length := r.1 ▸ hi
          have h2 : i < us.length := r'.1 ▸ hi
          rw [List.getElem?_eq_getElem h1, List.getElem?_eq_getElem h2]
          exact congrArg some (ih (r.2 i _ _ (List.getElem?_eq_getElem hi) (List.getElem?_eq_getElem h1)) (r'.2 i _ _ (List.getElem?_eq_getElem hi) (List.getElem?_eq_getElem h2)))
        · rw [List.getElem?_eq_none (by have := r.1; omega), List.getElem?_eq_none (by have := r'.1; omega)]
section
variable {w : World} {mg mb : Str → Option Value} {P : Nat → Obj → Prop} {L c : Nat} {m : Str → Option Value} {own : List (Nat × Obj)} {A : Around} {E : Value → Shared → Prop} {s : Shared} {env : Env} {x : Str} {v : Value} {o : Obj}
theorem Fm.ofNs {h h' : Heap} {m' : Str → Option Value} {C' : Nat} (F : Fm w mg mb P L h m own) (sb : Sub h h') (lc : h.objs.size ≤ C') (hn : h'.Ns C' m') : Fm w mg mb (At h) C' h' m' [] :=
  ⟨F.G.sub sb, hn, Nat.le_trans F.G.size lc, fun a o q e => absurd (ltS q) (by rw [e]; exact Nat.not_lt.mpr lc), fun a o q => sb _ _ q, fun p hp => nomatch hp⟩
theorem Fm.known {h h' : Heap} {D : Nat} {o' : Obj} (F : Fm w mg mb P L h m own) (k : Sub h h') (hD : h'.get? D = some o') (hn : h.get? D = none) : Fm w mg mb (Add P D o') L h' m own where
  G := F.G.sub k
  ns := let ⟨x, es, ep, hx, r⟩ := F.ns; ⟨x, es, ep, k _ _ hx, r⟩
  lo := F.lo
  off := fun a o q => q.elim (F.off a o) fun e => by
    intro e'
    obtain ⟨x, es, ep, hx, r⟩ := F.ns
    have e2 : D = L := e.1.symm.trans e'
    rw [e2, hx] at hn
    cases hn
  keep := fun a o q => q.elim (fun q => k _ _ (F.keep a o q)) fun e => by rw [e.1, e.2]; exact hD
  own := fun p hp => by
    obtain ⟨a1, a2, a3, a4⟩ := F.own p hp
    refine ⟨k _ _ a1, a2, a3, fun o' q => q.elim (a4 o') fun e => ?_⟩
    have e2 : p.1 = D := e.1
    rw [e2, hn] at a1
    cases a1
end
theorem Fm.nw {w : World} {mg mb : Str → Option Value} {P : Nat → Obj → Prop} {L : Nat} {h h' : Heap} {m : Str → Option Value} {own : List (Nat × Obj)} (F : Fm w mg mb P L h m own) (k : Sub h h') : Fm w mg mb (Nw P h h') L h' m own :=
  ⟨F.G.sub k, let ⟨x, es, ep, hx, r⟩ := F.ns; ⟨x, es, ep, k _ _ hx, r⟩, F.lo, fun a o q => q.2.elim (F.off a o) fun l => Nat.ne_of_gt (Nat.lt_of_lt_of_le F.ltL l), fun a o q => q.1, fun p hp => let ⟨a1, a2, a3, a4⟩ := F.own p hp; ⟨k _ _ a1, a2, a3, fun o' q => q.2.elim (a4 o') fun l => absurd (ltS a1) (Nat.not_lt.mpr l)⟩⟩
theorem Fm.nwMono {w : World} {mg mb : Str → Option Value} {P : Nat → Obj → Prop} {L : Nat} {h h' : Heap} {m : Str → Option Value} {own : List (Nat × Obj)} (F : Fm w mg mb P L h m own) (k : Sub h h') : ∀ a o, P a o → Nw P h h' a o := fun a o q => ⟨k _ _ (F.keep _ _ q), .inl q⟩
theorem emptyX {P : Params} {h : Heap} (X : (K P).In h) : Vec (At h) aEmpty [] := by
  refine ⟨_, _, _, _, _, _, [], [], [], X aEmpty _ (by rfl), ⟨X _ _ (by rfl), ⟨_, X _ _ (by rfl)⟩, trivial⟩, ⟨_, X _ _ (by rfl)⟩, by simp, rfl⟩
theorem Fm.weak {w : World} {mg mb : Str → Option Value} {P P' : Nat → Obj → Prop} {L : Nat} {h : Heap} {m : Str → Option Value} {own : List (Nat × Obj)} (F : Fm w mg mb P L h m own) (k : ∀ a o, P' a o → P a o) : Fm w mg mb P' L h m own :=
  ⟨F.G, F.ns, F.lo, fun a o q => F.off a o (k a o q), fun a o q => F.keep a o (k _ _ q), fun p hp => let ⟨a1, a2, a3, a4⟩ := F.own p hp; ⟨a1, a2, a3, fun o' q => a4 o' (k _ _ q)⟩⟩
theorem itemLI {w : World} {A : Around} {E Q : Value → Shared → Prop} {s : Shared} {xs : List Value} {n l : Nat} {value slice : PySem.Expr} {k : Int} {t : Tok} {x : Value} (hl : s.heap.get? l = some (listObj xs n)) (hz : xs.length < 2 ^ 30) (h0 : -(xs.length : Int) ≤ k) (h1 : k < xs.length) (hx : xs[(if k < 0 then k + xs.length else k).toNat]? = some x) (h : Q x s)
    (hs : subscripted slice false (.ref l) (.int k t) = operate [.ref l, .int k t] (getItem (.ref l) (.int k t)) := by rfl) : wpAny (model prog w) A (subscriptTail value slice (.ref l) (.int k t)) Q E s := by
  by_cases hi : k < 0
  · rw [if_pos hi] at hx
    exact tail_any (isList_at hl).typeIs slot_list_getitem.lookup (wpAny_getItem_list_neg (isList_at hl) hi (by rw [List.size_toArray]; omega) (by omega) (by rw [List.size_toArray]; simpa using hx) h) hs
  · rw [if_neg hi] at hx
    exact tail_any (isList_at hl).typeIs slot_list_getitem.lookup (wpAny_getItem_list (isList_at hl) (by omega) (by omega) (by simpa using hx) h) hs
theorem subV {w : World} {mg mb : Str → Option Value} {P : Nat → Obj → Prop} {L : Nat} {m : Str → Option Value} {own : List (Nat × Obj)} {A : Around} {s : Shared} {Q E : Value → Shared → Prop} {v : Nat} {xs : List Value} {i : Int} {ti : Tok} {x : Value} {value slice : PySem.Expr}
    (F : Fm w mg mb P L s.heap m own) (hA : A.handled = none) (hd : A.depth + 1 < recursionLimit) (V : Vec (At s.heap) v xs) (hz : xs.length < 1056) (h0 : -(xs.length : Int) ≤ i) (h1 : i < xs.length) (hx : xs[(if i < 0 then i + xs.length else i).toNat]? = some x)
    (ret : ∀ h' tk', Sub s.heap h' → Q x { s with heap := h', toks := tk' })
    (hsl : subscripted slice true (.ref v) (.int i ti) = runValue (.builtin "lifetime.subscript" ⟨[.ref v, .int i ti], []⟩) := by with_unfolding_all rfl) :
    wpAny (model prog w) A (subscriptTail value slice (.ref v) (.int i ti)) Q E s := by
  obtain ⟨h₀, f, X⟩ := F.fr
  obtain ⟨o, I⟩ := V.inst
  exact sub_K f X I (kn_get _) (kn_getFn' _) (kn_getFn _) (getV F.G hA hd V hz h0 h1 hx ret) hsl
theorem subSliceL {w : World} {A : Around} {E Q : Value → Shared → Prop} {s : Shared} {env : Env} {value : Expr} {lower upper : Option Expr} {p pos : Pos}
    (h : wpAny (model prog w) A (eval value env) (fun o s₁ => wpAny (model prog w) A (evalPart lower env) (fun vl s₂ => wpAny (model prog w) A (evalPart upper env) (fun vu s₃ =>
      ∃ l items lo hi, o = .ref l ∧ s₃.heap.IsList l items ∧ items.size ≤ sizeLine ∧ IsPart vl lo ∧ IsPart vu hi ∧
        Q (.ref (s₃.heap.objs.size + 1)) { s₃ with heap := (s₃.heap.push { cls := .type "slice", data := .fields #[vl, vu, .none] }).push { cls := .type "list", data := .seq (slicePick items lo hi none) } }) E s₂) E s₁) E s) :
    wpAny (model prog w) A (eval (.Subscript value (.Slice lower upper none p) pos) env) Q E s := by
  refine Subscript_ (wpAny_mono h (fun o s₁ h₁ => wpAny_Slice (wpAny_mono h₁ (fun vl s₂ h₂ => wpAny_mono h₂ (fun vu s₃ h₃ => ?_) fun _ _ e => e) fun _ _ e => e)) fun _ _ e => e)
  obtain ⟨l, items, lo, hi, rfl, hl, hsz, pl, pu, hQ⟩ := h₃
  rw [evalPart_none]
  refine wpAny_pure (tail_any (ops := [.ref s₃.heap.objs.size, .ref l]) (hl.push _).typeIs slot_list_getitem.lookup (wpAny_getItem_list_slice (hl.push _) (Heap.IsSliceOf.new ..) pl pu .none (by simp) ?_ hsz) (by rfl))
  rw [Heap.size_push]
  exact hQ
theorem addL {w : World} {mg mb : Str → Option Value} {P : Nat → Obj → Prop} {L a b : Nat} {m : Str → Option Value} {own : List (Nat × Obj)} {A : Around} {E Q : Value → Shared → Prop} {s : Shared} {xs ys : List Value} (F : Fm w mg mb P L s.heap m own) (ha : s.heap.IsList a xs.toArray) (hb : s.heap.IsList b ys.toArray) (hz : xs.length + ys.length < 2 ^ 20)
    (h : ∀ D h', Fm w mg mb P L h' m ((D, listObj (xs ++ ys) 0) :: own) → L < D → (∀ p ∈ own, p.1 ≠ D) → Q (.ref D) { s with heap := h' }) : wpAny (model prog w) A (binaryOp .Add (.ref a) (.ref b)) Q E s := by
  obtain ⟨⟨cls, dd, data, sl⟩, ho, hc, n, hd⟩ := id ha
  obtain ⟨⟨cls2, dd2, data2, sl2⟩, ho2, hc2, n2, hd2⟩ := id hb
  simp only at hc hd hc2 hd2
  subst hc hd hc2 hd2
  refine concat_meets ⟨_, ho, rfl⟩ ⟨_, ho2, rfl⟩ noFill_list_add seq_list_add PySem.F.slot_list_add PySem.F.entry_list_add (PySem.F.args_list_add_2 _ _) (list_addW a b xs.toArray ys.toArray n n2 dd dd2 sl sl2 (by rw [sizeLine_eq]; simp; omega)) ⟨ho, ho2, ?_⟩
  rw [show xs.toArray ++ ys.toArray = (xs ++ ys).toArray by simp]
  exact h _ _ (F.alloc _) F.fresh.1 F.fresh.2
def Ints (xs : List Value) : Prop := ∀ x ∈ xs, ∃ n t, x = .int n t
theorem Ints.are : ∀ {xs : List Value}, Ints xs → ∃ ns, IntsAre xs ns
  | [], _ => ⟨[], .nil⟩
  | x :: xs, h => by
    obtain ⟨n, t, rfl⟩ := h x (.head _)
    obtain ⟨ns, q⟩ := Ints.are (xs := xs) (fun y hy => h y (.tail _ hy))
    exact ⟨n :: ns, .cons _ _ q⟩
theorem pick_all (xs : List Value) : slicePick xs.toArray none none none = xs.toArray := by
  rw [slicePick_plain]
  simp only [Option.elim, List.size_toArray]
  simp
theorem setLI {w : World} {mg mb : Str → Option Value} {P : Nat → Obj → Prop} {L l n : Nat} {m : Str → Option Value} {own : List (Nat × Obj)} {A : Around} {E : Value → Shared → Prop} {s : Shared} {xs : List Value} {k : Int} {t : Tok} {v : Value} {Q : Unit → Shared → Prop} (F : Fm w mg mb P L s.heap m ((l, listObj xs n) :: own)) (hne : ∀ p ∈ own, p.1 ≠ l) (h0 : -(xs.length : Int) ≤ k) (hk : k < xs.length) (hz : xs.length < 2 ^ 20)
    (h : ∀ c h', Fm w mg mb P L h' m ((l, listObj (xs.set (if k < 0 then k + xs.length else k).toNat v) c) :: own) → Q () { s with heap := h' }) : wpAny (model prog w) A (setItem (.ref l) (.int k t) v) Q E s := by
  have z := F.own _ (.head _)
  have fin : ∀ j, (s.heap.update l (Obj.mapSeq (·.setIfInBounds j v))).get? l = some (listObj (xs.set j v) n) := fun j => by
    refine (Heap.get?_update_self _ z.1 rfl).trans ?_
    simp [Obj.mapSeq]
  by_cases hi : k < 0
  · refine ki_setBack (items := xs.toArray) (n := n) z.1 hi (by rw [List.size_toArray]; omega) (by omega) ?_
    rw [List.size_toArray]
    rw [if_pos hi] at h
    exact h n _ (F.turn (Heap.SameBut.update ..) (fin _) hne)
  · refine ki_setAt (items := xs.toArray) (n := n) z.1 (by omega) (by omega) (by rw [List.size_toArray]; omega) ?_
    rw [if_neg hi] at h
    exact h n _ (F.turn (Heap.SameBut.update ..) (fin _) hne)
theorem kc_isIn (P : Params) : isIn (K P) (.ref C) C = true := by kernel_rfl!
theorem kc_intNot (P : Params) : isNotIn (K P) "int" C = true := by kernel_rfl!
theorem isi_vec {w : World} {mg mb : Str → Option Value} {A : Around} {E Q : Value → Shared → Prop} {s : Shared} (G : Gr w mg mb s.heap) {x dx : Nat} {sl : Array (Option Value)} (hx : s.heap.get? x = some ⟨.ref C, some dx, .plain, sl⟩) (h : Q (.bool true) s) : wpAny (model prog w) A (call (.builtin "isinstance") [.ref x, .ref C]) Q E s :=
  isi_call (t := .ref C) G.X (fun M => (Looks.ld hx).andThen .now) (kc_isIn _) (fun e => by cases e) h
theorem isi_int {w : World} {mg mb : Str → Option Value} {A : Around} {E Q : Value → Shared → Prop} {s : Shared} (G : Gr w mg mb s.heap) {k : Int} {t : Tok} (h : Q (.bool false) { s with toks := s.toks + 1 }) : wpAny (model prog w) A (call (.builtin "isinstance") [.int k t, .ref C]) Q E s :=
  isn_call (T := "int") (P := fun _ => True) G.X (fun M => .now) (kc_intNot _) (fun e => by cases e) trivial (fun p q => int_cls p q) h
theorem Fm.sl1 {w : World} {mg mb : Str → Option Value} {P : Nat → Obj → Prop} {L : Nat} {m : Str → Option Value} {own : List (Nat × Obj)} {h : Heap} (F : Fm w mg mb P L h m own) (t : Tok) (xs : List Value) :
    ∃ D h', D = h.objs.size + 1 ∧ h' = (h.push { cls := .type "slice", data := .fields #[.int ((1 : Nat) : Int) t, .none, .none] }).push (listObj xs 0) ∧ Fm w mg mb P L h' m ((D, listObj xs 0) :: own) ∧ L < D ∧ ∀ p ∈ own, p.1 ≠ D := by
  obtain ⟨F3, l3, n3⟩ := F.sliced { cls := .type "slice", data := .fields #[.int ((1 : Nat) : Int) t, .none, .none] } (listObj xs 0)
  exact ⟨_, _, rfl, rfl, F3, l3, n3⟩
theorem Fm.slA {w : World} {mg mb : Str → Option Value} {P : Nat → Obj → Prop} {L : Nat} {m : Str → Option Value} {own : List (Nat × Obj)} {h : Heap} (F : Fm w mg mb P L h m own) (xs : List Value) :
    ∃ D h', D = h.objs.size + 1 ∧ h' = (h.push { cls := .type "slice", data := .fields #[.none, .none, .none] }).push (listObj xs 0) ∧ Fm w mg mb P L h' m ((D, listObj xs 0) :: own) ∧ L < D ∧ ∀ p ∈ own, p.1 ≠ D := by
  obtain ⟨F3, l3, n3⟩ := F.sliced { cls := .type "slice", data := .fields #[.none, .none, .none] } (listObj xs 0)
  exact ⟨_, _, rfl, rfl, F3, l3, n3⟩
theorem pvectorV {w : World} {mg mb : Str → Option Value} {A : Around} {s : Shared} {Q E : Value → Shared → Prop} {l : Nat} {xs : List Value} {n : Nat} {P0 : Nat → Obj → Prop}
    (G : Gr w mg mb s.heap) (hA : A.handled = none) (hd : A.depth + 6 < recursionLimit) (hP0 : ∀ a o, P0 a o → s.heap.get? a = some o) (VE0 : Vec P0 aEmpty []) (hl : s.heap.get? l = some (listObj xs n)) (hz : xs.length < 1056)
    (ret : ∀ v' h' tk', Sub s.heap h' → Vec (Nw P0 s.heap h') v' xs → Q (.ref v') { s with heap := h', toks := tk' }) :
    wpAny (model prog w) A (call (.ref fPvector) [.ref l]) Q E s := by
  refine enter (P := At s.heap) (own := []) [("iterable", .ref l)] G (fun _ _ h => h) (fun _ h => nomatch h) (by rfl) (by rfl) (by omega) (binds_K G.X rfl (by rfl) rfl (by rfl) (by rfl)) (locs (by rfl)) ?_
  intro L h₁ hL F
  have VE := emptyV G
  have VE' := VE
  obtain ⟨de, re, te, tce, tse, tfe, ase, lse, tle, hve, hVe, _⟩ := VE'
  have hVe1 := hVe.dict
  repeat (walk_at "N")
  have lF := Nat.le_of_lt (hL ▸ F.ltL)
  refine extendV (P0 := P0) F.G hA (by show A.depth + 1 + 5 < _; omega) (fun a o q => F.get (hP0 _ _ q)) VE0 (F.get hl) (by simp; omega) (fun v' h4 tk4 sb4 V4 => ?_)
  repeat (walk_at "N")
  exact ret v' h4 _ (fun b o e => sb4 _ _ (F.keep _ _ e)) (V4.mono (fun a o q => ⟨q.1, q.2.imp id fun q => Nat.le_trans lF q⟩))
section
open PySem PySem.W PyProof.Rows PySem.Calls Builtin
open MeetsSeq MeetsSeq2 MeetsSeq3 SeqRoads2 SeqAt
/-- equality that may grow the heap -/
def EqS (w : World) (A : Around) (s : Shared) (x y : Value) (b : Bool) : Prop :=
  ∀ (E : Value → Shared → Prop) (Q : Bool → Shared → Prop), (∀ h' tk', Sub s.heap h' → Q b { s with heap := h', toks := tk' }) → wpAny (model prog w) A (eqBool x y) Q E s
theorem eqLoop {w : World} {A : Around} {a b : Nat} {xs ys : List Value} {n n2 : Nat} (hsz : xs.length = ys.length) (e : Nat → Bool) {R : Result → Shared → Prop} (k : Nat) :
    ∀ (i : Nat) (s : Shared), xs.length - i = k → s.heap.get? a = some (listObj xs n) → s.heap.get? b = some (listObj ys n2) →
      (∀ j x y, xs[j]? = some x → ys[j]? = some y → ∀ h' tk', Sub s.heap h' → EqS w A.in1 { s with heap := h', toks := tk' } x y (e j)) →
      (∀ h' tk', Sub s.heap h' → R (.ok (.ret (.bool (((List.range xs.length).drop i).all e)))) { s with heap := h', toks := tk' }) →
      wpAny (model prog w) A.in1 (Builtin.«list.__eq__.loop» ⟨[.ref a, .ref b, rawInt i, rawInt 2], []⟩)
        (fun fin s' => match fin with | .done f => R (.ok f) s' | .again c' => c'.quiet = true ∧ codeAny (model prog w) A c' R s') (fun e s' => R (.error e) s') s := by
  induction k with
  | zero =>
    intro i s hk hl hb he h
    obtain ⟨hp, g, d, tk, os⟩ := s
    dsimp only at hl hb h
    wp_walk using PySem.AutoSeq1.wpAny_loadPart' hl, PySem.AutoSeq1.wpAny_loadPart' hb
    have hi1 : xs.toArray[((i : Nat) : Int).toNat]? = none := by simp; omega
    have hi2 : ys.toArray[((i : Nat) : Int).toNat]? = none := by simp; omega
    have hd : (List.range xs.length).drop i = [] := by simp; omega
    rw [hd] at h
    rw [hi1, hi2]
    wp_walk using PySem.AutoSeq1.wpAny_loadPart' hl, PySem.AutoSeq1.wpAny_loadPart' hb
    show R (.ok (.ret (.bool (xs.toArray.size == ys.toArray.size)))) _
    rw [List.size_toArray, List.size_toArray, hsz]
    simpa using h hp tk (fun _ _ q => q)
  | succ k ih =>
    intro i s hk hl hb he h
    obtain ⟨hp, g, d, tk, os⟩ := s
    dsimp only at hl hb h he
    wp_walk using PySem.AutoSeq1.wpAny_loadPart' hl, PySem.AutoSeq1.wpAny_loadPart' hb
    have hlt : i < xs.length := by omega
    have hlt2 : i < ys.length := by omega
    have hi1 : xs.toArray[((i : Nat) : Int).toNat]? = some xs[i] := by simp [hlt]
    have hi2 : ys.toArray[((i : Nat) : Int).toNat]? = some ys[i] := by simp [hlt2]
    have hd : (List.range xs.length).drop i = i :: (List.range xs.length).drop (i + 1) := by simp [List.drop_eq_getElem_cons, hlt]
    have hc : ((i : Int) + 1) = ((i + 1 : Nat) : Int) := by push_cast; rfl
    rw [hd, List.all_cons] at h
    rw [hi1, hi2]
    refine wpAny_bind (he i _ _ (List.getElem?_eq_getElem hlt) (List.getElem?_eq_getElem hlt2) hp tk (fun _ _ q => q) _ _ (fun h1 tk1 sb1 => ?_))
    have hl1 := sb1 _ _ hl
    have hb1 := sb1 _ _ hb
    cases hb' : e i with
    | true =>
      rw [hb'] at h
      wp_walk
      rw [hc]
      exact ⟨plainId_quiet plain_eq_loop _, codeAny_builtin entry_eq_loop (by
        rw [Around.under_plainId plain_eq_loop _]
        exact ih (i + 1) ⟨h1, g, d, tk1, os⟩ (by omega) hl1 hb1 (fun j x y h1' h2' h'' tk'' sb'' => he j x y h1' h2' h'' tk'' (fun b o q => sb'' _ _ (sb1 _ _ q))) (fun h'' tk'' sb'' => by simpa using h h'' tk'' (fun b o q => sb'' _ _ (sb1 _ _ q))))⟩
    | false =>
      rw [hb'] at h
      wp_walk using PySem.AutoSeq1.wpAny_loadPart' hl1, PySem.AutoSeq1.wpAny_loadPart' hb1
      rw [hi1, hi2]
      wp_walk
      simpa using h h1 tk1 sb1
theorem listEq {w : World} {A : Around} {s : Shared} {E Q : Value → Shared → Prop} {a b : Nat} {xs ys : List Value} {n n2 : Nat} (hu : A.units < cLine) (hl : s.heap.get? a = some (listObj xs n)) (hb : s.heap.get? b = some (listObj ys n2)) (e : Nat → Bool)
    (he : ∀ j x y, xs[j]? = some x → ys[j]? = some y → ∀ h' tk', Sub s.heap h' → EqS w A.in1 { s with heap := h', toks := tk' } x y (e j))
    (h : ∀ h' tk', Sub s.heap h' → Q (.bool (decide (xs.length = ys.length) && (List.range xs.length).all e)) { s with heap := h', toks := tk' }) :
    wpAny (model prog w) A (richCompare .Eq (.ref a) (.ref b)) Q E s := by
  refine wpAny_richCompare_same_room (isList_at hl).typeIs (isList_at hb).typeIs PySem.F.slot_list_eq (wpAny_call (codeAny_call_builtin PySem.F.slot_list_eq.plain PySem.F.entry_list_eq (PySem.F.slot_list_eq.check _ _ _ _ _ _ _ _ (isList_at hl).typeIs (PySem.F.args_list_eq_2 _ _) ?_))) hu
  obtain ⟨hp, g, d, tk, os⟩ := s
  dsimp only at hl hb h he
  have f3 := AutoSeq1.sub_list_list
  by_cases hsz : xs.length = ys.length
  · have hne : ¬ (xs.toArray.size != ys.toArray.size) = true := by simp [hsz]
    wp_walk using PySem.AutoSeq1.wpAny_loadPart' hl, PySem.AutoSeq1.wpAny_loadPart' hb
    refine ⟨plainId_quiet plain_eq_loop _, codeAny_builtin entry_eq_loop ?_⟩
    rw [Around.under_plainId plain_eq_loop _]
    have q := eqLoop (A := A) (R := wants (fun v s' => v ≠ .notImplemented ∧ Q v s') E) hsz e xs.length 0 ⟨hp, g, d, tk, os⟩ (by omega) hl hb he (fun h' tk' sb => by
      have := h h' tk' sb
      rw [decide_eq_true hsz, Bool.true_and] at this
      exact ⟨by simp, by rw [List.drop_zero]; exact this⟩)
    exact q
  · have hne : (xs.toArray.size != ys.toArray.size) = true := by simp [hsz]
    wp_walk using PySem.AutoSeq1.wpAny_loadPart' hl, PySem.AutoSeq1.wpAny_loadPart' hb
    have := h hp tk (fun _ _ q => q)
    simp [hsz] at this
    exact ⟨by simp, this⟩
end
section
open PySem PySem.W PyProof.Rows PySem.Calls Builtin
theorem kind_hasattr : builtinKind "hasattr" = none := by decide +kernel
theorem plain_hasattr : plainId "hasattr" = true := by decide +kernel
theorem entry_hasattr : entryFor table "hasattr" = some Builtin.«hasattr» := entryFor_of_tree (by kernel_rfl)
theorem args_hasattr (a b : Value) : argsOk "hasattr" ⟨[a, b], []⟩ := by unfold argsOk; kernel_rfl
theorem lk_list_len : typeLookup (.type "list") "__len__" = pure (some (.builtin "list.__len__")) := by rw [typeLookup_type, builtinLookup_eq_fast]; kernel_rfl
theorem sub_list_module : isSubtype (.type "list") (.type "module") = pure false := by rw [isSubtype_type]; kernel_rfl
theorem ty_list_len : typeOf (.builtin "list.__len__") = pure (.type "wrapper_descriptor") := by kernel_rfl
theorem slot_wd_get : Slot "wrapper_descriptor" "__get__" "wrapper_descriptor.__get__" :=
  .of (owner := "wrapper_descriptor") (n := "__get__") (by rw [typeLookup_type, builtinLookup_eq_fast]; kernel_rfl) (by decide +kernel) (by decide +kernel) (by decide +kernel)
    (by first | exact .inl (by decide +kernel) | exact .inr (by decide +kernel)) (by rw [isSubtype_type]; kernel_rfl)
theorem lk_wd_set : typeLookup (.type "wrapper_descriptor") "__set__" = pure none := by rw [typeLookup_type, builtinLookup_eq_fast]; kernel_rfl
theorem lk_wd_del : typeLookup (.type "wrapper_descriptor") "__delete__" = pure none := by rw [typeLookup_type, builtinLookup_eq_fast]; kernel_rfl
theorem entry_wd_get : entryFor table "wrapper_descriptor.__get__" = some Builtin.«wrapper_descriptor.__get__» := entryFor_of_tree (by kernel_rfl)
theorem args_wd_get (a b c : Value) : argsOk "wrapper_descriptor.__get__" ⟨[a, b, c], []⟩ := by unfold argsOk; kernel_rfl
theorem owner_len : (".".intercalate ("list.__len__".cutAt '.').dropLast) = "list" := by
  have e0 : "list.__len__".cutAt '.' = ["list", "__len__"] := by first | rfl | decide +kernel
  rw [e0]; decide +kernel
theorem sub_len_owner : isSubtype (.type "list") (.type (".".intercalate ("list.__len__".cutAt '.').dropLast)) = pure true := by
  rw [owner_len, isSubtype_type]; kernel_rfl
section
variable {w : World} {A : Around} {E Q : Value → Shared → Prop} {h : Heap} {g : Array GenState} {d : Drawn} {t : Nat} {os : OsState} {l n : Nat} {xs : List Value} {u : Tok}
theorem wdGet {R : Result → Shared → Prop} (hl : h.get? l = some (listObj xs n)) (hq : R (.ok (.ret (.ref h.objs.size))) ⟨h.push { cls := .type "method-wrapper", data := .fields #[.builtin "list.__len__", .ref l] }, g, d, t, os⟩) :
    codeAny (model prog w) A (.call (.builtin "wrapper_descriptor.__get__") ⟨[.builtin "list.__len__", .ref l, .type "list"], []⟩) R ⟨h, g, d, t, os⟩ := by
  have hT : (⟨h, g, d, t, os⟩ : Shared).TypeIs (.ref l) "list" := ⟨_, hl, rfl⟩
  have hT5 : (⟨h, g, d, t, os⟩ : Shared).TypeIs (.builtin "list.__len__") "wrapper_descriptor" := ty_list_len
  have f8 := sub_len_owner
  refine codeAny_call_builtin slot_wd_get.plain entry_wd_get (slot_wd_get.check _ _ _ _ _ _ _ _ hT5 (args_wd_get _ _ _) ?_)
  wp_walk
  exact hq
theorem gaList {R : Result → Shared → Prop} (hl : h.get? l = some (listObj xs n)) (hq : R (.ok (.ret (.ref h.objs.size))) ⟨h.push { cls := .type "method-wrapper", data := .fields #[.builtin "list.__len__", .ref l] }, g, d, t, os⟩) :
    codeAny (model prog w) A (.call (.builtin "list.__getattribute__") ⟨[.ref l, .str "__len__" u], []⟩) R ⟨h, g, d, t, os⟩ := by
  have hT : (⟨h, g, d, t, os⟩ : Shared).TypeIs (.ref l) "list" := ⟨_, hl, rfl⟩
  have hT5 : (⟨h, g, d, t, os⟩ : Shared).TypeIs (.builtin "list.__len__") "wrapper_descriptor" := ty_list_len
  have f4 := lk_list_len
  have f5 := ty_list_len
  have f6 := slot_wd_get.lookup
  have f7 := lk_wd_set
  have f8 := lk_wd_del
  refine codeAny_call_builtin PySem.F.slot_list_getattribute.plain PySem.F.entry_list_ga (PySem.F.slot_list_getattribute.check _ _ _ _ _ _ _ _ hT (PySem.F.args_list_getattribute_2 _ _) ?_)
  repeat (any_goals (first | assumption | wp_step))
  refine wdGet hl ?_
  repeat (any_goals (first | assumption | wp_step))
theorem byList {Q : Value → Shared → Prop} (hl : h.get? l = some (listObj xs n)) (hq : Q (.ref h.objs.size) ⟨h.push { cls := .type "method-wrapper", data := .fields #[.builtin "list.__len__", .ref l] }, g, d, t, os⟩) : wpAny (model prog w) A (getAttrBy (.ref l) (.str "__len__" u) false) Q E ⟨h, g, d, t, os⟩ := by
  have hT : (⟨h, g, d, t, os⟩ : Shared).TypeIs (.ref l) "list" := ⟨_, hl, rfl⟩
  have f2 := PySem.F.slot_list_getattribute.lookup
  have f3 := PySem.F.slot_list_getattribute.bind (.ref l)
  repeat (any_goals (first | assumption | wp_step))
  refine gaList hl ?_
  repeat (any_goals (first | assumption | wp_step))
theorem hasList (hl : h.get? l = some (listObj xs n)) (hQ : ∀ h' tk', Sub h h' → Q (.bool true) ⟨h', g, d, tk', os⟩) : wpAny (model prog w) A (call (.builtin "hasattr") [.ref l, .str "__len__" u]) Q E ⟨h, g, d, t, os⟩ := by
  have hT : (⟨h, g, d, t, os⟩ : Shared).TypeIs (.ref l) "list" := ⟨_, hl, rfl⟩
  have f1 := lk_list_len
  have f2 := PySem.F.slot_list_getattribute.lookup
  have f4 := sub_list_module
  have fin := hQ _ t (fun b o e => Heap.get?_push_of_some { cls := .type "method-wrapper", data := .fields #[.builtin "list.__len__", .ref l] } e)
  refine call_function_any kind_hasattr plain_hasattr entry_hasattr (args_hasattr _ _) ?_
  unfold Builtin.«hasattr» getAttrBy?
  repeat (any_goals (first | assumption | with_reducible apply byList hl | wp_step))
end
end
section
open PySem PySem.W PyProof.Rows PySem.Calls Builtin
theorem lk_int_len : typeLookup (.type "int") "__len__" = pure none := by rw [typeLookup_type, builtinLookup_eq_fast]; kernel_rfl
section
variable {w : World} {A : Around} {E Q : Value → Shared → Prop} {h : Heap} {g : Array GenState} {d : Drawn} {t : Nat} {os : OsState} {l n : Nat} {xs : List Value} {u : Tok} {k : Int} {tk : Tok}
theorem byInt {Q : Value → Shared → Prop} (hA : A.handled = none) (hE : ∀ h' tk' e, Heap.NewExcOf h h' e "AttributeError" → E (.ref e) ⟨h', g, d, tk', os⟩) : wpAny (model prog w) A (getAttrBy (.int k tk) (.str "__len__" u) false) Q E ⟨h, g, d, t, os⟩ := by
  have hT : ∀ s' : Shared, s'.TypeIs (.int k tk) "int" := fun _ => rfl
  have f1 := sub_AttributeError
  have f3 := PySem.F.slot_int_getattribute.lookup
  have f4 := PySem.F.slot_int_getattribute.bind (.int k tk)
  have f5 := am_int_getattr_none
  unfold getAttrBy
  repeat (any_goals (first | assumption | ((with_reducible show wpAny _ _ (call (Value.builtin "int.__getattribute__") _ _) _ _ _); refine call_meets PySem.F.slot_int_getattribute (hT _) am_entry_int_getattribute (PySem.F.args_int_getattribute_2 _ _) (meets_getattribute_miss_int k tk "__len__" _ lk_int_len) ⟨hA, fun h' tk' e hx => ?_⟩) | wp_step))
  obtain ⟨t', u', he⟩ := hx.there
  show wpAny _ _ (getattributeRaised _ _ _ _ _ _ _) _ _ _
  unfold getattributeRaised
  repeat (any_goals (first | assumption | wp_step))
  exact hE _ _ _ hx.of
theorem hasInt (hA : A.handled = none) (hQ : ∀ h' tk', Sub h h' → Q (.bool false) ⟨h', g, d, tk', os⟩) : wpAny (model prog w) A (call (.builtin "hasattr") [.int k tk, .str "__len__" u]) Q E ⟨h, g, d, t, os⟩ := by
  have hT : ∀ s' : Shared, s'.TypeIs (.int k tk) "int" := fun _ => rfl
  have f1 := lk_int_len
  have f2 := PySem.F.slot_int_getattribute.lookup
  have f3 := sub_AttributeError
  refine call_function_any kind_hasattr plain_hasattr entry_hasattr (args_hasattr _ _) ?_
  unfold Builtin.«hasattr» getAttrBy?
  repeat (any_goals (first | assumption | ((with_reducible show wpAny _ _ (getAttrBy _ _ _) _ _ _); refine byInt hA (fun h' tk' e hx => ?_)) | wp_step))
  obtain ⟨ob, tp, he, hcls, _⟩ := hx.there
  refine AutoSeq1.wpAny_loadPart' he (wpAny_pure ?_)
  rw [hcls]
  have fin := hQ h' tk' hx.keeps
  repeat (any_goals (first | assumption | wp_step))
end
theorem kh_find (P : Params) : findObj (K P) C (some (dictOf [] 0)) "__len__" = some (.bind (.builtin "function.__get__") (.ref fLen)) := by kernel_rfl!
theorem kh_ty (P : Params) : typeIn (K P) (.ref fLen) = some (.type "function") := by kernel_rfl!
theorem kh_mod (P : Params) : subIn (K P) (.ref C) (.type "module") = some false := by kernel_rfl!
section
variable {w : World} {mg mb : Str → Option Value} {A : Around} {E Q : Value → Shared → Prop} {h : Heap} {g : Array GenState} {d : Drawn} {t : Nat} {os : OsState} {v : Nat} {xs : List Value} {u : Tok}
theorem byVec (G : Gr w mg mb h) (V : Vec (At h) v xs) (hq : ∀ h' tk' m, Sub h h' → Q (.ref m) ⟨h', g, d, tk', os⟩) : wpAny (model prog w) A (getAttrBy (.ref v) (.str "__len__" u) false) Q E ⟨h, g, d, t, os⟩ := by
  obtain ⟨o, I⟩ := V.inst
  have L0 := I.type (M := model prog w)
  have L1 := looks_findIn (M := model prog w) G.X (plainGet_of (kc_plain w.params "__len__")).1
  have L2 := looks_findIn (M := model prog w) G.X (plainGet_of (kc_plain w.params "__len__")).2
  have L3 := looks_find (M := model prog w) G.X I (kh_find w.params)
  have L6 := looks_typeIn (M := model prog w) G.X (kh_ty w.params)
  unfold getAttrBy
  refine wpAny_holding (wpAny_bind (L0.at (wpAny_bind (L1.at ?_))))
  show wpAny _ _ (getAttrEveryday _ _ _) _ _ _
  refine wpAny_bind (wpAny_onRaise (wpAny_runValue (codeAny_builtin PySem.F.plainObj_entry_getattr_hooked ?_)))
  refine wpAny_bind (wpAny_pure (wpAny_bind (L0.at (wpAny_bind (L3.at (wpAny_bind (L2.at ?_)))))))
  show wpAny _ _ (holding [Value.ref fLen] (call (.builtin "function.__get__") [.ref fLen, .ref v, .ref C]) >>= ret) _ _ _
  refine wpAny_bind (wpAny_holding ?_)
  have hT : (⟨h, g, d, t, os⟩ : Shared).TypeIs (.ref fLen) "function" := ⟨_, G.X fLen _ (by rfl), rfl⟩
  refine wpAny_call (codeAny_call_builtin KF.slot_fn.plain KF.entry_fn (KF.slot_fn.check _ _ _ _ _ _ _ _ hT (KF.args_fn _ _ _) ?_))
  wp_walk
  exact hq _ _ _ (fun b o e => Heap.get?_push_of_some _ e)
theorem hasVec (G : Gr w mg mb h) (V : Vec (At h) v xs) (hQ : ∀ h' tk', Sub h h' → Q (.bool true) ⟨h', g, d, tk', os⟩) : wpAny (model prog w) A (call (.builtin "hasattr") [.ref v, .str "__len__" u]) Q E ⟨h, g, d, t, os⟩ := by
  obtain ⟨o, I⟩ := V.inst
  have L0 := I.type (M := model prog w)
  have L4 := looks_subIn (M := model prog w) G.X (kh_mod w.params)
  have L5 : Looks (model prog w) h (isInstance (.ref v) (.type "module")) false := L0.andThen L4
  refine call_function_any kind_hasattr plain_hasattr entry_hasattr (args_hasattr _ _) ?_
  unfold Builtin.«hasattr» getAttrBy?
  repeat (first | ((with_reducible show wpAny _ _ (Sem.attempt (getAttrBy _ _ _)) _ _ _); refine wpAny_attempt (byVec G V (fun h' tk' m sb => ?_))) | lk)
  exact hQ h' tk' sb
end
end
noncomputable def eqT (t u : T) : Bool := @decide (t = u) (Classical.propDecidable _)
theorem eqT_true {t u : T} : eqT t u = true ↔ t = u := by unfold eqT; simp
theorem eqT_self (t : T) : eqT t t = true := eqT_true.mpr rfl
theorem eqT_ne {t u : T} (h : t ≠ u) : eqT t u = false := by
  cases e : eqT t u with
  | false => rfl
  | true => exact absurd (eqT_true.mp e) h
theorem eqT_num (a b : Int) : eqT (.num a) (.num b) = (a == b) := by
  rw [Bool.eq_iff_iff, eqT_true]; simp
noncomputable def eqAt (ts us : List T) (j : Nat) : Bool := match ts[j]?, us[j]? with
  | some t, some u => eqT t u
  | _, _ => false
theorem eqT_node (ts us : List T) : eqT (.node ts) (.node us) = (decide (ts.length = us.length) && (List.range ts.length).all (eqAt ts us)) := by
  rw [Bool.eq_iff_iff, eqT_true]
  simp only [T.node.injEq, Bool.and_eq_true, decide_eq_true_eq, List.all_eq_true, List.mem_range]
  constructor
  · rintro rfl
    refine ⟨rfl, fun j hj => ?_⟩
    unfold eqAt
    rw [List.getElem?_eq_getElem hj]
    exact eqT_self _
  · rintro ⟨hl, h⟩
    apply List.ext_getElem?
    intro j
    by_cases hj : j < ts.length
    · have := h j hj
      unfold eqAt at this
      rw [List.getElem?_eq_getElem hj, List.getElem?_eq_getElem (hl ▸ hj)] at this ⊢
      exact congrArg some (eqT_true.mp this)
    · rw [List.getElem?_eq_none (by omega), List.getElem?_eq_none (by omega)]
/-- equality of two told trees of depth d at most -/
def EqOK (w : World) (mg mb : Str → Option Value) (d : Nat) : Prop :=
  ∀ (A : Around) (s : Shared) (b1 b2 : Bool) (v1 v2 : Value) (t1 t2 : T), Gr w mg mb s.heap → A.handled = none → A.depth + 4 * d + 10 < recursionLimit → A.units + 20 * d + 60 < cLine →
    Rep (At s.heap) b1 d v1 t1 → Rep (At s.heap) b2 d v2 t2 → EqS w A s v1 v2 (eqT t1 t2)
section
variable {w : World} {mg mb : Str → Option Value} {A : Around} {E Q : Value → Shared → Prop} {s : Shared} {d : Nat}
theorem listsEq (ih : EqOK w mg mb d) {a b : Nat} {xs ys : List Value} {ts us : List T} {n n2 : Nat} {b1 b2 : Bool} (G : Gr w mg mb s.heap) (hA : A.handled = none) (hd : A.depth + 4 * d + 10 < recursionLimit) (hu : A.units + 20 * d + 61 < cLine)
    (hl : s.heap.get? a = some (listObj xs n)) (hb : s.heap.get? b = some (listObj ys n2)) (r1 : Reps (At s.heap) b1 d xs ts) (r2 : Reps (At s.heap) b2 d ys us)
    (h : ∀ h' tk', Sub s.heap h' → Q (.bool (eqT (.node ts) (.node us))) { s with heap := h', toks := tk' }) : wpAny (model prog w) A (richCompare .Eq (.ref a) (.ref b)) Q E s := by
  refine listEq (by omega) hl hb (eqAt ts us) (fun j x y hx hy h' tk' sb => ?_) (fun h' tk' sb => ?_)
  · obtain ⟨t, ht, x1⟩ := r1.get hx
    obtain ⟨u, hu', y1⟩ := r2.get hy
    have e : eqAt ts us j = eqT t u := by unfold eqAt; rw [ht, hu']
    rw [e]
    exact ih A.in1 { s with heap := h', toks := tk' } b1 b2 x y t u (G.sub sb) hA hd (by show A.units + 1 + 20 * d + 60 < _; omega) (x1.mono sb) (y1.mono sb)
  · have := h h' tk' sb
    rw [eqT_node] at this
    rw [r1.1, r2.1]
    exact this
theorem kind_opeq : builtinKind "_operator.eq" = none := by decide +kernel
theorem plain_opeq : plainId "_operator.eq" = true := by decide +kernel
theorem entry_opeq : entryFor table "_operator.eq" = some Builtin.«_operator.eq» := entryFor_of_tree (by kernel_rfl)
theorem args_opeq (a b : Value) : argsOk "_operator.eq" ⟨[a, b], []⟩ := by unfold argsOk; kernel_rfl
theorem opEq {a b : Value} (h : wpAny (model prog w) A.in1 (richCompare .Eq a b) Q E s) : wpAny (model prog w) A (call (.builtin "_operator.eq") [a, b]) Q E s := by
  refine call_function_any kind_opeq plain_opeq entry_opeq (args_opeq _ _) ?_
  show wpAny _ _ (pure (a, b) >>= fun x => richCompare .Eq x.1 x.2 >>= ret) _ _ _
  refine wpAny_bind (wpAny_pure (wpAny_bind (wpAny_mono h (fun v s' z => wpAny_pure z) fun _ _ z => z)))
end
local macro_rules | `(tactic| walk_at "V") => `(tactic| first
  | ((with_reducible show wpAny _ _ (eval (Expr.BoolOp _ [_] _) _) _ _ _); refine BoolOp_one ?_)
  | ((with_reducible show wpAny _ _ (eval (Expr.BoolOp BoolOp.And _ _) _) _ _ _); refine BoolOp_and ?_)
  | ((with_reducible show wpAny _ _ (eval (Expr.BoolOp BoolOp.Or _ _) _) _ _ _); refine BoolOp_or ?_)
  | ((with_reducible show wpAny _ _ (eval (Expr.Compare _ [_] [_] _) _) _ _ _); refine wpAny_Compare1 ?_)
  | with_reducible refine wpAny_Constant_str ?_
  | with_reducible refine ne_int ?_
  | ((with_reducible show wpAny _ _ (call (Value.builtin "isinstance") [Value.ref _, Value.ref C]) _ _ _); first | refine isi_vec (Fm.G (by assumption)) (by walk_at "obj") ?_ | refine isi_list (Fm.G (by assumption)) (by walk_at "obj") ?_)
  | ((with_reducible show wpAny _ _ (call (Value.builtin "isinstance") [Value.int _ _, Value.ref C]) _ _ _); refine isi_int (Fm.G (by assumption)) ?_)
  | walk_at "N")
section
variable {w : World} {mg mb : Str → Option Value} {A : Around} {E Q : Value → Shared → Prop} {s : Shared} {d : Nat}
theorem cmpV (ih : EqOK w mg mb d) {v y : Nat} {xs ys : List Value} {ts us : List T} {b2 : Bool} (G : Gr w mg mb s.heap) (hA : A.handled = none) (hd : A.depth + 4 * d + 12 < recursionLimit) (hu : A.units + 20 * d + 68 < cLine)
    (V : Vec (At s.heap) v xs) (hx : xs.length < 1056) (B : Box (At s.heap) b2 y ys) (hy : ys.length < 1056) (r1 : Reps (At s.heap) true d xs ts) (r2 : Reps (At s.heap) b2 d ys us)
    (h : ∀ h' tk', Sub s.heap h' → Q (.bool (eqT (.node ts) (.node us))) { s with heap := h', toks := tk' }) : wpAny (model prog w) A (call (.ref fCompare) [.ref v, .ref y, .builtin "_operator.eq"]) Q E s := by
  refine enter (P := At s.heap) (own := []) [("v", .ref v), ("other", .ref y), ("operator", .builtin "_operator.eq")] G (fun _ _ h => h) (fun _ h => nomatch h) (by rfl) (by rfl) (by omega) (BindsTo.of_eq (by rfl)) (locs (by rfl)) ?_
  intro L h₁ hL F
  obtain ⟨d1, r, t, tc, tss, tf, as, ls, tl, hv, hV, _⟩ := id V
  have hV1 := hV.dict
  repeat (walk_at "V")
  refine tolistV F.G hA (by show A.depth + 1 + 2 < _; omega) (V.mono F.keep) (by omega) (fun D c h2 tk2 sb2 hD lD => ?_)
  have F2 := F.madeAt sb2 hD lD
  clear F
  cases b2 with
  | false =>
    obtain ⟨ny, hy'⟩ := B
    repeat (walk_at "V")
    refine ite_neg (by decide) ?_
    repeat (walk_at "V")
    refine opEq (listsEq ih F2.G hA (by show A.depth + 1 + 4 * d + 10 < _; omega) (by show A.units + 3 + 1 + 20 * d + 61 < _; omega) (F2.ownAt (.head _)) (F2.get hy') (r1.mono F2.keep) (r2.mono F2.keep) (fun h3 tk3 sb3 => ?_))
    repeat (walk_at "V")
    exact h h3 _ (fun b o e => sb3 _ _ (F2.keep _ _ e))
  | true =>
    have B' : Vec (At s.heap) y ys := B
    obtain ⟨d1', r1', t1', tc', tss', tf', as', ls', tl', hv', hV', _⟩ := id B'
    have hV1' := hV'.dict
    repeat (walk_at "V")
    refine ite_pos (by decide) ?_
    repeat (walk_at "V")
    refine tolistV F2.G hA (by show A.depth + 1 + 2 < _; omega) (B'.mono F2.keep) (by omega) (fun D3 c3 h3 tk3 sb3 hD3 lD3 => ?_)
    have F3 := F2.madeAt sb3 hD3 lD3
    repeat (walk_at "V")
    refine opEq (listsEq ih F3.G hA (by show A.depth + 1 + 4 * d + 10 < _; omega) (by show A.units + 3 + 1 + 20 * d + 61 < _; omega) (F3.ownAt (.tail _ (.head _))) (F3.ownAt (.head _)) (r1.mono F3.keep) (r2.mono F3.keep) (fun h4 tk4 sb4 => ?_))
    repeat (walk_at "V")
    exact h h4 _ (fun b o e => sb4 _ _ (F3.keep _ _ e))
end
theorem eqT_len {ts us : List T} (h : ts.length ≠ us.length) : eqT (.node ts) (.node us) = false := eqT_ne (fun e => h (by cases e; rfl))
theorem vec_ne_list {h : Heap} {v l : Nat} {xs ys : List Value} {n : Nat} (V : Vec (At h) v xs) (hl : h.get? l = some (listObj ys n)) : v ≠ l := fun e => by
  obtain ⟨d1, r, t, tc, tss, tf, as, ls, tl, hv, _⟩ := V
  have hv' : h.get? v = some _ := hv
  rw [e, hl] at hv'
  injection hv' with e1; injection e1 with e2; cases e2
section
variable {w : World} {mg mb : Str → Option Value} {A : Around} {E Q : Value → Shared → Prop} {s : Shared} {d : Nat}
theorem eqMeth (ih : EqOK w mg mb d) {v : Nat} {y : Value} {xs : List Value} {ts : List T} {t2 : T} {b2 : Bool} (G : Gr w mg mb s.heap) (hA : A.handled = none) (hd : A.depth + 4 * d + 13 < recursionLimit) (hu : A.units + 20 * d + 72 < cLine)
    (V : Vec (At s.heap) v xs) (hx : xs.length < 1056) (r1 : Reps (At s.heap) true d xs ts) (Y : Rep (At s.heap) b2 (d + 1) y t2)
    (h : ∀ h' tk', Sub s.heap h' → Q (.bool (eqT (.node ts) t2)) { s with heap := h', toks := tk' }) : wpAny (model prog w) A (call (.ref fEq) [.ref v, y]) Q E s := by
  refine enter (P := At s.heap) (own := []) [("self", .ref v), ("other", y)] G (fun _ _ h => h) (fun _ h => nomatch h) (by rfl) (by rfl) (by omega) (BindsTo.of_eq (by rfl)) (locs (by rfl)) ?_
  intro L h₁ hL F
  obtain ⟨d1, r, t, tc, tss, tf, as, ls, tl, hv, hV, _⟩ := id V
  have hV1 := hV.dict
  repeat (walk_at "V")
  cases t2 with
  | num k =>
    obtain ⟨tk, rfl, _⟩ := Y.outNum
    rw [eqT_ne (show T.node ts ≠ T.num k from fun e => by cases e)] at h
    refine wpAny_is_other rfl (by intro e; cases e) ?_
    repeat (walk_at "V")
    refine ite_neg (by decide) ?_
    repeat (walk_at "V")
    refine hasInt hA (fun h2 tk2 sb2 => ?_)
    repeat (walk_at "V")
    refine ite_neg (by decide) ?_
    repeat (walk_at "V")
    refine ite_neg (by decide) ?_
    exact h h2 _ (fun b o e => sb2 _ _ (F.keep _ _ e))
  | node us =>
    obtain ⟨d', a, ys, e, rfl, B, hy, r2⟩ := Y.out
    cases e
    cases b2 with
    | false =>
      obtain ⟨ny, hy'⟩ := B
      have hy1 : At s.heap a (listObj ys ny) := hy'
      have nva : v ≠ a := vec_ne_list V hy'
      refine wpAny_is_ref_other nva (F.get hv) (F.get hy1) (fun e => by cases e) ?_
      repeat (walk_at "V")
      refine ite_neg (by decide) ?_
      repeat (walk_at "V")
      refine hasList (F.get hy1) (fun h2 tk2 sb2 => ?_)
      have F2 := F.kept sb2
      clear F
      repeat (walk_at "V")
      refine ite_pos (by decide) ?_
      repeat (walk_at "V")
      by_cases hl : xs.length = ys.length
      · refine ite_pos (by simp [hl]) ?_
        repeat (walk_at "V")
        refine cmpV ih (b2 := false) F2.G hA (by show A.depth + 1 + 4 * d + 12 < _; omega) (by show A.units + 3 + 20 * d + 68 < _; omega) (V.mono F2.keep) hx (Box.mono F2.keep (b := false) ⟨ny, hy'⟩) hy (r1.mono F2.keep) (r2.mono F2.keep) (fun h3 tk3 sb3 => ?_)
        repeat (walk_at "V")
        exact h h3 _ (fun b o e => sb3 _ _ (F2.keep _ _ e))
      · refine ite_neg (by simp; omega) ?_
        repeat (walk_at "V")
        rw [eqT_len (by rw [← r1.1, ← r2.1]; exact hl)] at h
        rw [show ((xs.length : Int) == (ys.length : Int)) = false from by simp; omega]
        exact h h2 _ (fun b o e => F2.keep _ _ e)
    | true =>
      have B' : Vec (At s.heap) a ys := B
      by_cases nva : v = a
      · subst nva
        have exy := Vec.fun (h := s.heap) (fun _ _ q => q) (fun _ _ q => q) V B'
        subst exy
        have et : T.node ts = T.node us := Rep.fun (h := s.heap) (fun _ _ q => q) (fun _ _ q => q) (Rep.node (b := true) V hx r1) Y
        rw [et, eqT_self] at h
        refine wpAny_is_ref_self ?_
        repeat (walk_at "V")
        refine ite_pos (by decide) ?_
        exact h h₁ _ (fun b o e => F.keep _ _ e)
      · obtain ⟨d1', r1', t1', tc', tss', tf', as', ls', tl', hv', hV', _⟩ := id B'
        have hV1' := hV'.dict
        refine wpAny_is_ref_other nva (F.get hv) (F.get hv') (fun e => by cases e) ?_
        repeat (walk_at "V")
        refine ite_neg (by decide) ?_
        repeat (walk_at "V")
        refine hasVec F.G (B'.mono F.keep) (fun h2 tk2 sb2 => ?_)
        have F2 := F.kept sb2
        clear F
        repeat (walk_at "V")
        refine ite_pos (by decide) ?_
        repeat (walk_at "V")
        refine lenV F2 (by show A.depth + 1 < _; omega) (B'.mono F2.keep) (by omega) (fun tc3 h3 tk3 sb3 => ?_)
        have F3 := F2.kept sb3
        clear F2
        repeat (walk_at "V")
        by_cases hl : xs.length = ys.length
        · refine ite_pos (by simp [hl]) ?_
          repeat (walk_at "V")
          refine cmpV ih (b2 := true) F3.G hA (by show A.depth + 1 + 4 * d + 12 < _; omega) (by show A.units + 3 + 20 * d + 68 < _; omega) (V.mono F3.keep) hx (Box.mono F3.keep (b := true) B') hy (r1.mono F3.keep) (r2.mono F3.keep) (fun h4 tk4 sb4 => ?_)
          repeat (walk_at "V")
          exact h h4 _ (fun b o e => sb4 _ _ (F3.keep _ _ e))
        · refine ite_neg (by simp; omega) ?_
          repeat (walk_at "V")
          rw [eqT_len (by rw [← r1.1, ← r2.1]; exact hl)] at h
          rw [show ((xs.length : Int) == (ys.length : Int)) = false from by simp; omega]
          exact h h3 _ (fun b o e => F3.keep _ _ e)
end
section
open PySem PySem.W PyProof.Rows PySem.Calls Builtin
open MeetsSeq MeetsSeq2 MeetsSeq3 SeqRoads2 SeqAt
theorem eqT_comm (t u : T) : eqT t u = eqT u t := by
  rw [Bool.eq_iff_iff, eqT_true, eqT_true]; exact eq_comm
theorem kq_eq (P : Params) : findIn (K P) (.ref C) "__eq__" = some (some (.ref fEq)) := by kernel_rfl!
theorem kq_eqFn (P : Params) : isFn (K P) (.ref fEq) = true := by kernel_rfl!
theorem kq_ne (P : Params) : findIn (K P) (.ref C) "__ne__" = some (some (.ref fNe)) := by kernel_rfl!
theorem kq_neFn (P : Params) : isFn (K P) (.ref fNe) = true := by kernel_rfl!
theorem kq_int (P : Params) : subIn (K P) (.ref C) (.type "int") = some false := by kernel_rfl!
theorem kq_list (P : Params) : subIn (K P) (.ref C) (.type "list") = some false := by kernel_rfl!
theorem kq_intC (P : Params) : subIn (K P) (.type "int") (.ref C) = some false := by kernel_rfl!
section
variable {w : World} {mg mb : Str → Option Value} {A : Around} {E : Value → Shared → Prop} {s : Shared} {d : Nat}
/-- a vector's own comparing method, tried -/
theorem tryV {name : Str} {f : Nat} {y : Value} {v : Nat} {xs : List Value} {Q : Option Value → Shared → Prop} (G : Gr w mg mb s.heap) (V : Vec (At s.heap) v xs) (hs : findIn (K w.params) (.ref C) name = some (some (.ref f))) (hf : isFn (K w.params) (.ref f) = true)
    (h : wpAny (model prog w) A (call (.ref f) [.ref v, y]) (fun r s' => ∃ b : Bool, r = .bool b ∧ Q (some (.bool b)) s') E s) : wpAny (model prog w) A (tryCompare (.ref v) name y) Q E s := by
  obtain ⟨o, I⟩ := V.inst
  unfold tryCompare
  refine wpAny_bind (ifBound_K G.X I hs hf (wpAny_mono h (fun r s' hr => ?_) fun _ _ e => e))
  obtain ⟨b, rfl, hq⟩ := hr
  exact wpAny_pure hq
/-- a vector to the left -/
theorem rcLeft {op : CmpOp} {f : Nat} {y tb : Value} {v : Nat} {xs : List Value} {Q : Value → Shared → Prop} (hu : A.units < cLine) (G : Gr w mg mb s.heap) (V : Vec (At s.heap) v xs) (hs : findIn (K w.params) (.ref C) (cmpInfo op).2.1 = some (some (.ref f))) (hf : isFn (K w.params) (.ref f) = true)
    (hb : Looks (model prog w) s.heap (typeOf y) tb) (hn : notFirst (K w.params) C tb = true)
    (h : wpAny (model prog w) A (call (.ref f) [.ref v, y]) (fun r s' => ∃ b : Bool, r = .bool b ∧ Q (.bool b) s') E s) : wpAny (model prog w) A (richCompare op (.ref v) y) Q E s := by
  obtain ⟨o, I⟩ := V.inst
  have one := tryV (Q := fun r s' => ∃ b : Bool, r = some (.bool b) ∧ Q (.bool b) s') G V hs hf (wpAny_mono h (fun r s' ⟨b, e, q⟩ => ⟨b, e, b, rfl, q⟩) fun _ _ e => e)
  unfold richCompare
  simp only [oneThing_ref]
  refine wpAny_holding (wpAny_bind (wpAny_cRoomFor hu ?_))
  refine wpAny_bind (I.type.here (wpAny_bind (hb.here ?_)))
  split
  · rename_i q
    have e : subIn (K w.params) tb (.ref C) = some false := by
      rcases Bool.or_eq_true_iff.mp hn with e | e
      · rw [beq_iff_eq.mp e] at q; simp at q
      · exact beq_iff_eq.mp e
    refine wpAny_bind ((looks_subIn G.X e).here ?_)
    simp only [Bool.false_eq_true, if_false]
    refine wpAny_bind (wpAny_mono one (fun r s' z => ?_) fun _ _ e => e)
    obtain ⟨b, rfl, hq⟩ := z
    exact wpAny_pure hq
  · refine wpAny_bind (wpAny_pure ?_)
    simp only [Bool.false_eq_true, if_false]
    refine wpAny_bind (wpAny_mono one (fun r s' z => ?_) fun _ _ e => e)
    obtain ⟨b, rfl, hq⟩ := z
    exact wpAny_pure hq
/-- a vector to the right of something built in that declines -/
theorem rcRight {op : CmpOp} {f : Nat} {x : Value} {Tx id : String} {v : Nat} {xs : List Value} {Q : Value → Shared → Prop} (hu : A.units < cLine) (G : Gr w mg mb s.heap) (V : Vec (At s.heap) v xs) (hs : findIn (K w.params) (.ref C) (cmpInfo op).2.2 = some (some (.ref f))) (hf : isFn (K w.params) (.ref f) = true)
    (hx : s.TypeIs x Tx) (h1 : Slot Tx (cmpInfo op).2.1 id) (hc : ∀ Q' : Value → Shared → Prop, Q' .notImplemented s → wpAny (model prog w) A (call (.builtin id) [x, .ref v]) Q' E s)
    (hn : subIn (K w.params) (.ref C) (.type Tx) = some false)
    (h : wpAny (model prog w) A (call (.ref f) [.ref v, x]) (fun r s' => ∃ b : Bool, r = .bool b ∧ Q (.bool b) s') E s) : wpAny (model prog w) A (richCompare op x (.ref v)) Q E s := by
  obtain ⟨o, I⟩ := V.inst
  have one := tryV (Q := fun r s' => ∃ b : Bool, r = some (.bool b) ∧ Q (.bool b) s') G V hs hf (wpAny_mono h (fun r s' ⟨b, e, q⟩ => ⟨b, e, b, rfl, q⟩) fun _ _ e => e)
  unfold richCompare
  simp only [hx.oneThing_none]
  refine wpAny_holding (wpAny_bind (wpAny_cRoomFor hu ?_))
  refine wpAny_bind (wpAny_typeOf hx (wpAny_bind (I.type.here ?_)))
  rw [if_pos (by simp)]
  refine wpAny_bind ((looks_subIn G.X hn).here ?_)
  simp only [Bool.false_eq_true, if_false]
  refine wpAny_bind (wpAny_tryCompare_declines hx h1 (hc _ ⟨rfl, ?_⟩))
  simp only [Bool.not_false, if_true]
  refine wpAny_bind (wpAny_mono one (fun r s' z => ?_) fun _ _ e => e)
  obtain ⟨b, rfl, hq⟩ := z
  exact wpAny_pure hq
theorem int_declines {v dv : Nat} {sl : Array (Option Value)} {k : Int} {u : Tok} : Meets (Builtin.«int.__eq__» ⟨[.int k u, .ref v], []⟩) (fun _ R s => s.heap.get? v = some ⟨.ref C, some dv, .plain, sl⟩ ∧ R (.ok (.ret .notImplemented)) s) :=
  .of_wp fun prog w A R s h => by obtain ⟨hp, g, d, tk, os⟩ := s; obtain ⟨hl, h⟩ := h; wp_walk using PySem.AutoSeq1.wpAny_loadPart' hl, wpAny_load hl; exact ⟨_, rfl, h⟩
end
end
section
open PySem PySem.W PyProof.Rows PySem.Calls Builtin
open MeetsSeq MeetsSeq2 MeetsSeq3 SeqRoads2 SeqAt
section
variable {w : World} {mg mb : Str → Option Value} {A : Around} {E : Value → Shared → Prop} {s : Shared} {d : Nat}
theorem listDeclEq {Q : Value → Shared → Prop} {l v n : Nat} {xs ys : List Value} (G : Gr w mg mb s.heap) (V : Vec (At s.heap) v ys) (hl : s.heap.get? l = some (listObj xs n)) (h : Q .notImplemented s) : wpAny (model prog w) A (call (.builtin "list.__eq__") [.ref l, .ref v]) Q E s := by
  obtain ⟨o, I⟩ := V.inst
  have L0 := I.type (M := model prog w)
  have L5 : Looks (model prog w) s.heap (isInstance (.ref v) (.type "list")) false := L0.andThen (looks_subIn (M := model prog w) G.X (kq_list w.params))
  refine wpAny_call (codeAny_call_builtin PySem.F.slot_list_eq.plain PySem.F.entry_list_eq (PySem.F.slot_list_eq.check _ _ _ _ _ _ _ _ (isList_at hl).typeIs (PySem.F.args_list_eq_2 _ _) ?_))
  obtain ⟨hp, g, dr, tk, os⟩ := s
  dsimp only at L5 hl h
  show wpAny _ _ (do let b ← isInstance (.ref v) (.type "list"); if (!b) = true then ret .notImplemented else _) _ _ _
  refine wpAny_bind (L5.at ?_)
  exact wpAny_pure h
theorem listDeclNe {Q : Value → Shared → Prop} {l v n : Nat} {xs ys : List Value} (G : Gr w mg mb s.heap) (V : Vec (At s.heap) v ys) (hl : s.heap.get? l = some (listObj xs n)) (h : Q .notImplemented s) : wpAny (model prog w) A (call (.builtin "list.__ne__") [.ref l, .ref v]) Q E s := by
  obtain ⟨o, I⟩ := V.inst
  have L0 := I.type (M := model prog w)
  have L5 : Looks (model prog w) s.heap (isInstance (.ref v) (.type "list")) false := L0.andThen (looks_subIn (M := model prog w) G.X (kq_list w.params))
  refine wpAny_call (codeAny_call_builtin PySem.F.slot_list_ne.plain PySem.F.entry_list_ne (PySem.F.slot_list_ne.check _ _ _ _ _ _ _ _ (isList_at hl).typeIs (PySem.F.args_list_ne_2 _ _) ?_))
  obtain ⟨hp, g, dr, tk, os⟩ := s
  dsimp only at L5 hl h
  show wpAny _ _ (do let b ← isInstance (.ref v) (.type "list"); if (!b) = true then ret .notImplemented else _) _ _ _
  refine wpAny_bind (L5.at ?_)
  exact wpAny_pure h
/-- == of two told trees -/
theorem rcEq {Q : Value → Shared → Prop} (ih : EqOK w mg mb d) {v1 v2 : Value} {t1 t2 : T} {b1 b2 : Bool} (G : Gr w mg mb s.heap) (hA : A.handled = none) (hd : A.depth + 4 * d + 13 < recursionLimit) (hu : A.units + 20 * d + 72 < cLine)
    (X : Rep (At s.heap) b1 (d + 1) v1 t1) (Y : Rep (At s.heap) b2 (d + 1) v2 t2) (h : ∀ h' tk', Sub s.heap h' → Q (.bool (eqT t1 t2)) { s with heap := h', toks := tk' }) : wpAny (model prog w) A (richCompare .Eq v1 v2) Q E s := by
  have h0 := h s.heap s.toks (fun _ _ q => q)
  cases t1 with
  | num k =>
    obtain ⟨tk, rfl, _⟩ := X.outNum
    cases t2 with
    | num k2 =>
      obtain ⟨tk2, rfl, _⟩ := Y.outNum
      rw [eqT_num] at h0
      exact RcAt.int_int _ _ _ _ prog w E Q h0
    | node us =>
      obtain ⟨d', a, ys, e, rfl, B, hy, r2⟩ := Y.out
      cases e
      cases b2 with
      | false =>
        obtain ⟨ny, hy'⟩ := B
        rw [eqT_ne (fun e => by cases e)] at h0
        exact RcAt.int_list k tk (isList_at hy') (by omega) prog w E Q h0
      | true =>
        have B' : Vec (At s.heap) a ys := B
        obtain ⟨d1, r, t, tc, tss, tf, as, ls, tl, hv, hV, _⟩ := id B'
        refine rcRight (by omega) G B' (kq_eq _) (kq_eqFn _) (typeIs_int s k tk) PySem.F.slot_int_eq (fun Q' hq => call_meets PySem.F.slot_int_eq (typeIs_int s k tk) PySem.F.entry_int_eq (PySem.F.args_int_eq_2 _ _) int_declines ⟨hv, hq⟩) (kq_int _) ?_
        refine eqMeth ih G hA hd hu B' hy r2 X (fun h' tk' sb => ⟨_, rfl, ?_⟩)
        rw [eqT_comm]
        exact h h' tk' sb
  | node ts =>
    obtain ⟨d', a, xs, e, rfl, B, hx, r1⟩ := X.out
    cases e
    cases b1 with
    | true =>
      have B' : Vec (At s.heap) a xs := B
      cases t2 with
      | num k2 =>
        obtain ⟨tk2, rfl, _⟩ := Y.outNum
        refine rcLeft (tb := .type "int") (by omega) G B' (kq_eq _) (kq_eqFn _) .now (by unfold notFirst; rw [kq_intC]; rfl) ?_
        exact eqMeth ih G hA hd hu B' hx r1 Y (fun h' tk' sb => ⟨_, rfl, h h' tk' sb⟩)
      | node us =>
        obtain ⟨d', a2, ys, e, rfl, B2, hy, r2⟩ := Y.out
        cases e
        cases b2 with
        | false =>
          obtain ⟨ny, hy'⟩ := B2
          refine rcLeft (tb := .type "list") (by omega) G B' (kq_eq _) (kq_eqFn _) ((Looks.ld hy').andThen .now) (by unfold notFirst; rw [kc_listSub]; rfl) ?_
          exact eqMeth ih G hA hd hu B' hx r1 Y (fun h' tk' sb => ⟨_, rfl, h h' tk' sb⟩)
        | true =>
          have B2' : Vec (At s.heap) a2 ys := B2
          obtain ⟨o2, I2⟩ := B2'.inst
          refine rcLeft (tb := .ref C) (by omega) G B' (kq_eq _) (kq_eqFn _) I2.type (by unfold notFirst; simp) ?_
          exact eqMeth ih G hA hd hu B' hx r1 Y (fun h' tk' sb => ⟨_, rfl, h h' tk' sb⟩)
    | false =>
      obtain ⟨nx, hx'⟩ := B
      cases t2 with
      | num k2 =>
        obtain ⟨tk2, rfl, _⟩ := Y.outNum
        rw [eqT_ne (fun e => by cases e)] at h0
        exact RcAt.list_int k2 tk2 (isList_at hx') (by omega) prog w E Q h0
      | node us =>
        obtain ⟨d', a2, ys, e, rfl, B2, hy, r2⟩ := Y.out
        cases e
        cases b2 with
        | false =>
          obtain ⟨ny, hy'⟩ := B2
          exact listsEq ih G hA (by omega) (by omega) hx' hy' r1 r2 h
        | true =>
          have B2' : Vec (At s.heap) a2 ys := B2
          refine rcRight (by omega) G B2' (kq_eq _) (kq_eqFn _) (isList_at hx').typeIs PySem.F.slot_list_eq (fun Q' hq => listDeclEq G B2' hx' hq) (kq_list _) ?_
          refine eqMeth ih G hA hd hu B2' hy r2 X (fun h' tk' sb => ⟨_, rfl, ?_⟩)
          rw [eqT_comm]
          exact h h' tk' sb
end
theorem eqOK {w : World} {mg mb : Str → Option Value} : ∀ d, EqOK w mg mb d
  | 0 => by
    intro A s b1 b2 v1 v2 t1 t2 G hA hd hu X Y E Q h
    obtain ⟨n1, k1, rfl, rfl, _⟩ := X
    obtain ⟨n2, k2, rfl, rfl, _⟩ := Y
    have h0 := h s.heap s.toks (fun _ _ q => q)
    rw [eqT_num] at h0
    exact EqGives.int n1 n2 k1 k2 prog w A E s Q h0
  | d + 1 => by
    intro A s b1 b2 v1 v2 t1 t2 G hA hd hu X Y E Q h
    unfold eqBool
    refine wpAny_holding ?_
    refine wpAny_ite_split (fun hab => ?_) (fun hab => ?_)
    · have e := eq_of_beq hab
      subst e
      have et := Rep.fun (h := s.heap) (fun _ _ q => q) (fun _ _ q => q) X Y
      rw [et, eqT_self] at h
      exact wpAny_bind (wpAny_rule (wpAny_pure (h s.heap s.toks (fun _ _ q => q))))
    · have fin : wpAny (model prog w) A (do let r ← richCompare .Eq v1 v2; truthOfDropped r) Q E s :=
        wpAny_bind (rcEq (eqOK d) G hA (by omega) (by omega) X Y (fun h' tk' sb => wpAny_truthy_bool (h h' tk' sb)))
      rcases X.kind with ⟨n, t, rfl, _⟩ | ⟨c, rfl⟩ <;> exact fin
end
section
open PySem PySem.W PyProof.Rows PySem.Calls Builtin
open MeetsSeq MeetsSeq2 MeetsSeq3 SeqRoads2 SeqAt
theorem neLoop {w : World} {A : Around} {a b : Nat} {xs ys : List Value} {n n2 : Nat} (hsz : xs.length = ys.length) {R : Result → Shared → Prop} (k : Nat) :
    ∀ (i : Nat) (s : Shared), xs.length - i = k → s.heap.get? a = some (listObj xs n) → s.heap.get? b = some (listObj ys n2) →
      (∀ (j : Nat) x y, xs[j]? = some x → ys[j]? = some y → ∀ h' tk', Sub s.heap h' → EqS w A.in1 { s with heap := h', toks := tk' } x y true) →
      (∀ h' tk', Sub s.heap h' → R (.ok (.ret (.bool false))) { s with heap := h', toks := tk' }) →
      wpAny (model prog w) A.in1 (Builtin.«list.__eq__.loop» ⟨[.ref a, .ref b, rawInt i, rawInt 3], []⟩)
        (fun fin s' => match fin with | .done f => R (.ok f) s' | .again c' => c'.quiet = true ∧ codeAny (model prog w) A c' R s') (fun e s' => R (.error e) s') s := by
  induction k with
  | zero =>
    intro i s hk hl hb he h
    obtain ⟨hp, g, d, tk, os⟩ := s
    dsimp only at hl hb h
    wp_walk using PySem.AutoSeq1.wpAny_loadPart' hl, PySem.AutoSeq1.wpAny_loadPart' hb
    have hi1 : xs.toArray[((i : Nat) : Int).toNat]? = none := by simp; omega
    have hi2 : ys.toArray[((i : Nat) : Int).toNat]? = none := by simp; omega
    rw [hi1, hi2]
    wp_walk using PySem.AutoSeq1.wpAny_loadPart' hl, PySem.AutoSeq1.wpAny_loadPart' hb
    show R (.ok (.ret (.bool (xs.toArray.size != ys.toArray.size)))) _
    rw [List.size_toArray, List.size_toArray, hsz]
    simpa using h hp tk (fun _ _ q => q)
  | succ k ih =>
    intro i s hk hl hb he h
    obtain ⟨hp, g, d, tk, os⟩ := s
    dsimp only at hl hb h he
    wp_walk using PySem.AutoSeq1.wpAny_loadPart' hl, PySem.AutoSeq1.wpAny_loadPart' hb
    have hlt : i < xs.length := by omega
    have hlt2 : i < ys.length := by omega
    have hi1 : xs.toArray[((i : Nat) : Int).toNat]? = some xs[i] := by simp [hlt]
    have hi2 : ys.toArray[((i : Nat) : Int).toNat]? = some ys[i] := by simp [hlt2]
    have hc : ((i : Int) + 1) = ((i + 1 : Nat) : Int) := by push_cast; rfl
    rw [hi1, hi2]
    refine wpAny_bind (he i _ _ (List.getElem?_eq_getElem hlt) (List.getElem?_eq_getElem hlt2) hp tk (fun _ _ q => q) _ _ (fun h1 tk1 sb1 => ?_))
    have hl1 := sb1 _ _ hl
    have hb1 := sb1 _ _ hb
    wp_walk
    rw [hc]
    exact ⟨plainId_quiet plain_eq_loop _, codeAny_builtin entry_eq_loop (by
      rw [Around.under_plainId plain_eq_loop _]
      exact ih (i + 1) ⟨h1, g, d, tk1, os⟩ (by omega) hl1 hb1 (fun j x y h1' h2' h'' tk'' sb'' => he j x y h1' h2' h'' tk'' (fun b o q => sb'' _ _ (sb1 _ _ q))) (fun h'' tk'' sb'' => h h'' tk'' (fun b o q => sb'' _ _ (sb1 _ _ q))))⟩
theorem listNeSame {w : World} {A : Around} {s : Shared} {E Q : Value → Shared → Prop} {a b : Nat} {xs ys : List Value} {n n2 : Nat} (hu : A.units < cLine) (hl : s.heap.get? a = some (listObj xs n)) (hb : s.heap.get? b = some (listObj ys n2)) (hsz : xs.length = ys.length)
    (he : ∀ (j : Nat) x y, xs[j]? = some x → ys[j]? = some y → ∀ h' tk', Sub s.heap h' → EqS w A.in1 { s with heap := h', toks := tk' } x y true)
    (h : ∀ h' tk', Sub s.heap h' → Q (.bool false) { s with heap := h', toks := tk' }) :
    wpAny (model prog w) A (richCompare .NotEq (.ref a) (.ref b)) Q E s := by
  refine wpAny_richCompare_same_room (isList_at hl).typeIs (isList_at hb).typeIs PySem.F.slot_list_ne (wpAny_call (codeAny_call_builtin PySem.F.slot_list_ne.plain PySem.F.entry_list_ne (PySem.F.slot_list_ne.check _ _ _ _ _ _ _ _ (isList_at hl).typeIs (PySem.F.args_list_ne_2 _ _) ?_))) hu
  obtain ⟨hp, g, d, tk, os⟩ := s
  dsimp only at hl hb h he
  have f3 := AutoSeq1.sub_list_list
  have hne : ¬ (xs.toArray.size != ys.toArray.size) = true := by simp [hsz]
  wp_walk using PySem.AutoSeq1.wpAny_loadPart' hl, PySem.AutoSeq1.wpAny_loadPart' hb
  refine ⟨plainId_quiet plain_eq_loop _, codeAny_builtin entry_eq_loop ?_⟩
  rw [Around.under_plainId plain_eq_loop _]
  have q := neLoop (A := A) (R := wants (fun v s' => v ≠ .notImplemented ∧ Q v s') E) hsz xs.length 0 ⟨hp, g, d, tk, os⟩ (by omega) hl hb he (fun h' tk' sb => ⟨by simp, h h' tk' sb⟩)
  exact q
theorem listNeLen {w : World} {A : Around} {s : Shared} {E Q : Value → Shared → Prop} {a b : Nat} {xs ys : List Value} {n n2 : Nat} (hu : A.units < cLine) (hl : s.heap.get? a = some (listObj xs n)) (hb : s.heap.get? b = some (listObj ys n2)) (hsz : xs.length ≠ ys.length)
    (h : Q (.bool true) s) : wpAny (model prog w) A (richCompare .NotEq (.ref a) (.ref b)) Q E s := by
  refine wpAny_richCompare_same_room (isList_at hl).typeIs (isList_at hb).typeIs PySem.F.slot_list_ne (wpAny_call (codeAny_call_builtin PySem.F.slot_list_ne.plain PySem.F.entry_list_ne (PySem.F.slot_list_ne.check _ _ _ _ _ _ _ _ (isList_at hl).typeIs (PySem.F.args_list_ne_2 _ _) ?_))) hu
  obtain ⟨hp, g, d, tk, os⟩ := s
  dsimp only at hl hb h
  have f3 := AutoSeq1.sub_list_list
  have hne : (xs.toArray.size != ys.toArray.size) = true := by simp [hsz]
  wp_walk using PySem.AutoSeq1.wpAny_loadPart' hl, PySem.AutoSeq1.wpAny_loadPart' hb
  exact ⟨by simp, h⟩
end
theorem mf_eq (P : Params) : findIn (K P) (.ref C) "__eq__" = some (some (.ref fEq)) := by kernel_rfl!
theorem mt_eq (P : Params) : typeIn (K P) (.ref fEq) = some (.type "function") := by kernel_rfl!
section
variable {w : World} {mg mb : Str → Option Value} {A : Around} {E Q : Value → Shared → Prop} {s : Shared} {d : Nat}
theorem neMeth {v : Nat} {y : Value} {xs : List Value} {ts : List T} {t2 : T} {b2 : Bool} (G : Gr w mg mb s.heap) (hA : A.handled = none) (hd : A.depth + 4 * d + 14 < recursionLimit) (hu : A.units + 20 * d + 75 < cLine)
    (V : Vec (At s.heap) v xs) (hx : xs.length < 1056) (r1 : Reps (At s.heap) true d xs ts) (Y : Rep (At s.heap) b2 (d + 1) y t2)
    (h : ∀ h' tk', Sub s.heap h' → Q (.bool (!eqT (.node ts) t2)) { s with heap := h', toks := tk' }) : wpAny (model prog w) A (call (.ref fNe) [.ref v, y]) Q E s := by
  refine enter (P := At s.heap) (own := []) [("self", .ref v), ("other", y)] G (fun _ _ h => h) (fun _ h => nomatch h) (by rfl) (by rfl) (by omega) (BindsTo.of_eq (by rfl)) (locs (by rfl)) ?_
  intro L h₁ hL F
  obtain ⟨d1, r, t, tc, tss, tf, as, ls, tl, hv, hV, _⟩ := id V
  have hV1 := hV.dict
  refine wpAny_execs_cons (wpAny_Return_some (wpAny_UnaryOp ?_))
  repeat (walk_at "V")
  refine gm F.G (F.get hv) (F.get hV1) (mf_eq _) (mt_eq _) ?_
  repeat (walk_at "V")
  refine eqMeth (eqOK d) F.G hA (by show A.depth + 1 + 4 * d + 13 < _; omega) (by show A.units + 3 + 20 * d + 72 < _; omega) (V.mono F.keep) hx (r1.mono F.keep) (Y.mono F.keep) (fun h2 tk2 sb2 => ?_)
  refine not_of (wpAny_truthy_bool ?_)
  exact h h2 _ (fun b o e => sb2 _ _ (F.keep _ _ e))
/-- != of two vectors -/
theorem neVV {v1 v2 : Nat} {t1 t2 : T} (G : Gr w mg mb s.heap) (hA : A.handled = none) (hd : A.depth + 4 * d + 14 < recursionLimit) (hu : A.units + 20 * d + 75 < cLine)
    (X : Rep (At s.heap) true (d + 1) (.ref v1) t1) (Y : Rep (At s.heap) true (d + 1) (.ref v2) t2) (h : ∀ h' tk', Sub s.heap h' → Q (.bool (!eqT t1 t2)) { s with heap := h', toks := tk' }) : wpAny (model prog w) A (compareOp .NotEq (.ref v1) (.ref v2)) Q E s := by
  cases t1 with
  | num k => obtain ⟨tk, e, _⟩ := X.outNum; cases e
  | node ts =>
    cases t2 with
    | num k => obtain ⟨tk, e, _⟩ := Y.outNum; cases e
    | node us =>
      obtain ⟨d', a, xs, e, e2, B, hx, r1⟩ := X.out
      cases e; cases e2
      obtain ⟨d', a2, ys, e, e2, B2, hy, r2⟩ := Y.out
      cases e; cases e2
      have B' : Vec (At s.heap) v1 xs := B
      have B2' : Vec (At s.heap) v2 ys := B2
      obtain ⟨o2, I2⟩ := B2'.inst
      show wpAny _ _ (richCompare .NotEq _ _) _ _ _
      refine rcLeft (tb := .ref C) (by omega) G B' (kq_ne _) (kq_neFn _) I2.type (by unfold notFirst; simp) ?_
      exact neMeth G hA hd hu B' hx r1 Y (fun h' tk' sb => ⟨_, rfl, h h' tk' sb⟩)
/-- != of a list and a vector -/
theorem neLV {l v2 : Nat} {t1 t2 : T} (G : Gr w mg mb s.heap) (hA : A.handled = none) (hd : A.depth + 4 * d + 14 < recursionLimit) (hu : A.units + 20 * d + 75 < cLine)
    (X : Rep (At s.heap) false (d + 1) (.ref l) t1) (Y : Rep (At s.heap) true (d + 1) (.ref v2) t2) (h : ∀ h' tk', Sub s.heap h' → Q (.bool (!eqT t1 t2)) { s with heap := h', toks := tk' }) : wpAny (model prog w) A (compareOp .NotEq (.ref l) (.ref v2)) Q E s := by
  cases t1 with
  | num k => obtain ⟨tk, e, _⟩ := X.outNum; cases e
  | node ts =>
    cases t2 with
    | num k => obtain ⟨tk, e, _⟩ := Y.outNum; cases e
    | node us =>
      obtain ⟨d', a, xs, e, e2, ⟨nx, hx'⟩, hx, r1⟩ := X.out
      cases e; cases e2
      obtain ⟨d', a2, ys, e, e2, B2, hy, r2⟩ := Y.out
      cases e; cases e2
      have B2' : Vec (At s.heap) v2 ys := B2
      show wpAny _ _ (richCompare .NotEq _ _) _ _ _
      refine rcRight (by omega) G B2' (kq_ne _) (kq_neFn _) (isList_at hx').typeIs PySem.F.slot_list_ne (fun Q' hq => listDeclNe G B2' hx' hq) (kq_list _) ?_
      refine neMeth G hA hd hu B2' hy r2 X (fun h' tk' sb => ⟨_, rfl, ?_⟩)
      rw [eqT_comm]
      exact h h' tk' sb
/-- != of two lists that tell one tree -/
theorem neLL {l l2 : Nat} {t : T} (G : Gr w mg mb s.heap) (hA : A.handled = none) (hd : A.depth + 4 * d + 14 < recursionLimit) (hu : A.units + 20 * d + 75 < cLine)
    (X : Rep (At s.heap) false (d + 1) (.ref l) t) (Y : Rep (At s.heap) false (d + 1) (.ref l2) t) (h : ∀ h' tk', Sub s.heap h' → Q (.bool false) { s with heap := h', toks := tk' }) : wpAny (model prog w) A (compareOp .NotEq (.ref l) (.ref l2)) Q E s := by
  cases t with
  | num k => obtain ⟨tk, e, _⟩ := X.outNum; cases e
  | node ts =>
    obtain ⟨d', a, xs, e, e2, ⟨nx, hx'⟩, hx, r1⟩ := X.out
    cases e; cases e2
    obtain ⟨d', a2, ys, e, e2, ⟨ny, hy'⟩, hy, r2⟩ := Y.out
    cases e; cases e2
    show wpAny _ _ (richCompare .NotEq _ _) _ _ _
    refine listNeSame (by omega) hx' hy' (by rw [r1.1, r2.1]) (fun j x y h1 h2 h' tk' sb => ?_) h
    obtain ⟨t, ht, x1⟩ := r1.get h1
    obtain ⟨u, hu', y1⟩ := r2.get h2
    rw [ht] at hu'
    cases hu'
    have q := eqOK d A.in1 { s with heap := h', toks := tk' } false false x y t t (G.sub sb) hA (by show A.depth + 4 * d + 10 < _; omega) (by show A.units + 1 + 20 * d + 60 < _; omega) (x1.mono sb) (y1.mono sb)
    rw [eqT_self] at q
    exact q
end
abbrev idx (p : Int) (n : Nat) : Nat := (if p < 0 then p + n else p).toNat
theorem idx_lt {p : Int} {n : Nat} (h0 : -(n : Int) ≤ p) (h1 : p < n) : idx p n < n := by unfold idx; split <;> omega
/-- a path to a place that is there -/
def OkP : List Int → T → Prop
  | [], _ => False
  | p :: rest, t => ∃ ts, t = .node ts ∧ -(ts.length : Int) ≤ p ∧ p < ts.length ∧ (rest = [] ∨ ∃ u, ts[idx p ts.length]? = some u ∧ OkP rest u)
def putT : List Int → T → T → T
  | [], _, x => x
  | p :: rest, .node ts, x => .node (ts.set (idx p ts.length) (match ts[idx p ts.length]? with | some u => putT rest u x | none => x))
  | _ :: _, .num n, _ => .num n
/-- the new vector is the old one but along the path -/
def PutR (P : Nat → Obj → Prop) : List Int → Value → Value → Prop
  | [], _, _ => True
  | p :: rest, o, n => ∃ a b xs y, o = .ref a ∧ n = .ref b ∧ Vec P a xs ∧ Vec P b (xs.set (idx p xs.length) y) ∧ xs.length < 1056 ∧ (∀ z ∈ xs, (∃ n t, z = .int n t ∧ t ≠ 0) ∨ ∃ c, z = .ref c) ∧ -(xs.length : Int) ≤ p ∧ p < xs.length ∧ (rest = [] ∨ ∃ c, xs[idx p xs.length]? = some c ∧ PutR P rest c y)
theorem PutR.mono {P P' : Nat → Obj → Prop} (k : ∀ a o, P a o → P' a o) : ∀ {ps : List Int} {o n : Value}, PutR P ps o n → PutR P' ps o n
  | [], _, _, _ => trivial
  | p :: rest, _, _, ⟨a, b, xs, y, e1, e2, V, V', l, z, h0, h1, r⟩ => ⟨a, b, xs, y, e1, e2, V.mono k, V'.mono k, l, z, h0, h1, r.imp id fun ⟨c, hc, q⟩ => ⟨c, hc, q.mono k⟩⟩
theorem intsGet {xs : List Value} {ns : List Int} (h : IntsAre xs ns) : xs.length = ns.length := h.length
theorem intsTail {x : Value} {xs : List Value} {n : Int} {ns : List Int} (h : IntsAre (x :: xs) (n :: ns)) : (∃ t, x = .int n t) ∧ IntsAre xs ns := by
  cases h with | cons _ t r => exact ⟨⟨t, rfl⟩, r⟩
theorem g_lpath (P : Params) : nsIn (K P) mainGlobals "_law_path" = some (some (.ref fPath)) := by kernel_rfl!
theorem g_lput (P : Params) : nsIn (K P) mainGlobals "_law_put" = some (some (.ref fPut)) := by kernel_rfl!
theorem g_lputp (P : Params) : nsIn (K P) mainGlobals "_law_put_plain" = some (some (.ref fPutPlain)) := by kernel_rfl!
theorem g_lshared (P : Params) : nsIn (K P) mainGlobals "_law_shared" = some (some (.ref fShared)) := by kernel_rfl!
theorem g_lplain (P : Params) : nsIn (K P) mainGlobals "_law_plain" = some (some (.ref fPlain)) := by kernel_rfl!
theorem g_lgrown (P : Params) : nsIn (K P) mainGlobals "_law_grown" = some (some (.ref fGrown)) := by kernel_rfl!
theorem nwUp {P0 : Nat → Obj → Prop} {h h1 h2 : Heap} (sb : Sub h1 h2) : ∀ a o, Nw P0 h h1 a o → Nw P0 h h2 a o := fun a o q => ⟨sb _ _ q.1, q.2⟩
theorem nwLe {P0 : Nat → Obj → Prop} {h h1 h2 : Heap} (l : h.objs.size ≤ h1.objs.size) : ∀ a o, Nw P0 h1 h2 a o → Nw P0 h h2 a o := fun a o q => ⟨q.1, q.2.imp id fun z => Nat.le_trans l z⟩
local macro_rules | `(tactic| walk_at "gl") => `(tactic| with_reducible first | exact g_lput _ | exact g_lputp _ | exact g_lpath _ | exact g_lshared _ | exact g_lplain _ | exact g_lgrown _)
theorem putV {w : World} {mg mb : Str → Option Value} : ∀ (ps : List Int) (A : Around) (s : Shared) (Q E : Value → Shared → Prop) (d l n : Nat) (tree thing : Value) (t x : T) (pv : List Value) (P0 : Nat → Obj → Prop)
    (G : Gr w mg mb s.heap) (hA : A.handled = none) (hd : A.depth + ps.length + 10 < recursionLimit) (hP0 : ∀ a o, P0 a o → s.heap.get? a = some o) (R : Rep P0 true d tree t) (O : OkP ps t) (X : Rep P0 true 1 thing x)
    (hl : s.heap.get? l = some (listObj pv n)) (hI : IntsAre pv ps) (hz : ps.length < 1000)
    (ret : ∀ v' h' tk', Sub s.heap h' → Rep (Nw P0 s.heap h') true (d + 1) (.ref v') (putT ps t x) → PutR (Nw P0 s.heap h') ps tree (.ref v') → Q (.ref v') { s with heap := h', toks := tk' }),
    wpAny (model prog w) A (call (.ref fPut) [tree, .ref l, thing]) Q E s
  | [] => fun _ _ _ _ _ _ _ _ _ _ _ _ _ G hA hd hP0 R O => O.elim
  | p :: rest => by
    intro A s Q E d l n tree thing t x pv P0 G hA hd hP0 R O X hl hI hz ret
    have IH := putV (w := w) (mg := mg) (mb := mb) rest
    obtain ⟨ts, rfl, o0, o1, oR⟩ := O
    obtain ⟨d', a, xs, rfl, rfl, V, hxl, Rs⟩ := R.out
    have hlen := hI.length
    simp only [List.length_cons] at hz hd
    cases pv with
    | nil => simp at hlen
    | cons p0 pv =>
    obtain ⟨⟨tp, rfl⟩, hI'⟩ := intsTail hI
    have hpl := hI'.length
    have ex : xs.length = ts.length := Rs.1
    refine enter (P := At s.heap) (own := []) [("tree", .ref a), ("path", .ref l), ("thing", thing)] G (fun _ _ h => h) (fun _ h => nomatch h) (by rfl) (by rfl) (by omega) (BindsTo.of_eq (by rfl)) (locs (by rfl)) ?_
    intro L h₁ hL F
    have VA : Vec (At s.heap) a xs := Vec.mono hP0 V
    obtain ⟨d1, r1, t1, tc, tss, tf, as, ls, tl, hv, hV, _⟩ := id VA
    have hV1 := hV.dict
    have li : idx p xs.length < xs.length := idx_lt (by rw [ex]; exact o0) (by rw [ex]; exact o1)
    have gi : xs[idx p xs.length]? = some xs[idx p xs.length] := List.getElem?_eq_getElem li
    repeat (walk_at "N")
    have hs1 : s.heap.objs.size ≤ h₁.objs.size := by have := F.ltL; omega
    have o0' : -(xs.length : Int) ≤ p := by rw [ex]; exact o0
    have o1' : p < (xs.length : Int) := by rw [ex]; exact o1
    obtain ⟨u, hu, Ru⟩ := Rs.get gi
    have kinds : ∀ z ∈ xs, (∃ n t, z = .int n t ∧ t ≠ 0) ∨ ∃ c, z = .ref c := fun z hz => by
      obtain ⟨i, hi⟩ := List.mem_iff_getElem?.mp hz
      obtain ⟨t', _, Rz⟩ := Rs.get hi
      exact Rz.kind
    by_cases hr : rest = []
    · refine ite_neg (by subst hr; simp at hpl; simp [hpl]) ?_
      repeat (walk_at "N")
      refine itemL (k := 0) (F.get hl) (by simp; omega) (x := .int p tp) rfl ?_
      repeat (walk_at "N")
      refine setV (P0 := P0) F.G hA (by show A.depth + 1 + 3 < _; omega) (fun a o q => F.get (hP0 _ _ q)) V hxl o0' o1' (fun v' h2 tk2 sb2 V2 => ?_)
      repeat (walk_at "N")
      have sb : Sub s.heap h2 := fun b o e => sb2 _ _ (F.keep _ _ e)
      have V3 := V2.mono (nwLe hs1)
      have up : ∀ a o, P0 a o → Nw P0 s.heap h2 a o := fun a o q => ⟨sb _ _ (hP0 _ _ q), .inl q⟩
      refine ret v' h2 _ sb ?_ ⟨a, v', xs, thing, rfl, rfl, V.mono up, V3, hxl, kinds, o0', o1', .inl hr⟩
      subst hr
      have e : putT [p] (.node ts) x = .node (ts.set (idx p xs.length) x) := by
        show T.node (ts.set (idx p ts.length) _) = _
        rw [← ex, hu]
        rfl
      rw [e]
      exact Rep.node (b := true) V3 (by rw [List.length_set]; exact hxl) (((Rs.mono up).le (Nat.le_succ _)).set ((X.mono up).le (by omega)))
    · have hr1 : 1 ≤ rest.length := by cases rest with | nil => exact absurd rfl hr | cons _ _ => simp
      refine ite_pos (by simp; omega) ?_
      repeat (walk_at "N")
      refine itemL (k := 0) (F.get hl) (by simp; omega) (x := .int p tp) rfl ?_
      repeat (walk_at "N")
      refine subV F hA (by show A.depth + 1 + 1 < _; omega) (VA.mono F.keep) hxl o0' o1' gi (fun h2 tk2 sb2 => ?_)
      have F2 := F.kept sb2
      have hs2 : s.heap.objs.size ≤ h2.objs.size := by have := F2.ltL; omega
      clear F
      repeat (walk_at "N")
      refine ⟨l, (Value.int p tp :: pv).toArray, _, _, rfl, isList_at (F2.get hl), by rw [sizeLine_eq, List.size_toArray]; simp; omega, .int _ _, .none, ?_⟩
      rw [show (1 : Int) = ((1 : Nat) : Int) from rfl, pick_from, List.drop_one, List.tail_cons]
      obtain ⟨D3, h3, eD, eh, F3, l3, n3⟩ := F2.sl1 tk2 pv
      rw [← eD, ← eh]
      have sz3 := F3.ltL
      clear F2
      repeat (walk_at "N")
      have oR' : OkP rest u := by
        rcases oR with e | ⟨u', hu', ok⟩
        · exact absurd e hr
        · rw [← ex, hu] at hu'; cases hu'; exact ok
      refine IH _ _ _ _ d' D3 0 _ thing u x pv P0 F3.G hA (by show A.depth + 1 + rest.length + 10 < _; omega) (fun a o q => F3.get (hP0 _ _ q)) Ru oR' X (F3.ownAt (.head _)) hI' (by omega) (fun v4 h4 tk4 sb4 R4 PR4 => ?_)
      have F4 := F3.tl.nw sb4
      have mo := F3.tl.nwMono sb4
      have hl4 := mo _ _ hl
      have hv4 := mo _ _ hv
      have hV14 := mo _ _ hV1
      have le3 := Nat.le_of_lt (hL ▸ sz3)
      clear F3
      repeat (walk_at "N")
      rename_i h5 F5
      clear F4
      refine itemL (k := 0) (F5.get hl4) (by simp; omega) (x := .int p tp) rfl ?_
      repeat (walk_at "N")
      have hs5 : s.heap.objs.size ≤ h5.objs.size := by have := F5.ltL; omega
      refine setV (P0 := P0) F5.G hA (by show A.depth + 1 + 3 < _; omega) (fun a o q => F5.get (mo _ _ (hP0 _ _ q))) V hxl o0' o1' (fun v' h6 tk6 sb6 V6 => ?_)
      repeat (walk_at "N")
      have sb : Sub s.heap h6 := fun b o e => sb6 _ _ (F5.keep _ _ (mo _ _ e))
      have V7 := V6.mono (nwLe hs5)
      have up : ∀ a o, P0 a o → Nw P0 s.heap h6 a o := fun a o q => ⟨sb _ _ (hP0 _ _ q), .inl q⟩
      have up4 : ∀ a o, Nw P0 h3 h4 a o → Nw P0 s.heap h6 a o := fun a o q => ⟨sb6 _ _ (F5.keep _ _ ⟨q.1, q.2.imp (hP0 _ _) id⟩), q.2.imp id fun z => Nat.le_trans le3 z⟩
      refine ret v' h6 _ sb ?_ ⟨a, v', xs, .ref v4, rfl, rfl, V.mono up, V7, hxl, kinds, o0', o1', .inr ⟨_, gi, PR4.mono up4⟩⟩
      have e : putT (p :: rest) (.node ts) x = .node (ts.set (idx p xs.length) (putT rest u x)) := by
        show T.node (ts.set (idx p ts.length) _) = _
        rw [← ex, hu]
      rw [e]
      exact Rep.node (b := true) V7 (by rw [List.length_set]; exact hxl) (((Rs.mono up).le (Nat.le_succ _)).set (R4.mono up4))
local macro_rules | `(tactic| walk_at "gl") => `(tactic| with_reducible first | exact g_lput _ | exact g_lputp _ | exact g_lpath _ | exact g_lshared _ | exact g_lplain _ | exact g_lgrown _)
theorem putP {w : World} {mg mb : Str → Option Value} : ∀ (ps : List Int) (A : Around) (s : Shared) (Q E : Value → Shared → Prop) (d l n : Nat) (tree thing : Value) (t x : T) (pv : List Value) (P0 : Nat → Obj → Prop)
    (G : Gr w mg mb s.heap) (hA : A.handled = none) (hd : A.depth + ps.length + 10 < recursionLimit) (hP0 : ∀ a o, P0 a o → s.heap.get? a = some o) (R : Rep P0 false d tree t) (O : OkP ps t) (X : Rep P0 false 1 thing x)
    (hl : s.heap.get? l = some (listObj pv n)) (hI : IntsAre pv ps) (hz : ps.length < 1000)
    (ret : ∀ v' h' tk', Sub s.heap h' → Rep (Nw P0 s.heap h') false (d + 1) (.ref v') (putT ps t x) → Q (.ref v') { s with heap := h', toks := tk' }),
    wpAny (model prog w) A (call (.ref fPutPlain) [tree, .ref l, thing]) Q E s
  | [] => fun _ _ _ _ _ _ _ _ _ _ _ _ _ G hA hd hP0 R O => O.elim
  | p :: rest => by
    intro A s Q E d l n tree thing t x pv P0 G hA hd hP0 R O X hl hI hz ret
    have IH := putP (w := w) (mg := mg) (mb := mb) rest
    obtain ⟨ts, rfl, o0, o1, oR⟩ := O
    obtain ⟨d', a, xs, rfl, rfl, ⟨na, V⟩, hxl, Rs⟩ := R.out
    have hlen := hI.length
    simp only [List.length_cons] at hz hd
    cases pv with
    | nil => simp at hlen
    | cons p0 pv =>
    obtain ⟨⟨tp, rfl⟩, hI'⟩ := intsTail hI
    have hpl := hI'.length
    have ex : xs.length = ts.length := Rs.1
    have hv := hP0 _ _ V
    refine enter (P := At s.heap) (own := []) [("twin", .ref a), ("path", .ref l), ("thing", thing)] G (fun _ _ h => h) (fun _ h => nomatch h) (by rfl) (by rfl) (by omega) (BindsTo.of_eq (by rfl)) (locs (by rfl)) ?_
    intro L h₁ hL F
    have li : idx p xs.length < xs.length := idx_lt (by rw [ex]; exact o0) (by rw [ex]; exact o1)
    have gi : xs[idx p xs.length]? = some xs[idx p xs.length] := List.getElem?_eq_getElem li
    have hs1 : s.heap.objs.size ≤ h₁.objs.size := by have := F.ltL; omega
    have o0' : -(xs.length : Int) ≤ p := by rw [ex]; exact o0
    have o1' : p < (xs.length : Int) := by rw [ex]; exact o1
    obtain ⟨u, hu, Ru⟩ := Rs.get gi
    repeat (walk_at "N")
    refine ⟨a, xs.toArray, _, _, rfl, isList_at (F.get hv), by rw [sizeLine_eq, List.size_toArray]; omega, .none, .none, ?_⟩
    rw [pick_all]
    obtain ⟨D, h2, eD, eh, F2, l2, n2⟩ := F.slA xs
    rw [← eD, ← eh]
    clear F
    repeat (walk_at "N")
    rename_i h3 F3
    clear F2
    by_cases hr : rest = []
    · refine ite_neg (by subst hr; simp at hpl; simp [hpl]) ?_
      repeat (walk_at "N")
      refine itemL (k := 0) (F3.get hl) (by simp; omega) (x := .int p tp) rfl ?_
      refine setLI F3 (by walk_at "apart") o0' o1' (by omega) (fun c4 h4 F4 => ?_)
      repeat (walk_at "N")
      have sb : Sub s.heap h4 := F4.keep
      have up : ∀ a o, P0 a o → Nw P0 s.heap h4 a o := fun a o q => ⟨sb _ _ (hP0 _ _ q), .inl q⟩
      refine ret D h4 _ sb ?_
      subst hr
      have e : putT [p] (.node ts) x = .node (ts.set (idx p xs.length) x) := by
        show T.node (ts.set (idx p ts.length) _) = _
        rw [← ex, hu]
        rfl
      rw [e]
      exact Rep.node (b := false) ⟨c4, F4.ownAt (.head _), .inr (by omega)⟩ (by rw [List.length_set]; exact hxl) (((Rs.mono up).le (Nat.le_succ _)).set ((X.mono up).le (by omega)))
    · have hr1 : 1 ≤ rest.length := by cases rest with | nil => exact absurd rfl hr | cons _ _ => simp
      refine ite_pos (by simp; omega) ?_
      repeat (walk_at "N")
      refine itemL (k := 0) (F3.get hl) (by simp; omega) (x := .int p tp) rfl ?_
      repeat (walk_at "N")
      refine itemLI (F3.get hv) (by omega) o0' o1' gi ?_
      repeat (walk_at "N")
      refine ⟨l, (Value.int p tp :: pv).toArray, _, _, rfl, isList_at (F3.get hl), by rw [sizeLine_eq, List.size_toArray]; simp; omega, .int _ _, .none, ?_⟩
      rw [show (1 : Int) = ((1 : Nat) : Int) from rfl, pick_from, List.drop_one, List.tail_cons]
      obtain ⟨D4, h4, eD4, eh4, F4, l4, n4⟩ := F3.sl1 _ pv
      rw [← eD4, ← eh4]
      have sz4 := F4.ltL
      have dD := ltS (F4.ownAt (.tail _ (.head _)))
      repeat (walk_at "N")
      have oR' : OkP rest u := by
        rcases oR with e | ⟨u', hu', ok⟩
        · exact absurd e hr
        · rw [← ex, hu] at hu'; cases hu'; exact ok
      refine IH _ _ _ _ d' D4 0 _ thing u x pv P0 F4.G hA (by show A.depth + 1 + rest.length + 10 < _; omega) (fun a o q => F4.get (hP0 _ _ q)) Ru oR' X (F4.ownAt (.head _)) hI' (by omega) (fun v5 h5 tk5 sb5 R5 => ?_)
      have F5 := F4.tl.nw sb5
      have mo := F4.tl.nwMono sb5
      have hl5 := mo _ _ hl
      have le4 := Nat.le_of_lt (hL ▸ sz4)
      clear F3 F4
      repeat (walk_at "N")
      refine itemL (k := 0) (F5.get hl5) (by simp; omega) (x := .int p tp) rfl ?_
      refine setLI F5 (by walk_at "apart") o0' o1' (by omega) (fun c6 h6 F6 => ?_)
      repeat (walk_at "N")
      have sb : Sub s.heap h6 := fun b o e => F6.keep _ _ (mo _ _ e)
      have up : ∀ a o, P0 a o → Nw P0 s.heap h6 a o := fun a o q => ⟨sb _ _ (hP0 _ _ q), .inl q⟩
      have up5 : ∀ a o, Nw P0 h4 h5 a o → Nw P0 s.heap h6 a o := fun a o q => ⟨F6.keep _ _ ⟨q.1, q.2.imp (hP0 _ _) id⟩, q.2.imp id fun z => Nat.le_trans le4 z⟩
      refine ret D h6 _ sb ?_
      have e : putT (p :: rest) (.node ts) x = .node (ts.set (idx p xs.length) (putT rest u x)) := by
        show T.node (ts.set (idx p ts.length) _) = _
        rw [← ex, hu]
      rw [e]
      exact Rep.node (b := false) ⟨c6, F6.ownAt (.head _), .inr (by omega)⟩ (by rw [List.length_set]; exact hxl) (((Rs.mono up).le (Nat.le_succ _)).set (R5.mono up5))
theorem fmod_idx {p : Int} {n : Nat} (h0 : -(n : Int) ≤ p) (h1 : p < n) : p.fmod n = (idx p n : Nat) := by
  rw [Int.fmod_eq_emod_of_nonneg _ (by omega)]
  unfold idx
  by_cases hp : p < 0
  · rw [if_pos hp, ← Int.add_emod_right, Int.emod_eq_of_lt (by omega) (by omega)]; omega
  · rw [if_neg hp, Int.emod_eq_of_lt (by omega) (by omega)]; omega
theorem isNotSelf {w : World} {A : Around} {E Q : Value → Shared → Prop} {s : Shared} {x : Value} (k : (∃ n t, x = .int n t ∧ t ≠ 0) ∨ ∃ c, x = .ref c) (h : Q (.bool false) s) : wpAny (model prog w) A (compareOp .IsNot x x) Q E s := by
  rcases k with ⟨n, t, rfl, ht⟩ | ⟨c, rfl⟩
  · show wpAny _ _ (do return Value.bool (!(← isSame (Value.int n t) (Value.int n t)))) _ _ _
    refine wpAny_bind ?_
    have z : ¬ ((t == 0 || t == 0) = true) := by simpa using ht
    show wpAny _ _ (if (n == n && smallInt n) = true then _ else _) _ _ _
    by_cases hs : (n == n && smallInt n) = true
    · rw [if_pos hs]
      unfold isSame.cachedInt
      rw [if_neg z]
      exact wpAny_bind (wpAny_rule (wpAny_pure (wpAny_pure h)))
    · rw [if_neg hs]
      unfold isSame.created
      rw [if_neg z]
      rw [if_pos (by simp)]
      exact wpAny_pure (wpAny_pure h)
  · exact wpAny_isNot_ref_self h
local macro_rules | `(tactic| walk_at "gl") => `(tactic| with_reducible first | exact g_lput _ | exact g_lputp _ | exact g_lpath _ | exact g_lshared _ | exact g_lplain _ | exact g_lgrown _)
local macro_rules | `(tactic| walk_at "U") => `(tactic| first
  | ((with_reducible show wpAny _ _ (eval (Expr.BoolOp _ [_] _) _) _ _ _); refine BoolOp_one ?_)
  | ((with_reducible show wpAny _ _ (eval (Expr.BoolOp BoolOp.And _ _) _) _ _ _); refine BoolOp_and ?_)
  | with_reducible refine ne_int ?_
  | with_reducible refine Constant_bool ?_
  | walk_at "N")
theorem sharedV {w : World} {mg mb : Str → Option Value} : ∀ (ps : List Int) (A : Around) (s : Shared) (Q E : Value → Shared → Prop) (l n : Nat) (old new : Value) (pv : List Value)
    (G : Gr w mg mb s.heap) (hA : A.handled = none) (hd : A.depth + ps.length + 10 < recursionLimit) (hne : ps ≠ []) (R : PutR (At s.heap) ps old new)
    (hl : s.heap.get? l = some (listObj pv n)) (hI : IntsAre pv ps) (hz : ps.length < 1000)
    (ret : ∀ h' tk', Sub s.heap h' → Q (.bool true) { s with heap := h', toks := tk' }),
    wpAny (model prog w) A (call (.ref fShared) [old, new, .ref l]) Q E s
  | [] => fun _ _ _ _ _ _ _ _ _ G hA hd hne => absurd rfl hne
  | p :: rest => by
    intro A s Q E l n old new pv G hA hd _ R hl hI hz ret
    have IH := sharedV (w := w) (mg := mg) (mb := mb) rest
    obtain ⟨a, b, xs, y, rfl, rfl, V, V', hxl, kinds, o0, o1, oR⟩ := R
    have hlen := hI.length
    simp only [List.length_cons] at hz hd
    cases pv with
    | nil => simp at hlen
    | cons p0 pv =>
    obtain ⟨⟨tp, rfl⟩, hI'⟩ := intsTail hI
    have hpl := hI'.length
    have li := idx_lt o0 o1
    have gi : xs[idx p xs.length]? = some xs[idx p xs.length] := List.getElem?_eq_getElem li
    have hlx : (xs.set (idx p xs.length) y).length = xs.length := List.length_set
    refine enter (P := At s.heap) (own := []) [("old", .ref a), ("new", .ref b), ("path", .ref l)] G (fun _ _ h => h) (fun _ h => nomatch h) (by rfl) (by rfl) (by omega) (BindsTo.of_eq (by rfl)) (locs (by rfl)) ?_
    intro L h₁ hL F
    obtain ⟨d1, r1, t1, tc, tss, tf, as, ls, tl, hv, hV, _⟩ := id V
    have hV1 := hV.dict
    obtain ⟨d1', r1', t1', tc', tss', tf', as', ls', tl', hv', hV', _⟩ := id V'
    have hV1' := hV'.dict
    repeat (walk_at "U")
    refine tolistV F.G hA (by show A.depth + 1 + 2 < _; omega) (V.mono F.keep) (by omega) (fun D1 c1 h2 tk2 sb2 hD1 lD1 => ?_)
    have F2 := (F.madeAt sb2 hD1 lD1).freeze (by walk_at "apart")
    clear F
    have hvb : Add (At s.heap) D1 (listObj xs c1) b _ := .inl hv'
    have hVb1 : Add (At s.heap) D1 (listObj xs c1) d1' _ := .inl hV1'
    repeat (walk_at "U")
    rename_i h3 F3
    clear F2
    refine tolistV F3.G hA (by show A.depth + 1 + 2 < _; omega) (V'.mono fun _ _ q => F3.keep _ _ (.inl q)) (by rw [hlx]; omega) (fun D2 c2 h4 tk4 sb4 hD2 lD2 => ?_)
    have F4 := (F3.madeAt sb4 hD2 lD2).freeze (by walk_at "apart")
    clear F3
    have pB : Add (Add (At s.heap) D1 (listObj xs c1)) D2 (listObj (xs.set (idx p xs.length) y) c2) D1 (listObj xs c1) := .inl (.inr ⟨rfl, rfl⟩)
    have pH : Add (Add (At s.heap) D1 (listObj xs c1)) D2 (listObj (xs.set (idx p xs.length) y) c2) D2 (listObj (xs.set (idx p xs.length) y) c2) := .inr ⟨rfl, rfl⟩
    have pl : Add (Add (At s.heap) D1 (listObj xs c1)) D2 (listObj (xs.set (idx p xs.length) y) c2) l (listObj (Value.int p tp :: pv) n) := .inl (.inl hl)
    have mo4 : ∀ a o, At s.heap a o → Add (Add (At s.heap) D1 (listObj xs c1)) D2 (listObj (xs.set (idx p xs.length) y) c2) a o := fun _ _ q => .inl (.inl q)
    generalize Add (Add (At s.heap) D1 (listObj xs c1)) D2 (listObj (xs.set (idx p xs.length) y) c2) = P4 at *
    repeat (walk_at "U")
    refine ite_neg (by rw [hlx]; simp) ?_
    repeat (walk_at "U")
    rename_i h5 F5
    clear F4
    refine range1L F5 (fun rg h6 t6 u6 tk6 F6 l6 n6 => ?_)
    have hr6 := F6.ownAt (.head _)
    refine iterR (k := xs.length) F6 hA hr6 (small_one (by omega) (by omega) (by omega) (by omega)) (by rw [rangeSize_one]; split <;> omega) (fun i P' m' own' => m' "path" = some (.ref l) ∧ m' "before" = some (.ref D1) ∧ m' "behind" = some (.ref D2) ∧ m' "old" = some (.ref a) ∧ m' "new" = some (.ref b)) ⟨by walk_at "nm", by walk_at "nm", by walk_at "nm", by walk_at "nm", by walk_at "nm"⟩ ?_ ?_
    · rintro E' i tv P' m' own' it io h tk' hi hP ⟨m1, m2, m3, m4, m5⟩ ne F7
      have pB' := hP _ _ pB
      have pH' := hP _ _ pH
      have pl' := hP _ _ pl
      rw [show (0 : Int) + (i : Nat) * 1 = i by omega] at F7
      repeat (walk_at "U")
      refine itemL (k := 0) (F7.get pl') (by simp; omega) (x := .int p tp) rfl ?_
      repeat (walk_at "U")
      refine mod_int (by omega) ?_
      rw [fmod_idx o0 o1]
      repeat (walk_at "U")
      have gix : xs[i]? = some xs[i] := List.getElem?_eq_getElem hi
      by_cases hij : i = idx p xs.length
      · refine ite_neg (by rw [hij]; simp) ?_
        repeat (walk_at "U")
        refine ite_neg (by decide) ?_
        repeat (walk_at "U")
        exact ⟨_, _, P', _, own', rfl, F7, ne, fun _ _ q => q, by walk_at "nm", by walk_at "nm", by walk_at "nm", by walk_at "nm", by walk_at "nm"⟩
      · refine ite_pos (by rw [bne_iff_ne]; exact fun e => hij (Int.ofNat.inj e)) ?_
        repeat (walk_at "U")
        refine itemL (F7.get pH') (by rw [hlx]; omega) (x := xs[i]) (by rw [List.getElem?_set_ne (fun e => hij e.symm)]; exact gix) ?_
        repeat (walk_at "U")
        refine itemL (F7.get pB') (by omega) gix ?_
        refine isNotSelf (kinds _ (List.getElem_mem hi)) ?_
        repeat (walk_at "U")
        refine ite_neg (by decide) ?_
        repeat (walk_at "U")
        refine ite_neg (by decide) ?_
        repeat (walk_at "U")
        exact ⟨_, _, P', _, own', rfl, F7, ne, fun _ _ q => q, by walk_at "nm", by walk_at "nm", by walk_at "nm", by walk_at "nm", by walk_at "nm"⟩
    · rintro h7 tk7 P' m' own' F7 hP ⟨m1, m2, m3, m4, m5⟩
      have pl' := hP _ _ pl
      have sb7 : Sub s.heap h7 := fun _ _ q => F7.keep _ _ (hP _ _ (mo4 _ _ q))
      show wpAny _ _ (execs _ _) _ _ _
      repeat (walk_at "U")
      by_cases hr : rest = []
      · refine ite_pos (by subst hr; simp at hpl; simp [hpl]) ?_
        repeat (walk_at "U")
        exact ret h7 _ sb7
      · have hr1 : 1 ≤ rest.length := by cases rest with | nil => exact absurd rfl hr | cons _ _ => simp
        refine ite_neg (by rw [beq_iff_eq]; simp only [List.length_cons]; omega) ?_
        obtain ⟨c, hc, PR⟩ : ∃ c, xs[idx p xs.length]? = some c ∧ PutR (At s.heap) rest c y := by
          rcases oR with e | q
          · exact absurd e hr
          · exact q
        cases rest with
        | nil => exact absurd rfl hr
        | cons p2 rest2 =>
        obtain ⟨a2, b2, xs2, y2, rfl, rfl, Va2, Vb2, _⟩ := id PR
        obtain ⟨e1, e2, e3, e4, e5, e6, e7, e8, e9, hvb2, _⟩ := id Vb2
        have gy : (xs.set (idx p xs.length) (Value.ref b2))[(if p < 0 then p + ((xs.set (idx p xs.length) (Value.ref b2)).length : Nat) else p).toNat]? = some (.ref b2) := by
          rw [hlx]
          exact List.getElem?_set_self li
        repeat (walk_at "U")
        refine itemL (k := 0) (F7.get pl') (by simp; omega) (x := .int p tp) rfl ?_
        repeat (walk_at "U")
        refine subV F7 hA (by show A.depth + 1 + 1 < _; omega) (V'.mono sb7) (by rw [hlx]; exact hxl) (by rw [hlx]; exact o0) (by rw [hlx]; exact o1) gy (fun h8 tk8 sb8 => ?_)
        have F8 := F7.kept sb8
        clear F7
        repeat (walk_at "U")
        refine isi_vec F8.G (sb8 _ _ (sb7 _ _ hvb2)) ?_
        repeat (walk_at "U")
        refine ite_pos (by decide) ?_
        repeat (walk_at "U")
        refine itemL (k := 0) (F8.get pl') (by simp; omega) (x := .int p tp) rfl ?_
        repeat (walk_at "U")
        refine subV F8 hA (by show A.depth + 1 + 1 < _; omega) (V.mono fun _ _ q => sb8 _ _ (sb7 _ _ q)) hxl o0 o1 hc (fun h9 tk9 sb9 => ?_)
        have F9 := F8.kept sb9
        clear F8
        repeat (walk_at "U")
        refine itemL (k := 0) (F9.get pl') (by simp; omega) (x := .int p tp) rfl ?_
        repeat (walk_at "U")
        refine subV F9 hA (by show A.depth + 1 + 1 < _; omega) (V'.mono fun _ _ q => sb9 _ _ (sb8 _ _ (sb7 _ _ q))) (by rw [hlx]; exact hxl) (by rw [hlx]; exact o0) (by rw [hlx]; exact o1) gy (fun h10 tk10 sb10 => ?_)
        have F10 := F9.kept sb10
        clear F9
        repeat (walk_at "U")
        refine ⟨l, (Value.int p tp :: pv).toArray, _, _, rfl, isList_at (F10.get pl'), by rw [sizeLine_eq, List.size_toArray]; simp; omega, .int _ _, .none, ?_⟩
        rw [show (1 : Int) = ((1 : Nat) : Int) from rfl, pick_from, List.drop_one, List.tail_cons]
        obtain ⟨D11, h11, eD, eh, F11, l11, n11⟩ := F10.sl1 _ pv
        rw [← eD, ← eh]
        clear F10
        repeat (walk_at "U")
        refine IH _ _ _ _ D11 0 _ _ pv F11.G hA (by show A.depth + 1 + (rest2.length + 1) + 10 < _; simp only [List.length_cons] at hd; omega) (by simp) (PR.mono fun _ _ q => F11.keep _ _ (hP _ _ (mo4 _ _ q))) (F11.ownAt (.head _)) hI' (by omega) (fun h12 tk12 sb12 => ?_)
        repeat (walk_at "U")
        exact ret h12 _ (fun _ _ q => sb12 _ _ (F11.keep _ _ (hP _ _ (mo4 _ _ q))))
theorem place_ok {q n : Nat} {r : Int} (hq : q < n) (h0 : 0 ≤ r) (h1 : r < 2) : -(n : Int) ≤ (q : Int) - n * r ∧ (q : Int) - n * r < n ∧ idx ((q : Int) - n * r) n = q := by
  have hr : r = 0 ∨ r = 1 := by omega
  rcases hr with rfl | rfl
  · refine ⟨by omega, by omega, ?_⟩
    unfold idx
    rw [if_neg (by omega)]
    omega
  · refine ⟨by omega, by omega, ?_⟩
    unfold idx
    rw [if_pos (by omega)]
    omega
/-- the loop's state in _law_path -/
def PX (w : World) (mg mb : Str → Option Value) (P0 : Nat → Obj → Prop) (S : Shared) (L D : Nat) (t0 : T) (d0 : Nat) (n : Nat) (s : Shared) : Prop :=
  ∃ (h : Heap) (tk : Nat) (m : Str → Option Value) (ps : List Int) (pv : List Value) (c : Nat) (v : Value) (t : T) (num : Int) (tn : Tok), s = { S with heap := h, toks := tk } ∧ Fm w mg mb (At S.heap) L h m [(D, listObj pv c)] ∧
    m "path" = some (.ref D) ∧ m "number" = some (.int num tn) ∧ m "twin" = some v ∧ Rep P0 false n v t ∧ IntsAre pv ps ∧ (∀ qs, OkP qs t → OkP (ps ++ qs) t0) ∧ (ps ≠ [] → OkP ps t0) ∧ (ps = [] → t = t0) ∧ ps.length + n ≤ d0
theorem pathV {w : World} {mg mb : Str → Option Value} {A : Around} {s : Shared} {Q E : Value → Shared → Prop} {d : Nat} {twin : Value} {ts : List T} {num : Int} {tn : Tok} {P0 : Nat → Obj → Prop}
    (G : Gr w mg mb s.heap) (hA : A.handled = none) (hd : A.depth + 4 * d + 20 < recursionLimit) (hu : A.units + 20 * d + 80 < cLine) (hP0 : ∀ a o, P0 a o → s.heap.get? a = some o) (R : Rep P0 false d twin (.node ts)) (hne : ts ≠ []) (hdd : d < 100)
    (ret : ∀ D ps pv c h' tk', Sub s.heap h' → h'.get? D = some (listObj pv c) → s.heap.objs.size ≤ D → IntsAre pv ps → OkP ps (.node ts) → ps.length ≤ d → Q (.ref D) { s with heap := h', toks := tk' }) :
    wpAny (model prog w) A (call (.ref fPath) [twin, .int num tn]) Q E s := by
  refine enter (P := At s.heap) (own := []) [("twin", twin), ("number", .int num tn)] G (fun _ _ h => h) (fun _ h => nomatch h) (by rfl) (by rfl) (by omega) (BindsTo.of_eq (by rfl)) (locs (by rfl)) ?_
  intro L h₁ hL F
  repeat (walk_at "V")
  rename_i D h2 F2 l2 n2 h3 F3
  clear F F2
  refine wpAny_While (codeAny_whileLoop (PX w mg mb P0 s L D (.node ts) d) ?_ d ?_)
  · rintro nn s' ⟨h, tk, m, ps, pv, c, v, t, num, tn, rfl, F, m1, m2, m3, Rv, hI, hO, hO2, hO3, hlen⟩
    repeat (walk_at "V")
    have fin : ps ≠ [] → ∀ tk', Q (.ref D) { s with heap := h, toks := tk' } := fun hp tk' => ret D ps pv c h tk' F.keep (F.ownAt (.head _)) (by omega) hI (hO2 hp) (by omega)
    cases t with
    | num k =>
      have hps : ps ≠ [] := fun e => by have := hO3 e; cases this
      obtain ⟨tk2, rfl, _⟩ := Rv.outNum
      refine PySem.IsiPair.int_list ?_
      repeat (walk_at "V")
      refine ite_neg (by decide) ?_
      repeat (walk_at "V")
      refine ite_neg (by decide) ?_
      repeat (walk_at "V")
      exact fin hps _
    | node us =>
      obtain ⟨n', l', xs, rfl, rfl, ⟨nx, hx0⟩, hxl, Rs⟩ := Rv.out
      have hx1 : At s.heap l' (listObj xs nx) := hP0 _ _ hx0
      refine call_isinstance_yes (Tx := "list") (isList_at (F.get hx1)).typeIs PySem.F.isi_meta_list AutoSeq1.sub_list_list ?_
      repeat (walk_at "V")
      refine ite_pos (by decide) ?_
      repeat (walk_at "V")
      rename_i l4 h4 F4 lt4 ne4
      by_cases hxe : xs = []
      · have hue : us = [] := by have := Rs.1; rw [hxe] at this; exact List.eq_nil_of_length_eq_zero this.symm
        have hps : ps ≠ [] := fun e => by have q := hO3 e; rw [hue] at q; cases q; exact hne rfl
        subst hxe
        refine listNeSame (by show A.units + 3 < _; omega) (F4.get hx1) (F4.ownAt (.head _)) rfl (fun j x y h1 => by simp at h1) (fun h5 tk5 sb5 => ?_)
        have F5 := F4.kept sb5
        repeat (walk_at "V")
        refine ite_neg (by decide) ?_
        repeat (walk_at "V")
        refine ite_neg (by decide) ?_
        repeat (walk_at "V")
        exact ret D ps pv c h5 _ (fun _ _ q => sb5 _ _ (F4.keep _ _ q)) (sb5 _ _ (F4.ownAt (.tail _ (.head _)))) (by omega) hI (hO2 hps) (by omega)
      · have hx0' : 0 < xs.length := List.length_pos_iff.mpr hxe
        refine listNeLen (by show A.units + 3 < _; omega) (F4.get hx1) (F4.ownAt (.head _)) (by simp; omega) ?_
        repeat (walk_at "V")
        refine ite_pos (by decide) ?_
        repeat (walk_at "V")
        refine ite_pos (by decide) ?_
        have F5 := F4.tl
        clear F4 F
        repeat (walk_at "V")
        refine mod_int (by omega) ?_
        have b0 := fmod_lo num (n := (xs.length : Int)) (by omega)
        have b1 := fmod_hi num (n := (xs.length : Int)) (by omega)
        have c0 := fmod_lo (num.fdiv xs.length) (n := 2) (by decide)
        have c1 := fmod_hi (num.fdiv xs.length) (n := 2) (by decide)
        obtain ⟨q, hq⟩ : ∃ q : Nat, num.fmod xs.length = q := ⟨(num.fmod xs.length).toNat, by omega⟩
        rw [hq] at b0 b1 ⊢
        have hql : q < xs.length := by omega
        repeat (walk_at "V")
        rename_i h6 F6 h7 F7
        clear F5 F6
        refine floordiv_int (by omega) ?_ (.inl (PyProof.noPylong_small (by omega)))
        repeat (walk_at "V")
        refine mod_int (by decide) ?_
        refine mul_int ?_ (.of_left (PySem.intBits_le_64 (by omega) (by omega)))
        repeat (walk_at "V")
        obtain ⟨p0, p1, p2⟩ := place_ok hql c0 c1
        generalize (q : Int) - (xs.length : Int) * (num.fdiv xs.length).fmod 2 = p at p0 p1 p2 ⊢
        have hpl := hI.length
        refine appendL F7 (by walk_at "apart") (by omega) (fun c8 h8 F8 => ?_)
        clear F7
        repeat (walk_at "V")
        refine floordiv_int (by omega) ?_ (.inl (PyProof.noPylong_small (by omega)))
        repeat (walk_at "V")
        refine floordiv_int (by decide) ?_ (.inl (PyProof.noPylong_small (by decide)))
        repeat (walk_at "V")
        rename_i h9 F9
        clear F8
        have gq : xs[q]? = some xs[q] := List.getElem?_eq_getElem hql
        refine itemL (F9.get hx1) (by omega) gq ?_
        repeat (walk_at "V")
        rename_i h10 F10
        obtain ⟨u, hu', Ru⟩ := Rs.get gq
        have ex := Rs.1
        have ok1 : ∀ qs, (qs = [] ∨ OkP qs u) → OkP (p :: qs) (.node us) := fun qs hqs => ⟨us, rfl, by rw [← ex]; exact p0, by rw [← ex]; exact p1, hqs.imp id fun o => ⟨u, by rw [← ex, p2]; exact hu', o⟩⟩
        refine ⟨n', by omega, h10, _, _, ps ++ [p], _, c8, _, u, _, _, rfl, F10, by walk_at "nm", by walk_at "nm", by walk_at "nm", Ru, hI.append (.cons _ _ .nil), fun qs o => ?_, fun _ => ?_, fun e => by simp at e, by simp; omega⟩
        · rw [List.append_assoc]
          exact hO _ (ok1 qs (.inr o))
        · exact hO _ (ok1 [] (.inl rfl))
  · exact ⟨h3, _, _, [], [], 0, twin, .node ts, num, tn, rfl, F3, by walk_at "nm", by walk_at "nm", by walk_at "nm", R, .nil, fun qs h => h, fun h => absurd rfl h, fun _ => rfl, by simp⟩
theorem kc_tupNot (P : Params) : isNotIn (K P) "tuple" C = true := by kernel_rfl!
theorem extend0 {w : World} {mg mb : Str → Option Value} {A : Around} {s : Shared} {Q E : Value → Shared → Prop} {tp : Nat}
    (G : Gr w mg mb s.heap) (hA : A.handled = none) (hd : A.depth + 3 < recursionLimit) (ht : s.heap.get? tp = some { cls := .type "tuple", data := .seq #[] })
    (ret : ∀ h' tk', Sub s.heap h' → Q (.ref aEmpty) { s with heap := h', toks := tk' }) : wpAny (model prog w) A (call (.ref fExtend) [.ref aEmpty, .ref tp]) Q E s := by
  refine enter (P := At s.heap) (own := []) [("self", .ref aEmpty), ("obj", .ref tp)] G (fun _ _ h => h) (fun _ h => nomatch h) (by rfl) (by rfl) (by omega) (BindsTo.of_eq (by rfl)) (locs (by rfl)) ?_
  intro L h₁ hL F
  have ht1 := F.get ht
  repeat (walk_at "V")
  refine isn_call (T := "tuple") (P := fun h => ∃ o, h.get? tp = some o ∧ o.cls = .type "tuple") F.G.X (fun M => (Looks.ld ht1).andThen .now) (kc_tupNot _) (fun e => by cases e) ⟨_, ht1, rfl⟩ (fun p q => tuple_cls p q) ?_
  repeat (walk_at "V")
  refine ite_neg (by decide) ?_
  repeat (walk_at "V")
  refine call_list_seq tp (.inr rfl) ht1 rfl rfl (fun h2 c2 hk hD => ?_) (hsz := by rw [sizeLine_eq]; simp)
  have F2 := F.made hk hD
  generalize hDD : h₁.objs.size = D2 at F2
  have F2' : Fm w mg mb (At s.heap) L h2 _ [(D2, listObj [] c2)] := F2
  clear F F2
  repeat (walk_at "V")
  rename_i h3 F3
  refine ite_neg (by decide) ?_
  repeat (walk_at "V")
  exact ret h3 _ F3.keep
theorem pvector0 {w : World} {mg mb : Str → Option Value} {A : Around} {s : Shared} {Q E : Value → Shared → Prop}
    (G : Gr w mg mb s.heap) (hA : A.handled = none) (hd : A.depth + 6 < recursionLimit)
    (ret : ∀ h' tk', Sub s.heap h' → Q (.ref aEmpty) { s with heap := h', toks := tk' }) : wpAny (model prog w) A (call (.ref fPvector) []) Q E s := by
  refine enter (P := At s.heap) (own := []) [("iterable", .ref 312)] G (fun _ _ h => h) (fun _ h => nomatch h) (by rfl) (by rfl) (by omega) (binds_K G.X rfl (by rfl) rfl (by rfl) (by rfl)) (locs (by rfl)) ?_
  intro L h₁ hL F
  have VE := emptyV G
  obtain ⟨de, re, te, tce, tse, tfe, ase, lse, tle, hve, hVe, _⟩ := id VE
  have hVe1 := hVe.dict
  have ht : s.heap.get? 312 = some { cls := .type "tuple", data := .seq #[] } := G.X 312 _ (by rfl)
  repeat (walk_at "V")
  refine extend0 F.G hA (by show A.depth + 1 + 3 < _; omega) (F.keep _ _ ht) (fun h2 tk2 sb2 => ?_)
  repeat (walk_at "V")
  exact ret h2 _ (fun _ _ q => sb2 _ _ (F.keep _ _ q))
local macro_rules | `(tactic| walk_at "gl") => `(tactic| with_reducible first | exact g_lput _ | exact g_lputp _ | exact g_lpath _ | exact g_lshared _ | exact g_lplain _ | exact g_lgrown _)
abbrev PQ (P0 P' : Nat → Obj → Prop) (N : Nat) : Nat → Obj → Prop := fun a o => P' a o ∧ (P0 a o ∨ N ≤ a)
theorem grownV {w : World} {mg mb : Str → Option Value} : ∀ (d : Nat) (A : Around) (s : Shared) (Q E : Value → Shared → Prop) (twin : Value) (ts : List T) (P0 : Nat → Obj → Prop)
    (G : Gr w mg mb s.heap) (hA : A.handled = none) (hd : A.depth + d + 20 < recursionLimit) (hP0 : ∀ a o, P0 a o → s.heap.get? a = some o) (VE0 : Vec P0 aEmpty []) (R : Rep P0 false d twin (.node ts))
    (ret : ∀ v' h' tk', Sub s.heap h' → Rep (Nw P0 s.heap h') true d (.ref v') (.node ts) → Q (.ref v') { s with heap := h', toks := tk' }),
    wpAny (model prog w) A (call (.ref fGrown) [twin]) Q E s
  | 0 => fun _ _ _ _ _ _ _ G hA hd hP0 VE0 R => by obtain ⟨_, _, e, _⟩ := R; cases e
  | d + 1 => by
    intro A s Q E twin ts P0 G hA hd hP0 VE0 R ret
    have IH := grownV (w := w) (mg := mg) (mb := mb) d
    obtain ⟨d', l, xs, e, rfl, ⟨nx, hx0⟩, hxl, Rs⟩ := R.out
    cases e
    have hx1 : At s.heap l (listObj xs nx) := hP0 _ _ hx0
    refine enter (P := At s.heap) (own := []) [("twin", .ref l)] G (fun _ _ h => h) (fun _ h => nomatch h) (by rfl) (by rfl) (by omega) (BindsTo.of_eq (by rfl)) (locs (by rfl)) ?_
    intro L h₁ hL F
    repeat (walk_at "V")
    refine pvector0 F.G hA (by show A.depth + 1 + 6 < _; omega) (fun h2 tk2 sb2 => ?_)
    have F2 := F.kept sb2
    clear F
    repeat (walk_at "V")
    rename_i h3 F3
    clear F2
    have ex := Rs.1
    refine iterL F3 hA hx1 (fun i P' m' own' => own' = [] ∧ ∃ v ys, m' "grown" = some (.ref v) ∧ Vec (PQ P0 P' s.heap.objs.size) v ys ∧ Reps (PQ P0 P' s.heap.objs.size) true d ys (ts.take i) ∧ (∀ a o, At s.heap a o → P' a o))
      ⟨rfl, aEmpty, [], by walk_at "nm", VE0.mono (fun a o q => ⟨hP0 _ _ q, .inl q⟩), by simpa using Reps.nil, fun _ _ q => q⟩ ?_ ?_
    · rintro E' i x P' m' own' it io h tk' hx hP ⟨rfl, v, ys, m1, V, Ry, mo⟩ ne F4
      obtain ⟨u, hu, Rx⟩ := Rs.get hx
      have hi := (List.getElem?_eq_some_iff.mp hx).1
      have hyl : ys.length = i := by rw [Ry.1, List.length_take]; omega
      have VA : Vec P' v ys := V.mono fun _ _ q => q.1
      obtain ⟨d1, r1, t1, tc, tss, tf, as, ls, tl, hv, hV, _⟩ := id VA
      have hV1 := hV.dict
      have Nle : s.heap.objs.size ≤ h.objs.size := by have := F4.ltL; omega
      have etk : ts.take (i + 1) = ts.take i ++ [u] := by rw [List.take_add_one, hu]; rfl
      repeat (walk_at "V")
      cases u with
      | num k =>
        obtain ⟨tk2, rfl, nz⟩ := Rx.outNum
        refine PySem.IsiPair.int_list ?_
        repeat (walk_at "V")
        refine ite_neg (by decide) ?_
        repeat (walk_at "V")
        refine appendV (P0 := PQ P0 P' s.heap.objs.size) F4.G hA (by show A.depth + 1 + 3 < _; omega) (fun a o q => F4.get q.1) V (by omega) (fun v5 h5 tk5 sb5 V5 => ?_)
        have F5 := F4.nw sb5
        have up : ∀ a o, Nw (PQ P0 P' s.heap.objs.size) h h5 a o → PQ P0 (Nw P' h h5) s.heap.objs.size a o := fun a o q => ⟨⟨q.1, q.2.imp (fun z => z.1) id⟩, q.2.elim (fun z => z.2) fun z => .inr (Nat.le_trans Nle z)⟩
        have mo5 := F4.nwMono sb5
        clear F4
        repeat (walk_at "V")
        rename_i h6 F6
        refine ⟨h6, _, Nw P' h h5, _, [], rfl, F6, by simp, mo5, rfl, v5, _, by walk_at "nm", V5.mono up, ?_, fun _ _ q => mo5 _ _ (mo _ _ q)⟩
        rw [etk]
        exact (Ry.mono fun a o q => ⟨mo5 _ _ q.1, q.2⟩).snoc (Rep.num nz)
      | node us =>
        obtain ⟨_, c, zs, _, rfl, ⟨nc, hc0⟩, _, _⟩ := Rx.out
        have hc1 := mo _ _ (hP0 _ _ hc0)
        refine call_isinstance_yes (Tx := "list") (isList_at (F4.get hc1)).typeIs PySem.F.isi_meta_list AutoSeq1.sub_list_list ?_
        repeat (walk_at "V")
        refine ite_pos (by decide) ?_
        repeat (walk_at "V")
        refine IH _ _ _ _ _ us P0 F4.G hA (by show A.depth + 1 + d + 20 < _; omega) (fun a o q => F4.get (mo _ _ (hP0 _ _ q))) VE0 Rx (fun v4 h4 tk4 sb4 R4 => ?_)
        have F5 := F4.nw sb4
        have mo4 := F4.nwMono sb4
        have Nle4 : s.heap.objs.size ≤ h4.objs.size := by have := F5.ltL; omega
        clear F4
        repeat (walk_at "V")
        refine appendV (P0 := PQ P0 (Nw P' h h4) s.heap.objs.size) F5.G hA (by show A.depth + 1 + 3 < _; omega) (fun a o q => F5.get q.1) (V.mono fun a o q => ⟨mo4 _ _ q.1, q.2⟩) (by omega) (fun v5 h5 tk5 sb5 V5 => ?_)
        have F6 := F5.nw sb5
        have up : ∀ a o, Nw (PQ P0 (Nw P' h h4) s.heap.objs.size) h4 h5 a o → PQ P0 (Nw (Nw P' h h4) h4 h5) s.heap.objs.size a o := fun a o q => ⟨⟨q.1, q.2.imp (fun z => z.1) id⟩, q.2.elim (fun z => z.2) fun z => .inr (Nat.le_trans Nle4 z)⟩
        have mo5 := F5.nwMono sb5
        clear F5
        repeat (walk_at "V")
        rename_i h6 F7
        refine ⟨h6, _, Nw (Nw P' h h4) h4 h5, _, [], rfl, F7, by simp, fun _ _ q => mo5 _ _ (mo4 _ _ q), rfl, v5, _, by walk_at "nm", V5.mono up, ?_, fun _ _ q => mo5 _ _ (mo4 _ _ (mo _ _ q))⟩
        rw [etk]
        exact (Ry.mono fun a o q => ⟨mo5 _ _ (mo4 _ _ q.1), q.2⟩).snoc (R4.mono fun a o q => ⟨mo5 _ _ ⟨q.1, q.2.imp (fun z => mo _ _ (hP0 _ _ z)) id⟩, q.2.imp id fun z => Nat.le_trans Nle z⟩)
    · rintro h7 tk7 P' m' own' F7 hP ⟨rfl, v, ys, m1, V, Ry, mo⟩
      show wpAny _ _ (execs _ _) _ _ _
      repeat (walk_at "V")
      rw [ex, List.take_length] at Ry
      refine ret v h7 _ (fun _ _ q => F7.keep _ _ (mo _ _ q)) (Rep.node (b := true) (V.mono fun a o q => ⟨F7.keep _ _ q.1, q.2⟩) (by rw [Ry.1, ← ex]; exact hxl) (Ry.mono fun a o q => ⟨F7.keep _ _ q.1, q.2⟩))
theorem kind_iter : builtinKind "iter" = none := by decide +kernel
theorem plain_iter : plainId "iter" = true := by decide +kernel
theorem entry_iter : entryFor table "iter" = some Builtin.«iter» := entryFor_of_tree (by kernel_rfl)
theorem args_iter (a : Value) : argsOk "iter" ⟨[a], []⟩ := by unfold argsOk; kernel_rfl
theorem n_iter (P : Params) : nsIn (K P) mainGlobals "iter" = some none := by kernel_rfl!
theorem b_iter : bootBuiltins "iter" = some (.builtin "iter") := by first | exact PyProof.Rows.boot_iter | kernel_rfl!
theorem ki_iter (P : Params) : findIn (K P) (.ref C) "__iter__" = some (some (.ref fIter)) := by kernel_rfl!
theorem ki_iterFn (P : Params) : isFn (K P) (.ref fIter) = true := by kernel_rfl!
section
variable {w : World} {mg mb : Str → Option Value} {A : Around} {E Q : Value → Shared → Prop} {s : Shared}
theorem callIter {l n : Nat} {xs : List Value} (hl : s.heap.get? l = some (listObj xs n)) (h : Q (.ref s.heap.objs.size) { s with heap := s.heap.push { cls := .type "list_iterator", data := .fields #[.ref l, .int 0 0] } }) : wpAny (model prog w) A (call (.builtin "iter") [.ref l]) Q E s := by
  refine call_function_any kind_iter plain_iter entry_iter (args_iter _) ?_
  show wpAny _ _ (pyIter (.ref l) >>= ret) _ _ _
  exact wpAny_bind (wpAny_pyIter_list (isList_at hl) (wpAny_pure h))
end
theorem Fm.inner {w : World} {mg mb : Str → Option Value} {P : Nat → Obj → Prop} {L C' : Nat} {h2 h3 : Heap} {m m' : Str → Option Value} {own : List (Nat × Obj)} {lo fo : Obj} (F : Fm w mg mb P L h2 m own) (hC : C' = (h2.push lo).objs.size) (hns : h3.Ns C' m') (hsb : Heap.SameBut C' ((h2.push lo).push fo) h3) (hlo : lo.isFreed = false) : Fm w mg mb P C' h3 m' ((h2.objs.size, lo) :: own) := by
  have hC' : C' = h2.objs.size + 1 := by rw [hC, Heap.size_push]
  have up : ∀ (b : Nat) o, b < h2.objs.size → h2.get? b = some o → h3.get? b = some o := fun b o l e => (hsb.2 b (by show (b : Nat) ≠ C'; omega)).trans (Heap.get?_push_of_some _ (Heap.get?_push_of_some _ e))
  refine ⟨F.G.sub fun b o e => up b o (ltS e) e, hns, by have := F.G.size; omega, fun a o q => ?_, fun a o q => up _ _ (ltS (F.keep _ _ q)) (F.keep _ _ q), fun p hp => ?_⟩
  · have := ltS (F.keep _ _ q); omega
  · rcases List.mem_cons.mp hp with rfl | hp
    · refine ⟨(hsb.2 _ (by show (h2.objs.size : Nat) ≠ C'; omega)).trans (Heap.get?_push_of_some _ (Heap.get?_push_size _ hlo)), by show (h2.objs.size : Nat) ≠ C'; omega, F.G.size, fun o' q => absurd (ltS (F.keep _ _ q)) (Nat.lt_irrefl _)⟩
    · obtain ⟨a1, a2, a3, a4⟩ := F.own p hp
      have := ltS a1
      exact ⟨up _ _ this a1, by omega, a3, a4⟩
section
variable {w : World} {mg mb : Str → Option Value} {A : Around} {E Q : Value → Shared → Prop} {s : Shared}
theorem iterM {v : Nat} {xs : List Value} (G : Gr w mg mb s.heap) (hA : A.handled = none) (hd : A.depth + 4 < recursionLimit) (V : Vec (At s.heap) v xs) (hz : xs.length < 2 ^ 18)
    (ret : ∀ it D c h' tk', Sub s.heap h' → h'.get? it = some { cls := .type "list_iterator", data := .fields #[.ref D, .int 0 0] } → h'.get? D = some (listObj xs c) → s.heap.objs.size ≤ D → s.heap.objs.size ≤ it → D ≠ it → Q (.ref it) { s with heap := h', toks := tk' }) :
    wpAny (model prog w) A (call (.ref fIter) [.ref v]) Q E s := by
  refine enter (P := At s.heap) (own := []) [("self", .ref v)] G (fun _ _ h => h) (fun _ h => nomatch h) (by rfl) (by rfl) (by omega) (BindsTo.of_eq (by rfl)) (locs (by rfl)) ?_
  intro L h₁ hL F
  obtain ⟨d1, r, t, tc, tss, tf, as, ls, tl, hv, hV, _⟩ := id V
  have hV1 := hV.dict
  repeat (walk_at "V")
  refine nmB F (n_iter _) b_iter (by decide) ?_
  repeat (walk_at "V")
  refine tolistV F.G hA (by show A.depth + 1 + 2 < _; omega) (V.mono F.keep) (by omega) (fun D c h2 tk2 sb2 hD lD => ?_)
  have F2 := F.madeAt sb2 hD lD
  have lF := F.ltL
  have lD' : h₁.objs.size ≤ D := lD
  repeat (walk_at "V")
  refine callIter hD ?_
  repeat (walk_at "V")
  have l2 := ltS hD
  exact ret h2.objs.size D c _ _ (fun b o e => Heap.get?_push_of_some _ (F2.keep _ _ e)) (Heap.get?_push_size _ rfl) (Heap.get?_push_of_some _ hD) (by omega) (by omega) (Nat.ne_of_lt l2)
theorem iterV {P : Nat → Obj → Prop} {L : Nat} {m : Str → Option Value} {own : List (Nat × Obj)} {v : Nat} {xs : List Value} (F : Fm w mg mb P L s.heap m own) (hA : A.handled = none) (hd : A.depth + 4 < recursionLimit) (V : Vec (At s.heap) v xs) (hz : xs.length < 2 ^ 18)
    (ret : ∀ it D c h' tk', Sub s.heap h' → h'.get? it = some { cls := .type "list_iterator", data := .fields #[.ref D, .int 0 0] } → h'.get? D = some (listObj xs c) → s.heap.objs.size ≤ D → s.heap.objs.size ≤ it → D ≠ it → Q (.ref it) { s with heap := h', toks := tk' }) :
    wpAny (model prog w) A (pyIter (.ref v)) Q E s := by
  obtain ⟨o, I⟩ := V.inst
  obtain ⟨h₀, f, X⟩ := F.fr
  refine owit_iter f X I (ki_iter _) (ki_iterFn _) (iterM F.G hA hd V hz (fun it D c h' tk' sb hit hD l1 l2 ne => ?_))
  unfold OwitIt
  exact wpAny_specialOf (T := "list_iterator") ⟨_, hit, rfl⟩ slot_listiter_next.lookup (ret it D c h' tk' sb hit hD l1 l2 ne)
end
local macro_rules | `(tactic| walk_at "gl") => `(tactic| with_reducible first | exact g_lput _ | exact g_lputp _ | exact g_lpath _ | exact g_lshared _ | exact g_lplain _ | exact g_lgrown _)
theorem plainV {w : World} {mg mb : Str → Option Value} : ∀ (d : Nat) (A : Around) (s : Shared) (Q E : Value → Shared → Prop) (tree : Value) (ts : List T) (P0 : Nat → Obj → Prop)
    (G : Gr w mg mb s.heap) (hA : A.handled = none) (hd : A.depth + d + 20 < recursionLimit) (hP0 : ∀ a o, P0 a o → s.heap.get? a = some o) (R : Rep P0 true d tree (.node ts))
    (ret : ∀ D h' tk', Sub s.heap h' → Rep (Nw P0 s.heap h') false d (.ref D) (.node ts) → Q (.ref D) { s with heap := h', toks := tk' }),
    wpAny (model prog w) A (call (.ref fPlain) [tree]) Q E s
  | 0 => fun _ _ _ _ _ _ _ G hA hd hP0 R => by obtain ⟨_, _, e, _⟩ := R; cases e
  | d + 1 => by
    intro A s Q E tree ts P0 G hA hd hP0 R ret
    have IH := plainV (w := w) (mg := mg) (mb := mb) d
    obtain ⟨d', a, xs, e, rfl, B, hxl, Rs⟩ := R.out
    cases e
    have V : Vec P0 a xs := B
    have VA : Vec (At s.heap) a xs := V.mono hP0
    refine enter (P := At s.heap) (own := []) [("tree", .ref a)] G (fun _ _ h => h) (fun _ h => nomatch h) (by rfl) (by rfl) (by omega) (BindsTo.of_eq (by rfl)) (locs (by rfl)) ?_
    intro L h₁ hL F
    obtain ⟨d1, r1, t1, tc, tss, tf, as, ls, tl, hv, hV, _⟩ := id VA
    have hV1 := hV.dict
    repeat (walk_at "V")
    refine wpAny_ListComp (by decide) rfl (by decide) ?_
    repeat (walk_at "V")
    refine iterV F hA (by show A.depth + 1 + 4 < _; omega) (VA.mono F.keep) (by omega) (fun it ax cx h2 tk2 sb2 hit hax lax lit nax => ?_)
    have F2 := F.kept sb2
    have l1 := F.ltL
    have lax' : h₁.objs.size ≤ ax := lax
    have lit' : h₁.objs.size ≤ it := lit
    refine wpAny_newObj_type ?_
    refine wpAny_newFunctionEnv (by decide) (by intro y hy; simp at hy) (fun h3 hns hsb => ?_)
    have F3 := ((F.after (own' := [(ax, listObj xs cx), (it, { cls := .type "list_iterator", data := .fields #[.ref ax, .int 0 0] })]) (fun b o _ e => sb2 b o e) (after1 ⟨hax, .inr lax⟩ (after1 ⟨hit, .inr lit⟩ after0))).freeze (apart1 (Ne.symm nax) apart0)).inner (lo := listObj [] 0) rfl hns hsb rfl
    have pax : Add (At s.heap) ax (listObj xs cx) ax (listObj xs cx) := .inr ⟨rfl, rfl⟩
    have mo : ∀ a o, At s.heap a o → Add (At s.heap) ax (listObj xs cx) a o := fun _ _ q => .inl q
    have lits := ltS hit
    have hNs : s.heap.objs.size ≤ h2.objs.size := by have := F2.ltL; omega
    generalize hP3 : Add (At s.heap) ax (listObj xs cx) = P3 at F3 pax mo
    have hC' : (h2.push (listObj [] 0)).objs.size = h2.objs.size + 1 := Heap.size_push _ _
    dsimp only at F3 ⊢
    generalize hH2 : (h2.push (listObj [] 0)).objs.size = C' at F3 hC' ⊢
    generalize hDD : h2.objs.size = D at F3 hNs hC' lits ⊢
    have lit3 := F3.ownAt (.tail _ (.head _))
    refine codeAny_compStart_list ?l (wpAny_pyIter_listiter (l := ax) (i := 0) ⟨_, lit3, rfl, rfl⟩ ?l)
    have ex := Rs.1
    refine codeAny_compLoop_tests (fun k s' => ∃ h tk m' ys c io i P', s' = { s with heap := h, toks := tk } ∧ Fm w mg mb P' C' h m' [(D, listObj ys c), (it, io)] ∧ h.IsListIter it ax i ∧ Reps (PQ P0 P' s.heap.objs.size) false d ys (ts.take i) ∧ (∀ a o, P3 a o → P' a o) ∧ i ≤ xs.length ∧ k = xs.length + 1 - i) ?_ (xs.length + 1)
      ⟨h3, _, _, [], 0, _, 0, P3, rfl, F3, ⟨_, lit3, rfl, rfl⟩, by simpa using Reps.nil, fun _ _ q => q, Nat.zero_le _, rfl⟩
    rintro k s' ⟨h, tk, m', ys, c, io, i, P', rfl, F4, hI, Ry, hP, hi, rfl⟩
    have hl1 := isList_at (F4.get (hP _ _ pax))
    have nDi : D ≠ it := by have l : (it : Nat) < D := lits; omega
    cases hvx : xs[i]? with
    | none =>
      have hsz : i = xs.length := Nat.le_antisymm hi (by simpa using hvx)
      refine wpAny_pyNext_list_end hA hI hl1 (by simpa using hvx) fun h5 he5 => ?_
      have F5 := F4.after (own' := [(D, listObj ys c)]) (fun b o hb e => he5 b o (fun q => hb (by simp [q])) e) (after1 ⟨he5 _ _ nDi (F4.ownAt (.head _)), .inl (by walk_at "mem")⟩ after0)
      refine ⟨_, F5.ns, fun h6 hs6 => ?_⟩
      have up6 : ∀ a o, P' a o → h6.get? a = some o := fun a o q => (hs6.2 a (F5.off a o q)).trans (F5.get q)
      have hD6 : h6.get? D = some (listObj ys c) := (hs6.2 D (by show (D : Nat) ≠ C'; omega)).trans (F5.ownAt (.head _))
      rw [hsz, ex, List.take_length] at Ry
      exact ret D h6 _ (fun a o q => up6 _ _ (hP _ _ (mo _ _ q))) (Rep.node (b := false) ⟨c, hD6, .inr hNs⟩ (by rw [Ry.1, ← ex]; exact hxl) (Ry.mono fun a o q => ⟨up6 _ _ q.1, q.2⟩))
    | some x =>
      have hlt : i < xs.length := (List.getElem?_eq_some_iff.mp hvx).1
      refine wpAny_pyNext_list_item hI hl1 (by simpa using hvx) fun h5 hI5 hs5 => ?_
      obtain ⟨io5, hio5, hc5, hd5⟩ := id hI5
      have F5 := (F4.swap.turn hs5 hio5 (apart1 nDi apart0)).swap
      refine wpAny_assign_Name (stL F5 (fun h6 F6 => ?_))
      show wpAny _ _ (pure true) _ _ _
      refine wpAny_pure ?_
      rw [if_pos rfl]
      obtain ⟨u, hu, Rx⟩ := Rs.get hvx
      have etk : ts.take (i + 1) = ts.take i ++ [u] := by rw [List.take_add_one, hu]; rfl
      have mo3 : ∀ a o, At s.heap a o → P' a o := fun a o q => hP _ _ (mo _ _ q)
      cases u with
      | num k =>
        obtain ⟨tk2, rfl, nz⟩ := Rx.outNum
        repeat (walk_at "V")
        refine ite_neg (by decide) ?_
        repeat (walk_at "V")
        refine appendL F6 (apart1 (Ne.symm nDi) apart0) (by rw [Ry.1, List.length_take]; omega) (fun c8 h8 F8 => ?_)
        exact ⟨xs.length + 1 - (i + 1), by omega, h8, _, _, _, c8, io5, i + 1, P', rfl, F8, ⟨io5, F8.ownAt (.tail _ (.head _)), hc5, hd5⟩, by rw [etk]; exact Ry.snoc (Rep.num nz), hP, hlt, rfl⟩
      | node us =>
        obtain ⟨_, ac, zs, _, rfl, Bc, _, _⟩ := Rx.out
        have Vc : Vec P' ac zs := Vec.mono (fun a o q => mo3 _ _ (hP0 _ _ q)) Bc
        obtain ⟨d2, r2, t2, tc2, tss2, tf2, as2, ls2, tl2, hv2, hV2, _⟩ := id Vc
        repeat (walk_at "V")
        refine ite_pos (by decide) ?_
        repeat (walk_at "V")
        refine IH _ _ _ _ _ us P0 F6.G hA (by show A.depth + 1 + d + 20 < _; omega) (fun a o q => F6.get (mo3 _ _ (hP0 _ _ q))) Rx (fun v4 h4 tk4 sb4 R4 => ?_)
        have F7 := F6.nw sb4
        have mo4 := F6.nwMono sb4
        have Nle : s.heap.objs.size ≤ h6.objs.size := by have := F6.ltL; omega
        repeat (walk_at "V")
        refine appendL F7 (apart1 (Ne.symm nDi) apart0) (by rw [Ry.1, List.length_take]; omega) (fun c8 h8 F8 => ?_)
        refine ⟨xs.length + 1 - (i + 1), by omega, h8, _, _, _, c8, io5, i + 1, Nw P' h6 h4, rfl, F8, ⟨io5, F8.ownAt (.tail _ (.head _)), hc5, hd5⟩, ?_, fun a o q => mo4 _ _ (hP _ _ q), hlt, rfl⟩
        rw [etk]
        exact (Ry.mono fun a o q => ⟨mo4 _ _ q.1, q.2⟩).snoc (R4.mono fun a o q => ⟨⟨q.1, q.2.imp (fun z => mo3 _ _ (hP0 _ _ z)) id⟩, q.2.imp id fun z => Nat.le_trans Nle z⟩)
theorem popL {w : World} {mg mb : Str → Option Value} {P : Nat → Obj → Prop} {L l n : Nat} {m : Str → Option Value} {own : List (Nat × Obj)} {A : Around} {E Q : Value → Shared → Prop} {s : Shared} {xs : List Value} {x : Value}
    (F : Fm w mg mb P L s.heap m ((l, listObj (xs ++ [x]) n) :: own)) (hne : ∀ p ∈ own, p.1 ≠ l) (hz : xs.length < 2 ^ 20)
    (h : ∀ c h', Fm w mg mb P L h' m ((l, listObj xs c) :: own) → Q x { s with heap := h' }) : wpAny (model prog w) A (call (.builtin "list.pop") [.ref l]) Q E s := by
  have z := F.own _ (.head _)
  have hk : (xs ++ [x]).toArray.size - 1 = xs.length := by simp
  have hy : (xs ++ [x]).toArray[(xs ++ [x]).toArray.size - 1]? = some x := by rw [hk]; simp
  refine call_meets PySem.F.slot_list_pop ⟨_, z.1, rfl⟩ PySem.F.entry_list_pop (PySem.F.args_list_pop_1 _) (PySem.MeetsSeq.list_pop_last l _ n x hy (by rw [sizeLine_eq]; simp; omega)) ⟨z.1, ?_⟩
  have e1 : Obj.mapSeq (fun xs' => xs'.eraseIdxIfInBounds ((xs ++ [x]).toArray.size - 1)) (listObj (xs ++ [x]) n) = listObj xs (n + 1) := by
    rw [hk]
    have e : (xs.length == (xs ++ [x]).toArray.size) = false := by simp
    have e2 : (xs ++ [x]).eraseIdx xs.length = xs := by rw [List.eraseIdx_append_of_length_le (Nat.le_refl _)]; simp
    simp [Obj.mapSeq, Array.eraseIdxIfInBounds, e2]
  have hc := (Heap.get?_update_self (fun o => Obj.mapSeq (fun xs' => xs'.eraseIdxIfInBounds ((xs ++ [x]).toArray.size - 1)) o) z.1 (by dsimp only; rw [e1]; rfl)).trans (congrArg some e1)
  exact h _ _ (F.turn (Heap.SameBut.update ..) hc hne)
abbrev envL (L fa : Nat) (cd : Value) : Env := envOfC lawRec.name lawRec.scope L fa cd
abbrev AL (L fa : Nat) (cd : Value) : Around := callerA.deeper (envL L fa cd)
theorem depAL (L fa : Nat) (cd : Value) : (AL L fa cd).depth + 300 < recursionLimit := of_decide_eq_true (by with_unfolding_all rfl)
theorem unAL (L fa : Nat) (cd : Value) : (AL L fa cd).units + 600 < cLine := of_decide_eq_true (by with_unfolding_all rfl)
/-- no address twice -/
def Apt (own : List (Nat × Obj)) : Prop := (own.map (·.1)).Nodup
section
variable {own own' : List (Nat × Obj)} {a : Nat} {o o' : Obj}
theorem Apt.h (N : Apt ((a, o) :: own)) : ∀ p ∈ own, p.1 ≠ a := fun p hp e => (List.nodup_cons.mp N).1 (List.mem_map.mpr ⟨p, hp, e⟩)
theorem Apt.t {x : Nat × Obj} (N : Apt (x :: own)) : Apt own := (List.nodup_cons.mp N).2
theorem Apt.c (N : Apt own) (h : ∀ p ∈ own, p.1 ≠ a) : Apt ((a, o) :: own) := List.nodup_cons.mpr ⟨fun q => by obtain ⟨p, hp, e⟩ := List.mem_map.mp q; exact h p hp e, N⟩
theorem Apt.turn (N : Apt ((a, o) :: own)) : Apt ((a, o') :: own) := N.t.c N.h
theorem Apt.pm (N : Apt own) (p : own'.Perm own) : Apt own' := ((p.map _).nodup_iff).mpr N
theorem Apt.nil : Apt [] := List.nodup_nil
end
theorem Fm.pm {w : World} {mg mb : Str → Option Value} {P : Nat → Obj → Prop} {L : Nat} {h : Heap} {m : Str → Option Value} {own own' : List (Nat × Obj)} (F : Fm w mg mb P L h m own) (p : own'.Perm own) : Fm w mg mb P L h m own' := F.drop fun q hq => p.mem_iff.mp hq
section
variable {α : Type} {a x y z u : α} {r : List α}
theorem pu1 : (a :: x :: r).Perm (x :: a :: r) := List.Perm.swap ..
theorem pu2 : (a :: x :: y :: r).Perm (x :: y :: a :: r) := (List.perm_middle (l₁ := [x, y])).symm
theorem pu3 : (a :: x :: y :: z :: r).Perm (x :: y :: z :: a :: r) := (List.perm_middle (l₁ := [x, y, z])).symm
theorem pu4 : (a :: x :: y :: z :: u :: r).Perm (x :: y :: z :: u :: a :: r) := (List.perm_middle (l₁ := [x, y, z, u])).symm
end
/-- one open row: the list that grows to a vector, its twin, what they tell -/
structure Op where
  t : Nat
  xs : List Value
  ct : Nat
  w : Nat
  ys : List Value
  cw : Nat
  us : List T
def ownOf (X : List (Nat × Obj)) : List Op → List (Nat × Obj)
  | [] => X
  | o :: r => (o.t, listObj o.xs o.ct) :: (o.w, listObj o.ys o.cw) :: ownOf X r
theorem ownOf_perm (x : Nat × Obj) : ∀ st : List Op, (ownOf [x] st).Perm (x :: ownOf [] st)
  | [] => List.Perm.refl _
  | o :: r => (((ownOf_perm x r).cons _).cons _).trans ((List.perm_middle (l₁ := [(o.t, listObj o.xs o.ct), (o.w, listObj o.ys o.cw)])))
abbrev rT (st : List Op) : List Value := st.reverse.map fun o => .ref o.t
abbrev rW (st : List Op) : List Value := st.reverse.map fun o => .ref o.w
theorem rT_cons (o : Op) (r : List Op) : rT (o :: r) = rT r ++ [.ref o.t] := by simp [rT]
theorem rW_cons (o : Op) (r : List Op) : rW (o :: r) = rW r ++ [.ref o.w] := by simp [rW]
theorem rT_len (r : List Op) : (rT r).length = r.length := by simp [rT]
theorem rW_len (r : List Op) : (rW r).length = r.length := by simp [rW]
def Good (P : Nat → Obj → Prop) (B : Nat) : List Op → Prop
  | [] => True
  | o :: r => Reps P true (6 - r.length) o.xs o.us ∧ Reps P false (6 - r.length) o.ys o.us ∧ o.us.length ≤ B ∧ (r = [] → 1 ≤ o.us.length) ∧ Good P B r
theorem Good.mono {P P' : Nat → Obj → Prop} {B B' : Nat} (k : ∀ a o, P a o → P' a o) (hB : B ≤ B') : ∀ {st : List Op}, Good P B st → Good P' B' st
  | [], _ => trivial
  | _ :: _, ⟨a, b, c, d, e⟩ => ⟨a.mono k, b.mono k, Nat.le_trans c hB, d, e.mono k hB⟩
/-- the two stacks -/
structure SJ (X : List (Nat × Obj)) (P : Nat → Obj → Prop) (m : Str → Option Value) (own : List (Nat × Obj)) (B : Nat) (cells : Value) (st : List Op) (aT aW cT cW : Nat) : Prop where
  e : own = (aT, listObj (rT st) cT) :: (aW, listObj (rW st) cW) :: ownOf X st
  n : Apt own
  mT : m "trees" = some (.ref aT)
  mW : m "twins" = some (.ref aW)
  mC : m "cells" = some cells
  g : Good P B st
  lo : 1 ≤ st.length
  hi : st.length ≤ 7
theorem SJ.inn {P : Nat → Obj → Prop} {m : Str → Option Value} {own : List (Nat × Obj)} {B : Nat} {cells : Value} {st : List Op} {aT aW cT cW : Nat} {x : Nat × Obj} (J : SJ [] P m own B cells st aT aW cT cW) (n : ∀ p ∈ own, p.1 ≠ x.1) :
    ∃ own', SJ [x] P m own' B cells st aT aW cT cW ∧ own'.Perm (x :: own) := by
  obtain ⟨rfl, N, a1, a2, a3, a4, a5, a6⟩ := J
  have p : ((aT, listObj (rT st) cT) :: (aW, listObj (rW st) cW) :: ownOf [x] st).Perm (x :: (aT, listObj (rT st) cT) :: (aW, listObj (rW st) cW) :: ownOf [] st) := (((ownOf_perm x st).cons _).cons _).trans (List.perm_middle (l₁ := [(aT, listObj (rT st) cT), (aW, listObj (rW st) cW)]))
  exact ⟨_, ⟨rfl, (N.c (o := x.2) n).pm p, a1, a2, a3, a4, a5, a6⟩, p⟩
theorem SJ.out {P : Nat → Obj → Prop} {m : Str → Option Value} {own : List (Nat × Obj)} {B : Nat} {cells : Value} {st : List Op} {aT aW cT cW : Nat} {x : Nat × Obj} (J : SJ [x] P m own B cells st aT aW cT cW) :
    ∃ own', SJ [] P m own' B cells st aT aW cT cW ∧ (x :: own').Perm own ∧ ∀ p ∈ own', p.1 ≠ x.1 := by
  obtain ⟨rfl, N, a1, a2, a3, a4, a5, a6⟩ := J
  have p : ((aT, listObj (rT st) cT) :: (aW, listObj (rW st) cW) :: ownOf [x] st).Perm (x :: (aT, listObj (rT st) cT) :: (aW, listObj (rW st) cW) :: ownOf [] st) := (((ownOf_perm x st).cons _).cons _).trans (List.perm_middle (l₁ := [(aT, listObj (rT st) cT), (aW, listObj (rW st) cW)]))
  have N' : Apt ((x.1, x.2) :: _) := N.pm p.symm
  exact ⟨_, ⟨rfl, N'.t, a1, a2, a3, a4, a5, a6⟩, p.symm, N'.h⟩
theorem last_get {xs : List Value} {x : Value} : (xs ++ [x])[(if (-1 : Int) < 0 then (-1 : Int) + ((xs ++ [x]).length : Nat) else -1).toNat]? = some x := by
  have e : (if (-1 : Int) < 0 then (-1 : Int) + ((xs ++ [x]).length : Nat) else -1).toNat = xs.length := by
    rw [if_pos (by decide)]; simp; omega
  rw [e]; simp
def b1 : List Stmt := match lawRec.body with
  | _ :: _ :: _ :: .For _ _ b _ _ :: _ => b
  | _ => []
def b1s : List Stmt := match b1 with
  | [_, .If _ _ [.If _ _ [.For _ _ b _ _] _] _] => b
  | _ => []
local macro_rules | `(tactic| walk_at "gl") => `(tactic| with_reducible first | exact g_lput _ | exact g_lputp _ | exact g_lpath _ | exact g_lshared _ | exact g_lplain _ | exact g_lgrown _)
local macro_rules | `(tactic| walk_at "L") => `(tactic| first
  | ((with_reducible show wpAny _ _ (eval (Expr.Subscript _ (Expr.Slice _ _ none _) _) _) _ _ _); refine subSliceL ?_)
  | with_reducible refine mod_int (by first | decide | omega) ?_
  | ((with_reducible show wpAny _ _ (binaryOp Operator.FloorDiv _ _) _ _ _); refine floordiv_int (by decide) ?_ (.inl (PyProof.noPylong_small (by decide))))
  | ((with_reducible show wpAny _ _ (getMethod (Value.ref _) (Str.ofString "pop") _) _ _ _); refine gm_list (by walk_at "obj") PySem.F.slot_list_pop PySem.F.type_list_pop ?_)
  | walk_at "V")
theorem stepT {w : World} {mg mb : Str → Option Value} {s : Shared} {L fa : Nat} {cd : Value} {P : Nat → Obj → Prop} {m : Str → Option Value} {own X : List (Nat × Obj)} {it2 : Nat} {io2 : Obj} {B : Nat} {cells : Value} {st : List Op} {aT aW cT cW : Nat} {nb ns : Int} {tn tns : Tok} {E : Value → Shared → Prop}
    (F : Fm w mg mb P L s.heap m ((it2, io2) :: own)) (ni : ∀ p ∈ own, p.1 ≠ it2) (J : SJ X P m own B cells st aT aW cT cW) (hB : B < 800) (h1 : m "number" = some (.int nb tn)) (h2 : m "step" = some (.int ns tns)) {Q : Flow → Shared → Prop}
    (ret : ∀ h' tk' own' st' cT' cW', Fm w mg mb P L h' m ((it2, io2) :: own') → (∀ p ∈ own', p.1 ≠ it2) → SJ X P m own' (B + 1) cells st' aT aW cT' cW' → Q .next { s with heap := h', toks := tk' }) :
    wpAny (model prog w) (AL L fa cd) (execs b1s (envL L fa cd)) Q E s := by
  obtain ⟨rfl, N, mT, mW, mC, g, lo, hi⟩ := J
  change wpAny _ _ (execs (List.cons _ _) _) _ _ _
  obtain _ | ⟨o, r⟩ := st
  · simp at lo
  obtain ⟨t, xs, ct, w', ys, cw, us⟩ := o
  obtain ⟨r1, r2, hb, ne, gr⟩ := g
  dsimp only at r1 r2 hb ne
  rw [rT_cons, rW_cons] at F N
  have F : Fm w mg mb P L s.heap m ((it2, io2) :: (aT, listObj (rT r ++ [.ref t]) cT) :: (aW, listObj (rW r ++ [.ref w']) cW) :: (t, listObj xs ct) :: (w', listObj ys cw) :: ownOf X r) := F
  have N : Apt ((it2, io2) :: (aT, listObj (rT r ++ [.ref t]) cT) :: (aW, listObj (rW r ++ [.ref w']) cW) :: (t, listObj xs ct) :: (w', listObj ys cw) :: ownOf X r) := Apt.c N (by have := ni; rw [rT_cons, rW_cons] at this; exact this)
  have lT := rT_len r
  have lW := rW_len r
  have hr : r.length ≤ 6 := by simpa using hi
  have hxl := r1.1
  have hyl := r2.1
  repeat (walk_at "L")
  refine itemLI (F.ownAt (.tail _ (.head _))) (by simp; omega) (by simp; omega) (by omega) last_get ?_
  repeat (walk_at "L")
  refine appendL (F.pm pu3) (N.pm pu3).h (by omega) (fun c3 h3 F3 => ?_)
  have N3 := (N.pm pu3).turn (o' := listObj (xs ++ [.int (nb + ns) (s.toks + 1 + 1)]) c3)
  clear F
  repeat (walk_at "L")
  refine itemLI (F3.ownAt (.tail _ (.tail _ (.tail _ (.head _))))) (by simp; omega) (by simp; omega) (by omega) last_get ?_
  repeat (walk_at "L")
  refine appendL (F3.pm pu4) (N3.pm pu4).h (by omega) (fun c4 h4 F4 => ?_)
  have N4 := (N3.pm pu4).turn (o' := listObj (ys ++ [.int (nb + ns) (s.toks + 1 + 1 + 1 + 1 + 1)]) c4)
  clear F3
  repeat (walk_at "L")
  have F5 := (((F4.pm pu1).pm pu4).pm pu4).pm pu4
  have N5 := (((N4.pm pu1).pm pu4).pm pu4).pm pu4
  refine ret h4 _ _ (⟨t, xs ++ [.int (nb + ns) (s.toks + 1 + 1)], c3, w', ys ++ [.int (nb + ns) (s.toks + 1 + 1 + 1 + 1 + 1)], c4, us ++ [.num (nb + ns)]⟩ :: r) cT cW F5 N5.h ⟨?_, N5.t, mT, mW, mC, ⟨r1.snoc (Rep.num (Nat.succ_ne_zero _)), r2.snoc (Rep.num (Nat.succ_ne_zero _)), by simp; omega, fun _ => by simp, gr.mono (fun _ _ q => q) (by omega)⟩, by simp, by simpa using hr⟩
  rw [rT_cons, rW_cons]
  rfl
def bA : List Stmt := match b1 with
  | [_, .If _ _ [.If _ [.If _ b _ _] _ _] _] => b
  | _ => []
def bB : List Stmt := match lawRec.body with
  | _ :: _ :: _ :: _ :: .While _ b _ _ :: _ => b
  | _ => []
theorem closeT_bA {w : World} {mg mb : Str → Option Value} {s : Shared} {L fa : Nat} {cd : Value} {P : Nat → Obj → Prop} {m : Str → Option Value} {own X : List (Nat × Obj)} {B : Nat} {cells : Value} {st : List Op} {aT aW cT cW : Nat} {E : Value → Shared → Prop}
    (F : Fm w mg mb P L s.heap m own) (VE : Vec P aEmpty []) (J : SJ X P m own B cells st aT aW cT cW) (hB : B < 800) (h2 : 2 ≤ st.length) {Q : Flow → Shared → Prop}
    (ret : ∀ P' m' h' tk' own' st' cT' cW', Fm w mg mb P' L h' m' own' → (∀ a o, P a o → P' a o) → SJ X P' m' own' (B + 1) cells st' aT aW cT' cW' → st'.length + 1 = st.length → Q .next { s with heap := h', toks := tk' }) :
    wpAny (model prog w) (AL L fa cd) (execs bA (envL L fa cd)) Q E s := by
  change wpAny _ _ (execs (List.cons _ _) _) _ _ _
  obtain ⟨rfl, N, mT, mW, mC, g, lo, hi⟩ := J
  obtain _ | ⟨o, _ | ⟨o2, r⟩⟩ := st
  · simp at lo
  · simp at h2
  obtain ⟨t, xs, ct, w', ys, cw, us⟩ := o
  obtain ⟨t2, xs2, ct2, w2, ys2, cw2, us2⟩ := o2
  obtain ⟨r1, r2, hb, ne, r3, r4, hb2, ne2, gr⟩ := g
  dsimp only at r1 r2 hb ne r3 r4 hb2 ne2
  rw [rT_cons, rT_cons, rW_cons, rW_cons] at F N
  have F : Fm w mg mb P L s.heap m ((aT, listObj (rT r ++ [.ref t2] ++ [.ref t]) cT) :: (aW, listObj (rW r ++ [.ref w2] ++ [.ref w']) cW) :: (t, listObj xs ct) :: (w', listObj ys cw) :: (t2, listObj xs2 ct2) :: (w2, listObj ys2 cw2) :: ownOf X r) := F
  have N : Apt ((aT, listObj (rT r ++ [.ref t2] ++ [.ref t]) cT) :: (aW, listObj (rW r ++ [.ref w2] ++ [.ref w']) cW) :: (t, listObj xs ct) :: (w', listObj ys cw) :: (t2, listObj xs2 ct2) :: (w2, listObj ys2 cw2) :: ownOf X r) := N
  have lT := rT_len r
  have lW := rW_len r
  have hr : r.length ≤ 5 := by simp at hi; omega
  have hxl := r1.1
  have hyl := r2.1
  have hxl2 := r3.1
  have hyl2 := r4.1
  repeat (walk_at "L")
  refine popL F N.h (by simp; omega) (fun c3 h3 F3 => ?_)
  have N3 := N.turn (o' := listObj (rT r ++ [.ref t2]) c3)
  clear F
  repeat (walk_at "L")
  refine pvectorV F3.G rfl (by have := depAL L fa cd; omega) F3.keep VE (F3.ownAt (.tail _ (.tail _ (.head _)))) (by omega) (fun v4 h4 tk4 sb4 V4 => ?_)
  have F4 := ((F3.nw sb4).pm pu2).tl
  have mo4 := F3.nwMono sb4
  have N4 := (N3.pm pu2).t
  clear F3
  repeat (walk_at "L")
  rename_i h5 F5
  clear F4
  refine popL (F5.pm pu1) (N4.pm pu1).h (by simp; omega) (fun c6 h6 F6 => ?_)
  have N6 := (N4.pm pu1).turn (o' := listObj (rW r ++ [.ref w2]) c6)
  clear F5
  have F7 := (F6.pm pu2).freeze (N6.pm pu2).h
  have N7 := (N6.pm pu2).t
  clear F6
  repeat (walk_at "L")
  rename_i h8 F8
  clear F7
  refine itemLI (F8.ownAt (.tail _ (.head _))) (by simp; omega) (by simp; omega) (by omega) last_get ?_
  repeat (walk_at "L")
  refine appendL (F8.pm pu2) (N7.pm pu2).h (by omega) (fun c9 h9 F9 => ?_)
  have N9 := (N7.pm pu2).turn (o' := listObj (xs2 ++ [.ref v4]) c9)
  clear F8
  repeat (walk_at "L")
  refine itemLI (F9.ownAt (.tail _ (.head _))) (by simp; omega) (by simp; omega) (by omega) last_get ?_
  repeat (walk_at "L")
  refine appendL (F9.pm pu3) (N9.pm pu3).h (by omega) (fun c10 h10 F10 => ?_)
  have N10 := (N9.pm pu3).turn (o' := listObj (ys2 ++ [.ref w']) c10)
  clear F9
  repeat (walk_at "L")
  have F11 := ((F10.pm pu1).pm pu2).pm pu3
  have N11 := ((N10.pm pu1).pm pu2).pm pu3
  have ed : 6 - (r.length + 1) + 1 = 6 - r.length := by omega
  refine ret _ _ h10 _ _ (⟨t2, xs2 ++ [.ref v4], c9, w2, ys2 ++ [.ref w'], c10, us2 ++ [.node us]⟩ :: r) c3 c6 F11 (fun a o q => .inl (mo4 _ _ q)) ⟨?_, N11, by walk_at "nm", by walk_at "nm", by walk_at "nm", ⟨(r3.mono fun a o q => .inl (mo4 _ _ q)).snoc ?_, (r4.mono fun a o q => .inl (mo4 _ _ q)).snoc ?_, by simp; omega, fun _ => by simp, gr.mono (fun a o q => .inl (mo4 _ _ q)) (by omega)⟩, by simp, by simp; omega⟩ (by simp)
  · rw [rT_cons, rW_cons]
    rfl
  · rw [← ed]
    exact Rep.node (b := true) (V4.mono fun _ _ q => .inl q) (by omega) (r1.mono fun a o q => .inl (mo4 _ _ q))
  · rw [← ed]
    exact Rep.node (b := false) ⟨cw, .inr ⟨rfl, rfl⟩⟩ (by omega) (r2.mono fun a o q => .inl (mo4 _ _ q))
theorem closeT_bB {w : World} {mg mb : Str → Option Value} {s : Shared} {L fa : Nat} {cd : Value} {P : Nat → Obj → Prop} {m : Str → Option Value} {own X : List (Nat × Obj)} {B : Nat} {cells : Value} {st : List Op} {aT aW cT cW : Nat} {E : Value → Shared → Prop}
    (F : Fm w mg mb P L s.heap m own) (VE : Vec P aEmpty []) (J : SJ X P m own B cells st aT aW cT cW) (hB : B < 800) (h2 : 2 ≤ st.length) {Q : Flow → Shared → Prop}
    (ret : ∀ P' m' h' tk' own' st' cT' cW', Fm w mg mb P' L h' m' own' → (∀ a o, P a o → P' a o) → SJ X P' m' own' (B + 1) cells st' aT aW cT' cW' → st'.length + 1 = st.length → Q .next { s with heap := h', toks := tk' }) :
    wpAny (model prog w) (AL L fa cd) (execs bB (envL L fa cd)) Q E s := by
  change wpAny _ _ (execs (List.cons _ _) _) _ _ _
  obtain ⟨rfl, N, mT, mW, mC, g, lo, hi⟩ := J
  obtain _ | ⟨o, _ | ⟨o2, r⟩⟩ := st
  · simp at lo
  · simp at h2
  obtain ⟨t, xs, ct, w', ys, cw, us⟩ := o
  obtain ⟨t2, xs2, ct2, w2, ys2, cw2, us2⟩ := o2
  obtain ⟨r1, r2, hb, ne, r3, r4, hb2, ne2, gr⟩ := g
  dsimp only at r1 r2 hb ne r3 r4 hb2 ne2
  rw [rT_cons, rT_cons, rW_cons, rW_cons] at F N
  have F : Fm w mg mb P L s.heap m ((aT, listObj (rT r ++ [.ref t2] ++ [.ref t]) cT) :: (aW, listObj (rW r ++ [.ref w2] ++ [.ref w']) cW) :: (t, listObj xs ct) :: (w', listObj ys cw) :: (t2, listObj xs2 ct2) :: (w2, listObj ys2 cw2) :: ownOf X r) := F
  have N : Apt ((aT, listObj (rT r ++ [.ref t2] ++ [.ref t]) cT) :: (aW, listObj (rW r ++ [.ref w2] ++ [.ref w']) cW) :: (t, listObj xs ct) :: (w', listObj ys cw) :: (t2, listObj xs2 ct2) :: (w2, listObj ys2 cw2) :: ownOf X r) := N
  have lT := rT_len r
  have lW := rW_len r
  have hr : r.length ≤ 5 := by simp at hi; omega
  have hxl := r1.1
  have hyl := r2.1
  have hxl2 := r3.1
  have hyl2 := r4.1
  repeat (walk_at "L")
  refine popL F N.h (by simp; omega) (fun c3 h3 F3 => ?_)
  have N3 := N.turn (o' := listObj (rT r ++ [.ref t2]) c3)
  clear F
  repeat (walk_at "L")
  refine pvectorV F3.G rfl (by have := depAL L fa cd; omega) F3.keep VE (F3.ownAt (.tail _ (.tail _ (.head _)))) (by omega) (fun v4 h4 tk4 sb4 V4 => ?_)
  have F4 := ((F3.nw sb4).pm pu2).tl
  have mo4 := F3.nwMono sb4
  have N4 := (N3.pm pu2).t
  clear F3
  repeat (walk_at "L")
  rename_i h5 F5
  clear F4
  refine popL (F5.pm pu1) (N4.pm pu1).h (by simp; omega) (fun c6 h6 F6 => ?_)
  have N6 := (N4.pm pu1).turn (o' := listObj (rW r ++ [.ref w2]) c6)
  clear F5
  have F7 := (F6.pm pu2).freeze (N6.pm pu2).h
  have N7 := (N6.pm pu2).t
  clear F6
  repeat (walk_at "L")
  rename_i h8 F8
  clear F7
  refine itemLI (F8.ownAt (.tail _ (.head _))) (by simp; omega) (by simp; omega) (by omega) last_get ?_
  repeat (walk_at "L")
  refine appendL (F8.pm pu2) (N7.pm pu2).h (by omega) (fun c9 h9 F9 => ?_)
  have N9 := (N7.pm pu2).turn (o' := listObj (xs2 ++ [.ref v4]) c9)
  clear F8
  repeat (walk_at "L")
  refine itemLI (F9.ownAt (.tail _ (.head _))) (by simp; omega) (by simp; omega) (by omega) last_get ?_
  repeat (walk_at "L")
  refine appendL (F9.pm pu3) (N9.pm pu3).h (by omega) (fun c10 h10 F10 => ?_)
  have N10 := (N9.pm pu3).turn (o' := listObj (ys2 ++ [.ref w']) c10)
  clear F9
  repeat (walk_at "L")
  have F11 := ((F10.pm pu1).pm pu2).pm pu3
  have N11 := ((N10.pm pu1).pm pu2).pm pu3
  have ed : 6 - (r.length + 1) + 1 = 6 - r.length := by omega
  refine ret _ _ h10 _ _ (⟨t2, xs2 ++ [.ref v4], c9, w2, ys2 ++ [.ref w'], c10, us2 ++ [.node us]⟩ :: r) c3 c6 F11 (fun a o q => .inl (mo4 _ _ q)) ⟨?_, N11, by walk_at "nm", by walk_at "nm", by walk_at "nm", ⟨(r3.mono fun a o q => .inl (mo4 _ _ q)).snoc ?_, (r4.mono fun a o q => .inl (mo4 _ _ q)).snoc ?_, by simp; omega, fun _ => by simp, gr.mono (fun a o q => .inl (mo4 _ _ q)) (by omega)⟩, by simp, by simp; omega⟩ (by simp)
  · rw [rT_cons, rW_cons]
    rfl
  · rw [← ed]
    exact Rep.node (b := true) (V4.mono fun _ _ q => .inl q) (by omega) (r1.mono fun a o q => .inl (mo4 _ _ q))
  · rw [← ed]
    exact Rep.node (b := false) ⟨cw, .inr ⟨rfl, rfl⟩⟩ (by omega) (r2.mono fun a o q => .inl (mo4 _ _ q))
theorem fmod_lo (a : Int) {n : Int} (h : 0 < n) : 0 ≤ a.fmod n := by rw [Int.fmod_eq_emod_of_nonneg _ (by omega)]; exact Int.emod_nonneg _ (by omega)
theorem fmod_hi (a : Int) {n : Int} (h : 0 < n) : a.fmod n < n := by rw [Int.fmod_eq_emod_of_nonneg _ (by omega)]; exact Int.emod_lt_of_pos _ h
theorem SJ.nm {X : List (Nat × Obj)} {P : Nat → Obj → Prop} {m m' : Str → Option Value} {own : List (Nat × Obj)} {B B' : Nat} {cells : Value} {st : List Op} {aT aW cT cW : Nat} (J : SJ X P m own B cells st aT aW cT cW) (a1 : m' "trees" = m "trees") (a2 : m' "twins" = m "twins") (a3 : m' "cells" = m "cells") (hB : B ≤ B') : SJ X P m' own B' cells st aT aW cT cW :=
  ⟨J.e, J.n, a1.trans J.mT, a2.trans J.mW, a3.trans J.mC, J.g.mono (fun _ _ q => q) hB, J.lo, J.hi⟩
theorem ifInt {M : Model} {A : Around} {e1 e2 : Sem Value} {Post E : Value → Shared → Prop} {s : Shared} {c : Prop} [Decidable c] (k : ∀ (n : Nat) t tk, n ≤ 36 → Post (.int n t) { s with toks := tk }) (h1 : ∀ Po : Value → Shared → Prop, (∀ (n : Nat) t tk, n ≤ 36 → Po (.int n t) { s with toks := tk }) → c → wpAny M A e1 Po E s) (h2 : ∀ Po : Value → Shared → Prop, (∀ (n : Nat) t tk, n ≤ 36 → Po (.int n t) { s with toks := tk }) → wpAny M A e2 Po E s) :
    if c then wpAny M A e1 Post E s else wpAny M A e2 Post E s := by
  split
  · exact h1 _ k (by assumption)
  · exact h2 _ k
theorem deed1 {w : World} {mg mb : Str → Option Value} {s : Shared} {L fa : Nat} {cd : Value} {P : Nat → Obj → Prop} {m : Str → Option Value} {own X : List (Nat × Obj)} {B : Nat} {cells : Value} {st : List Op} {aT aW cT cW : Nat} {nb : Int} {tn : Tok} {E : Value → Shared → Prop}
    (F : Fm w mg mb P L s.heap m own) (VE : Vec P aEmpty []) (J : SJ X P m own B cells st aT aW cT cW) (hB : B + 36 < 800) (h1 : m "number" = some (.int nb tn)) {Q : Flow → Shared → Prop}
    (ret : ∀ P' m' h' tk' own' st' cT' cW', Fm w mg mb P' L h' m' own' → (∀ a o, P a o → P' a o) → SJ X P' m' own' (B + 36) cells st' aT aW cT' cW' → Q .next { s with heap := h', toks := tk' }) :
    wpAny (model prog w) (AL L fa cd) (execs b1 (envL L fa cd)) Q E s := by
  have lT := rT_len st
  have lW := rW_len st
  have hi := J.hi
  have lo := J.lo
  have mT := J.mT
  have mW := J.mW
  change wpAny _ _ (execs (List.cons _ _) _) _ _ _
  repeat (walk_at "L")
  rename_i h2 F2
  clear F
  have J2 := J.nm (m' := fun y => if y = Str.ofString "deed" then some (.int (nb.fmod 6) (s.toks + 1)) else m y) (by rfl) (by rfl) (by rfl) (Nat.le_refl _)
  by_cases c1 : nb.fmod 6 < 2
  · refine ite_pos (by simpa using c1) ?_
    have N := J2.n
    have e := J2.e
    rw [e] at F2 N
    repeat (walk_at "L")
    by_cases c2 : st.length < 7
    · refine ite_pos (by simp only [decide_eq_true_eq]; omega) ?_
      repeat (walk_at "L")
      rename_i l3 h3 F3 lt3 ne3
      refine appendL (F3.pm pu1) ((N.c (o := listObj [] 0) ne3).pm pu1).h (by omega) (fun c4 h4 F4 => ?_)
      have N4 := ((N.c (o := listObj [] 0) ne3).pm pu1).turn (o' := listObj (rT st ++ [.ref l3]) c4)
      clear F3 F2
      repeat (walk_at "L")
      rename_i l5 h5 F5 lt5 ne5
      refine appendL (F5.pm pu3) ((N4.c (o := listObj [] 0) ne5).pm pu3).h (by omega) (fun c6 h6 F6 => ?_)
      have N6 := ((N4.c (o := listObj [] 0) ne5).pm pu3).turn (o' := listObj (rW st ++ [.ref l5]) c6)
      clear F5 F4
      repeat (walk_at "L")
      have F7 := (((F6.pm pu1).pm pu3).pm pu2).pm pu3
      have N7 := (((N6.pm pu1).pm pu3).pm pu2).pm pu3
      refine ret P _ h6 _ _ (⟨l3, [], 0, l5, [], 0, []⟩ :: st) c4 c6 F7 (fun _ _ q => q) ⟨?_, N7, J2.mT, J2.mW, J2.mC, ⟨Reps.nil, Reps.nil, Nat.zero_le _, fun q => by rw [q] at lo; simp at lo, J2.g.mono (fun _ _ q => q) (by omega)⟩, by simp, by simp; omega⟩
      rw [rT_cons, rW_cons]
      rfl
    · refine ite_neg (by simp only [decide_eq_true_eq]; omega) ?_
      repeat (walk_at "L")
      rw [← e] at F2
      exact ret P _ h2 _ own st cT cW F2 (fun _ _ q => q) (J2.nm rfl rfl rfl (by omega))
  · refine ite_neg (by simpa using c1) ?_
    repeat (walk_at "L")
    by_cases c2 : nb.fmod 6 = 2
    · refine ite_pos (by simpa using c2) ?_
      have N := J2.n
      have e := J2.e
      rw [e] at F2 N
      repeat (walk_at "L")
      by_cases c3 : 1 < st.length
      · refine ite_pos (by simp only [decide_eq_true_eq]; omega) ?_
        rw [← e] at F2
        refine closeT_bA F2 VE J2 (by omega) (by omega) (fun P' m' h' tk' own' st' cT' cW' F' mo J' _ => ?_)
        repeat (walk_at "L")
        exact ret P' m' h' _ own' st' cT' cW' F' mo (J'.nm rfl rfl rfl (by omega))
      · refine ite_neg (by simp only [decide_eq_true_eq]; omega) ?_
        repeat (walk_at "L")
        rw [← e] at F2
        exact ret P _ h2 _ own st cT cW F2 (fun _ _ q => q) (J2.nm rfl rfl rfl (by omega))
    · refine ite_neg (by simpa using c2) ?_
      repeat (walk_at "L")
      refine ifInt ?_ ?_ ?_
      · intro n t tk hn
        show wpAny _ _ _ _ _ _
        repeat (walk_at "L")
        refine range1L F2 (fun rg h7 t7 u7 tk7 F7 l7 n7 => ?_)
        repeat (walk_at "L")
        refine iterR F7.tl rfl (F7.ownAt (.head _)) (small_one (by omega) (by omega) (by omega) (by omega)) (k := n) (by rw [rangeSize_one]; split <;> omega) (fun i P' m' own' => P' = P ∧ m' "number" = some (.int nb tn) ∧ ∃ st' cT' cW', SJ X P m' own' (B + i) cells st' aT aW cT' cW') ⟨rfl, by walk_at "nm", st, cT, cW, J2⟩ ?_ ?_
        · rintro E' i tv P' m' own' it io h tk' hi' hP ⟨rfl, m1, st', cT', cW', J'⟩ ne' F'
          have J3 := J'.nm (m' := fun y => if y = Str.ofString "step" then some (.int (0 + (i : Nat) * 1) tv) else m' y) rfl rfl rfl (Nat.le_refl _)
          refine stepT F' ne' J3 (by omega) ((if_neg (by decide)).trans m1) (if_pos rfl) (fun h' tk' own'' st'' cT'' cW'' F'' ne'' J'' => ?_)
          exact ⟨h', _, P', _, own'', rfl, F'', ne'', fun _ _ q => q, rfl, (if_neg (by decide)).trans m1, st'', cT'', cW'', J''⟩
        · rintro h8 tk8 P' m' own' F8 hP ⟨rfl, m1, st', cT', cW', J'⟩
          show wpAny _ _ (execs _ _) _ _ _
          repeat (walk_at "L")
          exact ret P' m' h8 _ own' st' cT' cW' F8 (fun _ _ q => q) (J'.nm rfl rfl rfl (by omega))
      · intro Po k _
        repeat (walk_at "L")
        have a := fmod_lo (nb.fdiv 6) (n := 36) (by decide)
        have b := fmod_hi (nb.fdiv 6) (n := 36) (by decide)
        have e : (nb.fdiv 6).fmod 36 + 1 = (((nb.fdiv 6).fmod 36 + 1).toNat : Int) := by omega
        rw [e]
        exact k _ _ _ (by omega)
      · intro Po k
        repeat (walk_at "L")
        exact k 1 _ _ (by decide)
def b2 : List Stmt := match lawRec.body with
  | [_, _, _, _, _, _, _, .For _ _ b _ _, _, _, _] => b
  | _ => []
theorem ifSem {M : Model} {A : Around} {e1 e2 : Sem Value} {Post E : Value → Shared → Prop} {s : Shared} {c : Prop} [Decidable c] (K : Value → Shared → Prop) (h1 : c → wpAny M A e1 K E s) (h2 : ¬ c → wpAny M A e2 K E s) (k : ∀ v s', K v s' → Post v s') : if c then wpAny M A e1 Post E s else wpAny M A e2 Post E s := by
  split
  · rename_i h; exact wpAny_mono (h1 h) (fun v s' q => k v s' q) fun _ _ e => e
  · rename_i h; exact wpAny_mono (h2 h) (fun v s' q => k v s' q) fun _ _ e => e
/-- the versions: a vector, its twin, what they tell -/
structure Vs (P : Nat → Obj → Prop) (d : Nat) (vs : List (Nat × Nat × List T)) : Prop where
  some : 1 ≤ vs.length
  all : ∀ t ∈ vs, t.2.2 ≠ [] ∧ Rep P true d (.ref t.1) (.node t.2.2) ∧ Rep P false d (.ref t.2.1) (.node t.2.2)
theorem Vs.mono {P P' : Nat → Obj → Prop} {d d' : Nat} {vs : List (Nat × Nat × List T)} (V : Vs P d vs) (k : ∀ a o, P a o → P' a o) (h : d ≤ d') : Vs P' d' vs := ⟨V.some, fun t ht => let ⟨a, b, c⟩ := V.all t ht; ⟨a, (b.mono k).le h, (c.mono k).le h⟩⟩
theorem Vs.snoc {P : Nat → Obj → Prop} {d : Nat} {vs : List (Nat × Nat × List T)} {v r : Nat} {us : List T} (V : Vs P d vs) (a : us ≠ []) (b : Rep P true d (.ref v) (.node us)) (c : Rep P false d (.ref r) (.node us)) : Vs P d (vs ++ [(v, r, us)]) :=
  ⟨by simp, fun t ht => by
    rcases List.mem_append.mp ht with h | h
    · exact V.all t h
    · rw [List.mem_singleton.mp h]; exact ⟨a, b, c⟩⟩
abbrev mM (vs : List (Nat × Nat × List T)) : List Value := vs.map fun t => .ref t.1
abbrev mP (vs : List (Nat × Nat × List T)) : List Value := vs.map fun t => .ref t.2.1
theorem OkP.put {ps : List Int} {us : List T} {x : T} (O : OkP ps (.node us)) (h : us ≠ []) : ∃ us', putT ps (.node us) x = .node us' ∧ us' ≠ [] := by
  cases ps with
  | nil => exact O.elim
  | cons p rest =>
    refine ⟨_, rfl, fun e => h ?_⟩
    have := congrArg List.length e
    simp at this
    exact List.length_eq_zero_iff.mp (by simpa using this)
abbrev xT (nb : Int) : T := if (nb.fmod 3 == 0) = true then .node [.num nb, .num 1] else .num nb
theorem reps2 {P : Nat → Obj → Prop} {b : Bool} {nb : Int} {tn t1 : Tok} (h : tn ≠ 0) (h1 : t1 ≠ 0) : Reps P b 0 [.int nb tn, .int 1 t1] [.num nb, .num 1] := (Reps.nil.snoc (Rep.num h)).snoc (Rep.num h1)
theorem deed2 {w : World} {mg mb : Str → Option Value} {s : Shared} {L fa : Nat} {cd : Value} {P : Nat → Obj → Prop} {m : Str → Option Value} {it : Nat} {io : Obj} {d : Nat} {vs : List (Nat × Nat × List T)} {aM aP cM cP : Nat} {nb : Int} {tn : Tok} {E : Value → Shared → Prop}
    (F : Fm w mg mb P L s.heap m [(it, io), (aM, listObj (mM vs) cM), (aP, listObj (mP vs) cP)]) (VE : Vec P aEmpty []) (n1 : aM ≠ it) (n2 : aP ≠ it) (n3 : aM ≠ aP) (V : Vs P d vs) (hd : d ≤ 12) (hv : vs.length ≤ 10) (h1 : m "number" = some (.int nb tn)) (hn : tn ≠ 0) (m1 : m "made" = some (.ref aM)) (m2 : m "plain" = some (.ref aP)) {Q : Flow → Shared → Prop}
    (ret : ∀ P' m' h' tk' vs' cM' cP', Fm w mg mb P' L h' m' [(it, io), (aM, listObj (mM vs') cM'), (aP, listObj (mP vs') cP')] → (∀ a o, P a o → P' a o) → Vs P' (d + 1) vs' → vs'.length = vs.length + 1 → m' "made" = some (.ref aM) → m' "plain" = some (.ref aP) → Q .next { s with heap := h', toks := tk' }) :
    wpAny (model prog w) (AL L fa cd) (execs b2 (envL L fa cd)) Q E s := by
  have lM : (mM vs).length = vs.length := by simp
  have lP : (mP vs).length = vs.length := by simp
  have hs := V.some
  have dep := depAL L fa cd
  have unn := unAL L fa cd
  change wpAny _ _ (execs (List.cons _ _) _) _ _ _
  repeat (walk_at "L")
  rename_i h2 F2
  clear F
  obtain ⟨q, hq, hql⟩ : ∃ q : Nat, (nb.fdiv 11).fmod ((mM vs).length : Nat) = q ∧ q < vs.length := by
    have a := fmod_lo (nb.fdiv 11) (n := ((mM vs).length : Nat)) (by omega)
    have b := fmod_hi (nb.fdiv 11) (n := ((mM vs).length : Nat)) (by omega)
    exact ⟨((nb.fdiv 11).fmod ((mM vs).length : Nat)).toNat, by omega, by omega⟩
  rw [hq] at F2 ⊢
  obtain ⟨⟨vv, rr, us⟩, hte⟩ : ∃ t, vs[q] = t := ⟨_, rfl⟩
  have hmem : (vv, rr, us) ∈ vs := hte ▸ List.getElem_mem hql
  obtain ⟨hus, Rv, Rr⟩ := V.all _ hmem
  dsimp only at hus Rv Rr
  have gM : (mM vs)[q]? = some (.ref vv) := by rw [List.getElem?_map, List.getElem?_eq_getElem hql, hte]; rfl
  have gP : (mP vs)[q]? = some (.ref rr) := by rw [List.getElem?_map, List.getElem?_eq_getElem hql, hte]; rfl
  refine itemL (F2.ownAt (.tail _ (.tail _ (.head _)))) (by omega) gP ?_
  repeat (walk_at "L")
  refine pathV (P0 := P) F2.G rfl (by omega) (by omega) F2.keep Rr hus (by omega) (fun D ps pv c h3 tk3 sb3 hD lD hI hO hpl => ?_)
  have F3 := F2.nw sb3
  have mo3 := F2.nwMono sb3
  have pD : Nw P h2 h3 D (listObj pv c) := ⟨hD, .inr lD⟩
  clear F2
  repeat (walk_at "L")
  rename_i h4 F4
  clear F3
  have VE4 := VE.mono mo3
  obtain ⟨m4, tw, F4, e1, e2, e3, e4, e5⟩ : ∃ m4 tw, Fm w mg mb (Nw P h2 h3) L h4 m4 [(it, io), (aM, listObj (mM vs) cM), (aP, listObj (mP vs) cP)] ∧ m4 "path" = some (.ref D) ∧ m4 "which" = some (.int q tw) ∧ m4 "number" = some (.int nb tn) ∧ m4 "made" = some (.ref aM) ∧ m4 "plain" = some (.ref aP) := ⟨_, _, F4, rfl, rfl, h1, m1, m2⟩
  generalize hP4 : Nw P h2 h3 = P4 at F4 mo3 pD VE4
  refine ifSem (fun v s' => ∃ h' tk' P', s' = { s with heap := h', toks := tk' } ∧ Fm w mg mb P' L h' m4 [(it, io), (aM, listObj (mM vs) cM), (aP, listObj (mP vs) cP)] ∧ (∀ a o, P4 a o → P' a o) ∧ Rep P' true 1 v (xT nb)) ?_ ?_ ?_
  · intro hc
    repeat (walk_at "L")
    rename_i l5 h5 F5 lt5 ne5
    refine pvectorV F5.G rfl (by omega) F5.keep VE4 (F5.ownAt (.head _)) (by simp) (fun v6 h6 tk6 sb6 V6 => ?_)
    exact ⟨h6, _, _, rfl, (F5.nw sb6).tl, F5.nwMono sb6, by rw [xT, if_pos hc]; exact Rep.node (b := true) V6 (by simp) (reps2 hn (Nat.succ_ne_zero _))⟩
  · intro hc
    repeat (walk_at "L")
    exact ⟨h4, _, P4, rfl, F4, fun _ _ q => q, by rw [xT, if_neg hc]; exact Rep.num hn⟩
  rintro th s' ⟨h5, tk5, P5, rfl, F5, mo5, Rth⟩
  clear F4
  show wpAny _ _ _ _ _ _
  repeat (walk_at "L")
  rename_i h6 F6
  clear F5
  refine ifSem (fun v s' => ∃ h' tk' P', s' = { s with heap := h', toks := tk' } ∧ Fm w mg mb P' L h' (fun y => if y = Str.ofString "thing" then some th else m4 y) [(it, io), (aM, listObj (mM vs) cM), (aP, listObj (mP vs) cP)] ∧ (∀ a o, P5 a o → P' a o) ∧ Rep P' false 1 v (xT nb)) ?_ ?_ ?_
  · intro hc
    repeat (walk_at "L")
    rename_i l7 h7 F7 lt7 ne7
    exact ⟨h7, _, _, rfl, F7.freeze ne7, fun _ _ q => .inl q, by rw [xT, if_pos hc]; exact Rep.node (b := false) ⟨0, .inr ⟨rfl, rfl⟩⟩ (by simp) (reps2 hn (Nat.succ_ne_zero _))⟩
  · intro hc
    repeat (walk_at "L")
    exact ⟨h6, _, P5, rfl, F6, fun _ _ q => q, by rw [xT, if_neg hc]; exact Rep.num hn⟩
  rintro sm s' ⟨h7, tk7, P7, rfl, F7, mo7, Rsm⟩
  clear F6
  have moA : ∀ a o, P a o → P7 a o := fun a o q => mo7 _ _ (mo5 _ _ (mo3 _ _ q))
  have pD7 := mo7 _ _ (mo5 _ _ pD)
  show wpAny _ _ _ _ _ _
  repeat (walk_at "L")
  rename_i h8 F8
  clear F7
  refine itemL (F8.ownAt (.tail _ (.head _))) (by omega) gM ?_
  repeat (walk_at "L")
  refine putV ps _ _ _ _ d D c _ th (.node us) (xT nb) pv P7 F8.G rfl (by omega) F8.keep (Rv.mono moA) hO (Rth.mono mo7) (F8.get pD7) hI (by omega) (fun v9 h9 tk9 sb9 R9 PR9 => ?_)
  have F9 := F8.nw sb9
  have mo9 := F8.nwMono sb9
  have pD9 := mo9 _ _ pD7
  clear F8
  generalize hP9 : Nw P7 h8 h9 = P9 at F9 mo9 pD9 R9 PR9
  repeat (walk_at "L")
  rename_i h10 F10
  clear F9
  refine itemL (F10.ownAt (.tail _ (.head _))) (by omega) gM ?_
  repeat (walk_at "L")
  refine sharedV ps _ _ _ _ D c _ _ pv F10.G rfl (by omega) (fun e => by rw [e] at hO; exact hO.elim) (PR9.mono F10.keep) (F10.get pD9) hI (by omega) (fun h11 tk11 sb11 => ?_)
  have F11 := F10.kept sb11
  clear F10
  repeat (walk_at "L")
  refine ite_neg (by decide) ?_
  repeat (walk_at "L")
  refine appendL (F11.pm pu1) (apart1 (Ne.symm n1) (apart1 (Ne.symm n3) apart0)) (by omega) (fun c12 h12 F12 => ?_)
  clear F11
  repeat (walk_at "L")
  refine itemL (F12.ownAt (.tail _ (.tail _ (.head _)))) (by omega) gP ?_
  repeat (walk_at "L")
  refine putP ps _ _ _ _ d D c _ sm (.node us) (xT nb) pv P9 F12.G rfl (by omega) F12.keep ((Rr.mono moA).mono mo9) hO (Rsm.mono mo9) (F12.get pD9) hI (by omega) (fun v13 h13 tk13 sb13 R13 => ?_)
  have F13 := F12.nw sb13
  have mo13 := F12.nwMono sb13
  clear F12
  repeat (walk_at "L")
  refine appendL (F13.pm pu2) (apart1 n3 (apart1 (Ne.symm n2) apart0)) (by omega) (fun c14 h14 F14 => ?_)
  clear F13
  repeat (walk_at "L")
  obtain ⟨us', e', ne'⟩ := hO.put (x := xT nb) hus
  rw [e'] at R9 R13
  have F15 := (F14.pm pu1).pm pu2
  have eM : mM (vs ++ [(v9, v13, us')]) = mM vs ++ [.ref v9] := by simp [mM]
  have eP : mP (vs ++ [(v9, v13, us')]) = mP vs ++ [.ref v13] := by simp [mP]
  refine ret _ _ h14 _ (vs ++ [(v9, v13, us')]) c12 c14 (by rw [eM, eP]; exact F15) (fun a o q => mo13 _ _ (mo9 _ _ (moA _ _ q))) ((V.mono (fun a o q => mo13 _ _ (mo9 _ _ (moA _ _ q))) (Nat.le_succ _)).snoc ne' (R9.mono mo13) R13) (by simp) (by walk_at "nm") (by walk_at "nm")
def b3 : List Stmt := match lawRec.body with
  | [_, _, _, _, _, _, _, _, .For _ _ b _ _, _, _] => b
  | _ => []
def b4 : List Stmt := match b3 with
  | [_, .For _ _ b _ _] => b
  | _ => []
theorem cmpEq {w : World} {mg mb : Str → Option Value} {A : Around} {E Q : Value → Shared → Prop} {s : Shared} {d : Nat} {a1 a2 : Nat} {t1 t2 : T} {b1 b2 : Bool} (G : Gr w mg mb s.heap) (hA : A.handled = none) (hd : A.depth + 4 * d + 13 < recursionLimit) (hu : A.units + 20 * d + 72 < cLine)
    (X : Rep (At s.heap) b1 (d + 1) (.ref a1) t1) (Y : Rep (At s.heap) b2 (d + 1) (.ref a2) t2) (h : ∀ h' tk', Sub s.heap h' → Q (.bool (eqT t1 t2)) { s with heap := h', toks := tk' }) : wpAny (model prog w) A (compareOp .Eq (.ref a1) (.ref a2)) Q E s := by
  show wpAny _ _ (richCompare .Eq _ _) _ _ _
  exact rcEq (eqOK d) G hA hd hu X Y h
theorem turn4 {w : World} {mg mb : Str → Option Value} {s : Shared} {L fa : Nat} {cd : Value} {P : Nat → Obj → Prop} {m : Str → Option Value} {own : List (Nat × Obj)} {d : Nat} {vs : List (Nat × Nat × List T)} {aM aP cM cP i j : Nat} {ti tj : Tok} {E : Value → Shared → Prop}
    (F : Fm w mg mb P L s.heap m own) (V : Vs P (d + 1) vs) (hd : d ≤ 14) (pM : P aM (listObj (mM vs) cM)) (pP : P aP (listObj (mP vs) cP)) (hv : vs.length ≤ 10) (hi : i < vs.length) (hj : j < vs.length) (h1 : m "turn" = some (.int i ti)) (h2 : m "other" = some (.int j tj)) (m1 : m "made" = some (.ref aM)) (m2 : m "plain" = some (.ref aP)) {Q : Flow → Shared → Prop}
    (ret : ∀ h' tk', Fm w mg mb P L h' m own → Q .next { s with heap := h', toks := tk' }) :
    wpAny (model prog w) (AL L fa cd) (execs b4 (envL L fa cd)) Q E s := by
  have lM : (mM vs).length = vs.length := by simp
  have lP : (mP vs).length = vs.length := by simp
  have dep := depAL L fa cd
  have unn := unAL L fa cd
  obtain ⟨⟨vi, ri, ui⟩, hti⟩ : ∃ t, vs[i] = t := ⟨_, rfl⟩
  obtain ⟨⟨vj, rj, uj⟩, htj⟩ : ∃ t, vs[j] = t := ⟨_, rfl⟩
  obtain ⟨_, Rvi, Rri⟩ := V.all _ (hti ▸ List.getElem_mem hi)
  obtain ⟨_, Rvj, Rrj⟩ := V.all _ (htj ▸ List.getElem_mem hj)
  dsimp only at Rvi Rri Rvj Rrj
  have gMi : (mM vs)[i]? = some (.ref vi) := by rw [List.getElem?_map, List.getElem?_eq_getElem hi, hti]; rfl
  have gPi : (mP vs)[i]? = some (.ref ri) := by rw [List.getElem?_map, List.getElem?_eq_getElem hi, hti]; rfl
  have gMj : (mM vs)[j]? = some (.ref vj) := by rw [List.getElem?_map, List.getElem?_eq_getElem hj, htj]; rfl
  have gPj : (mP vs)[j]? = some (.ref rj) := by rw [List.getElem?_map, List.getElem?_eq_getElem hj, htj]; rfl
  change wpAny _ _ (execs (List.cons _ _) _) _ _ _
  repeat (walk_at "L")
  refine itemL (F.get pM) (by omega) gMi ?_
  repeat (walk_at "L")
  refine itemL (F.get pM) (by omega) gMj ?_
  repeat (walk_at "L")
  refine cmpEq F.G rfl (by omega) (by omega) (Rvi.mono F.keep) (Rvj.mono F.keep) (fun h2 tk2 sb2 => ?_)
  have F2 := F.kept sb2
  clear F
  repeat (walk_at "L")
  refine itemL (F2.get pP) (by omega) gPi ?_
  repeat (walk_at "L")
  refine itemL (F2.get pP) (by omega) gPj ?_
  repeat (walk_at "L")
  refine cmpEq F2.G rfl (by omega) (by omega) (Rri.mono F2.keep) (Rrj.mono F2.keep) (fun h3 tk3 sb3 => ?_)
  have F3 := F2.kept sb3
  clear F2
  repeat (walk_at "L")
  refine ne_bool ?_
  repeat (walk_at "L")
  refine ite_neg (by simp) ?_
  repeat (walk_at "L")
  exact ret h3 _ F3
theorem turn3 {w : World} {mg mb : Str → Option Value} {s : Shared} {L fa : Nat} {cd : Value} {P : Nat → Obj → Prop} {m : Str → Option Value} {own : List (Nat × Obj)} {d : Nat} {vs : List (Nat × Nat × List T)} {aM aP cM cP i : Nat} {ti : Tok} {E : Value → Shared → Prop}
    (F : Fm w mg mb P L s.heap m own) (V : Vs P (d + 1) vs) (hd : d ≤ 14) (pM : P aM (listObj (mM vs) cM)) (pP : P aP (listObj (mP vs) cP)) (hv : vs.length ≤ 10) (hi : i < vs.length) (h1 : m "turn" = some (.int i ti)) (m1 : m "made" = some (.ref aM)) (m2 : m "plain" = some (.ref aP)) {Q : Flow → Shared → Prop}
    (ret : ∀ h' tk' m', Fm w mg mb P L h' m' own → m' "made" = some (.ref aM) → m' "plain" = some (.ref aP) → Q .next { s with heap := h', toks := tk' }) :
    wpAny (model prog w) (AL L fa cd) (execs b3 (envL L fa cd)) Q E s := by
  have lM : (mM vs).length = vs.length := by simp
  have lP : (mP vs).length = vs.length := by simp
  have dep := depAL L fa cd
  have unn := unAL L fa cd
  obtain ⟨⟨vi, ri, ui⟩, hti⟩ : ∃ t, vs[i] = t := ⟨_, rfl⟩
  obtain ⟨_, Rvi, Rri⟩ := V.all _ (hti ▸ List.getElem_mem hi)
  dsimp only at Rvi Rri
  have gMi : (mM vs)[i]? = some (.ref vi) := by rw [List.getElem?_map, List.getElem?_eq_getElem hi, hti]; rfl
  have gPi : (mP vs)[i]? = some (.ref ri) := by rw [List.getElem?_map, List.getElem?_eq_getElem hi, hti]; rfl
  change wpAny _ _ (execs (List.cons _ _) _) _ _ _
  repeat (walk_at "L")
  refine itemL (F.get pM) (by omega) gMi ?_
  repeat (walk_at "L")
  refine itemL (F.get pP) (by omega) gPi ?_
  repeat (walk_at "L")
  refine cmpEq F.G rfl (by omega) (by omega) (Rvi.mono F.keep) (Rri.mono F.keep) (fun h2 tk2 sb2 => ?_)
  have F2 := F.kept sb2
  clear F
  rw [eqT_self]
  repeat (walk_at "L")
  refine ite_neg (by decide) ?_
  repeat (walk_at "L")
  refine itemL (F2.get pP) (by omega) gPi ?_
  repeat (walk_at "L")
  refine itemL (F2.get pM) (by omega) gMi ?_
  repeat (walk_at "L")
  refine neLV F2.G rfl (by omega) (by omega) (Rri.mono F2.keep) (Rvi.mono F2.keep) (fun h3 tk3 sb3 => ?_)
  have F3 := F2.kept sb3
  clear F2
  rw [eqT_self]
  repeat (walk_at "L")
  refine ite_neg (by decide) ?_
  repeat (walk_at "L")
  refine itemL (F3.get pM) (by omega) gMi ?_
  repeat (walk_at "L")
  refine plainV (d + 1) _ _ _ _ _ ui P F3.G rfl (by omega) F3.keep Rvi (fun D h4 tk4 sb4 R4 => ?_)
  have F4 := F3.kept sb4
  have k4 : ∀ a o, Nw P h3 h4 a o → h4.get? a = some o := fun a o q => q.1
  clear F3
  repeat (walk_at "L")
  refine itemL (F4.get pP) (by omega) gPi ?_
  repeat (walk_at "L")
  refine neLL F4.G rfl (by omega) (by omega) (R4.mono k4) (Rri.mono F4.keep) (fun h5 tk5 sb5 => ?_)
  have F5 := F4.kept sb5
  clear F4
  repeat (walk_at "L")
  refine ite_neg (by decide) ?_
  repeat (walk_at "L")
  refine ite_neg (by decide) ?_
  repeat (walk_at "L")
  refine range1L F5 (fun rg h7 t7 u7 tk7 F7 l7 n7 => ?_)
  repeat (walk_at "L")
  refine iterR F7.tl rfl (F7.ownAt (.head _)) (small_one (by omega) (by omega) (by omega) (by omega)) (k := i) (by rw [rangeSize_one]; split <;> omega) (fun j P' m' own' => P' = P ∧ own' = own ∧ m' "turn" = some (.int i ti) ∧ m' "made" = some (.ref aM) ∧ m' "plain" = some (.ref aP)) ⟨rfl, rfl, h1, m1, m2⟩ ?_ ?_
  · rintro E' j tv P' m' own' it io h tk' hj hP ⟨rfl, rfl, x1, x2, x3⟩ ne' F'
    refine turn4 (j := j) F' V hd pM pP hv hi (by omega) ((if_neg (by decide)).trans x1) ((if_pos rfl).trans (by simp; rfl)) ((if_neg (by decide)).trans x2) ((if_neg (by decide)).trans x3) (fun h' tk' F'' => ?_)
    exact ⟨h', _, P', _, own', rfl, F'', ne', fun _ _ q => q, rfl, rfl, (if_neg (by decide)).trans x1, (if_neg (by decide)).trans x2, (if_neg (by decide)).trans x3⟩
  · rintro h8 tk8 P' m' own' F8 hP ⟨rfl, rfl, x1, x2, x3⟩
    show wpAny _ _ (execs _ _) _ _ _
    repeat (walk_at "L")
    exact ret h8 _ m' F8 x2 x3
def Toks (xs : List Value) : Prop := ∀ x ∈ xs, ∃ n t, x = .int n t ∧ t ≠ 0
theorem pick_to (xs : List Value) (b : Nat) : (slicePick xs.toArray none (some (b : Int)) none) = (xs.take b).toArray := by
  rw [slicePick_plain]
  simp only [Option.elim, clipAt_nat, List.size_toArray]
  congr 1
  apply List.ext_getElem?
  intro i
  simp only [List.getElem?_take, List.drop_zero]
  by_cases h1 : i < min b xs.length - 0
  · rw [if_pos h1, if_pos (by omega)]
  · rw [if_neg h1]
    split
    · rw [List.getElem?_eq_none (by omega)]
    · rfl
def bE : List Stmt := match lawRec.body with
  | _ :: _ :: _ :: _ :: _ :: _ :: _ :: _ :: r => r
  | _ => []
theorem lawEnd {w : World} {mg mb : Str → Option Value} {s : Shared} {L fa : Nat} {cd : Value} {P : Nat → Obj → Prop} {m : Str → Option Value} {d : Nat} {vs : List (Nat × Nat × List T)} {aM aP cM cP : Nat} {Q : Flow → Shared → Prop} {E : Value → Shared → Prop}
    (F : Fm w mg mb P L s.heap m []) (VE : Vec P aEmpty []) (V : Vs P (d + 1) vs) (hv : vs.length ≤ 10) (m1 : m "made" = some (.ref aM)) (m2 : m "plain" = some (.ref aP)) (pM : P aM (listObj (mM vs) cM)) (pP : P aP (listObj (mP vs) cP)) 
    (ret : ∀ h' tk', (∀ a o, P a o → h'.get? a = some o) → Q (.ret (.bool true)) { s with heap := h', toks := tk' }) (hd : d ≤ 14 := by omega) :
    wpAny (model prog w) (AL L fa cd) (execs bE (envL L fa cd)) Q E s := by
  have dep := depAL L fa cd
  have unn := unAL L fa cd
  have lM : (mM vs).length = vs.length := by simp
  have lP : (mP vs).length = vs.length := by simp
  have hs := V.some
  change wpAny _ _ (execs (List.cons _ _) _) _ _ _
  repeat (walk_at "L")
  refine range1L F (fun rg h7 t7 u7 tk7 F7 l7 n7 => ?_)
  repeat (walk_at "L")
  refine iterR F7.tl rfl (F7.ownAt (.head _)) (small_one (by omega) (by omega) (by omega) (by omega)) (k := vs.length) (by rw [rangeSize_one]; split <;> omega) (fun j P' m' own' => P' = P ∧ own' = [] ∧ m' "made" = some (.ref aM) ∧ m' "plain" = some (.ref aP)) ⟨rfl, rfl, m1, m2⟩ ?_ ?_
  · rintro E' j tv P' m' own' it io h tk' hj hP ⟨rfl, rfl, x2, x3⟩ ne' F'
    refine turn3 (i := j) F' V hd pM pP hv hj ((if_pos rfl).trans (by simp; rfl)) ((if_neg (by decide)).trans x2) ((if_neg (by decide)).trans x3) (fun h' tk' m'' F'' w1 w2 => ?_)
    exact ⟨h', _, P', _, [], rfl, F'', ne', fun _ _ q => q, rfl, rfl, w1, w2⟩
  · rintro h8 tk8 P' m' own' F8 hP ⟨rfl, rfl, x2, x3⟩
    clear F F7
    show wpAny _ _ (execs _ _) _ _ _
    repeat (walk_at "L")
    obtain ⟨vs0, ⟨vl, rl, ul⟩, evs⟩ : ∃ vs0 t, vs = vs0 ++ [t] := by
      rcases List.eq_nil_or_concat vs with q | ⟨vs0, t, q⟩
      · rw [q] at hs; simp at hs
      · exact ⟨vs0, t, by simpa using q⟩
    have eM : mM vs = mM vs0 ++ [.ref vl] := by rw [evs]; simp [mM]
    have eP : mP vs = mP vs0 ++ [.ref rl] := by rw [evs]; simp [mP]
    obtain ⟨_, Rv, Rr⟩ := V.all (vl, rl, ul) (by rw [evs]; simp)
    dsimp only at Rv Rr
    rw [eM] at pM lM
    rw [eP] at pP lP
    refine itemLI (F8.get pP) (by omega) (by omega) (by omega) last_get ?_
    repeat (walk_at "L")
    refine grownV (d + 1) _ _ _ _ _ ul P' F8.G rfl (by omega) F8.keep VE Rr (fun v9 h9 tk9 sb9 R9 => ?_)
    have F9 := F8.nw sb9
    have mo9 := F8.nwMono sb9
    clear F8
    repeat (walk_at "L")
    rename_i h10 F10
    clear F9
    refine itemLI (F10.get (mo9 _ _ pM)) (by omega) (by omega) (by omega) last_get ?_
    repeat (walk_at "L")
    refine cmpEq F10.G rfl (by omega) (by omega) (R9.mono F10.keep) ((Rv.mono mo9).mono F10.keep) (fun h11 tk11 sb11 => ?_)
    have F11 := F10.kept sb11
    clear F10
    rw [eqT_self]
    repeat (walk_at "L")
    refine ite_pos (by decide) ?_
    repeat (walk_at "L")
    refine wpAny_UnaryOp ?_
    repeat (walk_at "L")
    refine itemLI (F11.get (mo9 _ _ pM)) (by omega) (by omega) (by omega) last_get ?_
    repeat (walk_at "L")
    refine neVV F11.G rfl (by omega) (by omega) ((Rv.mono mo9).mono F11.keep) (R9.mono F11.keep) (fun h12 tk12 sb12 => ?_)
    have F12 := F11.kept sb12
    rw [eqT_self]
    refine not_of (wpAny_truthy_bool ?_)
    exact ret h12 _ fun a o q => F12.keep _ _ (mo9 _ _ q)
def bD : List Stmt := match lawRec.body with
  | _ :: _ :: _ :: _ :: _ :: _ :: _ :: r => r
  | _ => []
theorem lawDeeds {w : World} {mg mb : Str → Option Value} {s : Shared} {L fa D : Nat} {cd : Value} {P : Nat → Obj → Prop} {m : Str → Option Value} {vs : List (Nat × Nat × List T)} {aM aP cM cP : Nat} {cs : List Value} {Q : Flow → Shared → Prop} {E : Value → Shared → Prop}
    (F : Fm w mg mb P L s.heap m [(aM, listObj (mM vs) cM), (aP, listObj (mP vs) cP)]) (VE : Vec P aEmpty []) (n3 : aM ≠ aP) (V : Vs P 7 vs) (hv : vs.length = 1) (m1 : m "made" = some (.ref aM)) (m2 : m "plain" = some (.ref aP)) (m3 : m "cells" = some (.ref D)) (pC : P D (listObj cs 0)) (hT : Toks cs) (hc : cs.length ≤ 10)
    (ret : ∀ h' tk', (∀ a o, P a o → h'.get? a = some o) → Q (.ret (.bool true)) { s with heap := h', toks := tk' }) :
    wpAny (model prog w) (AL L fa cd) (execs bD (envL L fa cd)) Q E s := by
  have dep := depAL L fa cd
  have unn := unAL L fa cd
  change wpAny _ _ (execs (List.cons _ _) _) _ _ _
  repeat (walk_at "L")
  refine ⟨D, cs.toArray, _, _, rfl, isList_at (F.get pC), by rw [sizeLine_eq, List.size_toArray]; omega, .none, .int _ _, ?_⟩
  rw [show slicePick cs.toArray none (some 5) none = (cs.take 5).toArray from pick_to cs 5]
  obtain ⟨F2, l2, n2⟩ := F.sliced { cls := .type "slice", data := .fields #[.none, .int 5 s.toks, .none] } (listObj (cs.take 5) 0)
  have hT5 : Toks (cs.take 5) := fun x hx => hT x (List.mem_of_mem_take hx)
  have hc5 : (cs.take 5).length ≤ 5 := by rw [List.length_take]; omega
  generalize cs.take 5 = c5 at *
  generalize hl2 : s.heap.objs.size + 1 = D2 at F2 l2 n2
  have F3 := F2.freeze n2
  clear F2 F
  refine iterL F3 rfl (.inr ⟨rfl, rfl⟩) (fun i P' m' own' => ∃ vs' cM' cP', own' = [(aM, listObj (mM vs') cM'), (aP, listObj (mP vs') cP')] ∧ m' "made" = some (.ref aM) ∧ m' "plain" = some (.ref aP) ∧ Vs P' (7 + i) vs' ∧ vs'.length = i + 1) ⟨vs, cM, cP, rfl, m1, m2, V.mono (fun _ _ q => .inl q) (Nat.le_refl _), hv⟩ ?_ ?_
  · rintro E' i x P' m' own' it io h tk' hx hP ⟨vs', cM', cP', rfl, x1, x2, V', hl'⟩ ne F'
    obtain ⟨n, t, rfl, nz⟩ := hT5 x (List.mem_of_getElem? hx)
    have hi : i < 5 := by have := (List.getElem?_eq_some_iff.mp hx).1; omega
    have y1 := ne (aM, listObj (mM vs') cM') (by walk_at "mem")
    have y2 := ne (aP, listObj (mP vs') cP') (by walk_at "mem")
    dsimp only at y1 y2
    refine deed2 (d := 7 + i) F' (VE.mono fun a o q => hP _ _ (.inl q)) y1 y2 n3 V' (by omega) (by omega) (if_pos rfl) nz ((if_neg (by decide)).trans x1) ((if_neg (by decide)).trans x2) (fun P'' m'' h' tk' vs'' cM'' cP'' F'' mo V'' hl'' w1 w2 => ?_)
    exact ⟨h', _, P'', m'', _, rfl, F'', apart1 y1 (apart1 y2 apart0), mo, vs'', cM'', cP'', rfl, w1, w2, V'', by omega⟩
  · rintro h4 tk4 P' m' own' F4 hP ⟨vs', cM', cP', rfl, x1, x2, V', hl'⟩
    have F5 := F4.freeze (apart1 (Ne.symm n3) apart0)
    have F6 := F5.freeze apart0
    clear F4 F5
    show wpAny _ _ (execs _ _) _ _ _
    refine lawEnd (d := 11) F6 (VE.mono fun a o q => .inl (.inl (hP _ _ (.inl q)))) (V'.mono (fun a o q => .inl (.inl q)) (by omega)) (by omega) x1 x2 (.inl (.inr ⟨rfl, rfl⟩)) (.inr ⟨rfl, rfl⟩) (fun h' tk' sb => ret h' tk' fun a o q => sb _ _ (.inl (.inl (hP _ _ (.inl q)))))
def bT : List Stmt := match lawRec.body with
  | _ :: _ :: _ :: _ :: r => r
  | _ => []
theorem lawTail {w : World} {mg mb : Str → Option Value} {s : Shared} {L fa D : Nat} {cd : Value} {P : Nat → Obj → Prop} {m : Str → Option Value} {own : List (Nat × Obj)} {cs : List Value} {st : List Op} {aT aW cT cW : Nat} {Q : Flow → Shared → Prop} {E : Value → Shared → Prop}
    (F : Fm w mg mb P L s.heap m own) (VE : Vec P aEmpty []) (J : SJ [] P m own 400 (.ref D) st aT aW cT cW) (pC : P D (listObj cs 0)) (hT : Toks cs) (hc : cs.length ≤ 10)
    (ret : ∀ h' tk', (∀ a o, P a o → h'.get? a = some o) → Q (.ret (.bool true)) { s with heap := h', toks := tk' }) :
    wpAny (model prog w) (AL L fa cd) (execs bT (envL L fa cd)) Q E s := by
  have dep := depAL L fa cd
  have unn := unAL L fa cd
  change wpAny _ _ (execs (List.cons _ _) _) _ _ _
  repeat (walk_at "L")
  refine wpAny_While (codeAny_whileLoop (fun n s' => ∃ h tk P' m' own' st' cT' cW', s' = { s with heap := h, toks := tk } ∧ Fm w mg mb P' L h m' own' ∧ (∀ a o, P a o → P' a o) ∧ SJ [] P' m' own' (407 - n) (.ref D) st' aT aW cT' cW' ∧ n = st'.length) ?_ st.length ⟨_, _, P, m, own, st, cT, cW, rfl, F, fun _ _ q => q, J.nm rfl rfl rfl (by have := J.hi; omega), rfl⟩)
  clear F J
  rintro n s' ⟨h, tk, P', m', own', st', cT', cW', rfl, F, mo, J, rfl⟩
  have lT := rT_len st'
  have hi := J.hi
  have lo := J.lo
  have mT := J.mT
  have mW := J.mW
  have mC := J.mC
  have e := J.e
  have N := J.n
  rw [e] at F N
  repeat (walk_at "L")
  by_cases c1 : 1 < st'.length
  · refine ite_pos (by simp only [decide_eq_true_eq]; omega) ?_
    rw [← e] at F
    refine closeT_bB F (VE.mono mo) J (by omega) (by omega) (fun P2 m2 h2 tk2 own2 st2 cT2 cW2 F2 mo2 J2 hl2 => ?_)
    exact ⟨st2.length, by omega, h2, _, P2, m2, own2, st2, cT2, cW2, rfl, F2, fun a o q => mo2 _ _ (mo _ _ q), J2.nm rfl rfl rfl (by omega), rfl⟩
  · refine ite_neg (by simp only [decide_eq_true_eq]; omega) ?_
    have g := J.g
    clear e J
    obtain _ | ⟨⟨t, xs, ct, w', ys, cw, us⟩, _ | ⟨o2, r⟩⟩ := st'
    · simp at lo
    · obtain ⟨r1, r2, hb, ne, _⟩ := g
      dsimp only at r1 r2 hb ne
      have hne := ne rfl
      have F : Fm w mg mb P' L h m' [(aT, listObj [.ref t] cT'), (aW, listObj [.ref w'] cW'), (t, listObj xs ct), (w', listObj ys cw)] := F
      have N : Apt [(aT, listObj [.ref t] cT'), (aW, listObj [.ref w'] cW'), (t, listObj xs ct), (w', listObj ys cw)] := N
      have hxl := r1.1
      have hyl := r2.1
      repeat (walk_at "L")
      refine itemL (k := 0) (F.ownAt (.head _)) (by simp) rfl ?_
      repeat (walk_at "L")
      refine pvectorV F.G rfl (by omega) F.keep (VE.mono mo) (F.ownAt (.tail _ (.tail _ (.head _)))) (by omega) (fun v3 h3 tk3 sb3 V3 => ?_)
      have F3 := F.nw sb3
      have mo3 := F.nwMono sb3
      clear F
      repeat (walk_at "L")
      rename_i aM h4 F4 lt4 ne4 h5 F5
      clear F3 F4
      refine itemL (k := 0) (F5.ownAt (.tail _ (.tail _ (.head _)))) (by simp) rfl ?_
      iterate 3 (walk_at "L")
      rename_i aP h6 F6 lt6 ne6 h7 F7
      clear F5 F6
      have z1 := ne4 (w', listObj ys cw) (by walk_at "mem")
      have z2 := ne6 (w', listObj ys cw) (by walk_at "mem")
      have z3 := ne6 (aM, listObj [.ref v3] 0) (by walk_at "mem")
      dsimp only at z1 z2 z3
      have F8 := (F7.drop (own' := [(w', listObj ys cw), (aM, listObj [.ref v3] 0), (aP, listObj [.ref w'] 0)]) (by walk_at "perm")).freeze (apart1 (Ne.symm z1) (apart1 (Ne.symm z2) apart0))
      clear F7
      have moA : ∀ a o, P a o → Add (Nw P' h h3) w' (listObj ys cw) a o := fun a o q => .inl (mo3 _ _ (mo _ _ q))
      obtain ⟨m8, F9, w1, w2, w3⟩ : ∃ m8, Fm w mg mb (Add (Nw P' h h3) w' (listObj ys cw)) L h7 m8 [(aM, listObj [.ref v3] 0), (aP, listObj [.ref w'] 0)] ∧ m8 "made" = some (.ref aM) ∧ m8 "plain" = some (.ref aP) ∧ m8 "cells" = some (.ref D) := ⟨_, F8, rfl, rfl, mC⟩
      refine lawDeeds (vs := [(v3, w', us)]) (m := m8) F9 (VE.mono moA) z3 ⟨by simp, fun u hu => ?_⟩ rfl w1 w2 w3 (moA _ _ pC) hT hc (fun h' tk' sb => ret h' tk' fun a o q => sb _ _ (moA _ _ q))
      rw [List.mem_singleton.mp hu]
      exact ⟨fun q => by have q' : us = [] := q; rw [q'] at hne; simp at hne, Rep.node (b := true) (V3.mono fun _ _ q => .inl q) (by omega) (r1.mono fun a o q => .inl (mo3 _ _ q)), Rep.node (b := false) ⟨cw, .inr ⟨rfl, rfl⟩⟩ (by omega) (r2.mono fun a o q => .inl (mo3 _ _ q))⟩
    · simp at c1
theorem lawMain {w : World} {mg mb : Str → Option Value} {hb : Heap} {s : Shared} {L fa a : Nat} {cd : Value} {vs : List Value} {m : Str → Option Value} {Q : Flow → Shared → Prop} {E : Value → Shared → Prop}
    (F : Fm w mg mb (At hb) L s.heap m []) (X : (K w.params).In hb) (hm : m "script" = some (.ref a))
    (hl : hb.IsList a vs.toArray) (hI : Toks vs) (hn : vs.length ≤ 63)
    (ret : ∀ h' tk', Sub hb h' → Q (.ret (.bool true)) { s with heap := h', toks := tk' }) :
    wpAny (model prog w) (AL L fa cd) (execs lawRec.body (envL L fa cd)) Q E s := by
  have dep := depAL L fa cd
  have unn := unAL L fa cd
  change wpAny _ _ (execs (List.cons _ _) _) _ _ _
  repeat (walk_at "L")
  refine ⟨a, vs.toArray, _, _, rfl, hl.at fun o e => F.keep _ _ e, by rw [sizeLine_eq, List.size_toArray]; omega, .none, .int _ _, ?_⟩
  rw [show slicePick vs.toArray none (some 6) none = (vs.take 6).toArray from pick_to vs 6]
  obtain ⟨F2, l2, n2⟩ := F.sliced { cls := .type "slice", data := .fields #[.none, .int 6 s.toks, .none] } (listObj (vs.take 6) 0)
  generalize hl2 : s.heap.objs.size + 1 = D2 at F2 l2 n2
  repeat (walk_at "L")
  rename_i D3 h3 F3 l3 n3
  refine addL F3 (isList_at (F3.ownAt (.tail _ (.head _)))) (isList_at (F3.ownAt (.head _))) (by simp; omega) (fun D4 h4 F4 l4 n4 => ?_)
  have hT4 : Toks (vs.take 6 ++ [.int 1 (s.toks + 1), .int 35 (s.toks + 1 + 1), .int 12 (s.toks + 1 + 1 + 1), .int 4 (s.toks + 1 + 1 + 1 + 1)]) := fun x hx => by
    rcases List.mem_append.mp hx with h | h
    · exact hI x (List.mem_of_mem_take h)
    · simp only [List.mem_cons, List.not_mem_nil, or_false] at h
      rcases h with rfl | rfl | rfl | rfl <;> exact ⟨_, _, rfl, Nat.succ_ne_zero _⟩
  have hc4 : (vs.take 6 ++ [Value.int 1 (s.toks + 1), .int 35 (s.toks + 1 + 1), .int 12 (s.toks + 1 + 1 + 1), .int 4 (s.toks + 1 + 1 + 1 + 1)]).length ≤ 10 := by simp; omega
  generalize hcs : vs.take 6 ++ [Value.int 1 (s.toks + 1), .int 35 (s.toks + 1 + 1), .int 12 (s.toks + 1 + 1 + 1), .int 4 (s.toks + 1 + 1 + 1 + 1)] = cs at *
  have F5 := (F4.freeze n4).drop (own' := []) sub0
  have pC : Add (At hb) D4 (listObj cs 0) D4 (listObj cs 0) := .inr ⟨rfl, rfl⟩
  clear F2 F3 F4
  repeat (walk_at "L")
  rename_i h6 F6 i7 h7 F7 lt7 ne7 o8 h8 F8 lt8 ne8 h9 F9 i10 h10 F10 lt10 ne10 o11 h11 F11 lt11 ne11 h12 F12
  obtain ⟨m13, x5, y5, F13, N13, nx, ny, q1, q2, q3⟩ : ∃ m13 x5 y5, Fm w mg mb (Add (At hb) D4 (listObj cs 0)) L h12 m13 [(o8, listObj [.ref i7] 0), (o11, listObj [.ref i10] 0), (i7, listObj [.int 5 x5] 0), (i10, listObj [.int 5 y5] 0)] ∧ Apt [(o8, listObj [.ref i7] 0), (o11, listObj [.ref i10] 0), (i7, listObj [.int 5 x5] 0), (i10, listObj [.int 5 y5] 0)] ∧ x5 ≠ 0 ∧ y5 ≠ 0 ∧ m13 "trees" = some (.ref o8) ∧ m13 "twins" = some (.ref o11) ∧ m13 "cells" = some (.ref D4) :=
    ⟨_, _, _, (((F12.pm pu1).pm pu3).pm pu2).pm pu3, (((((Apt.c (Apt.c (Apt.c (Apt.c Apt.nil ne7) ne8) ne10) ne11).pm pu1).pm pu3).pm pu2).pm pu3), Nat.succ_ne_zero _, Nat.succ_ne_zero _, rfl, rfl, rfl⟩
  clear F5 F6 F7 F8 F9 F10 F11 F12 ne7 ne8 ne10 ne11
  have VE := (emptyX X).mono (P' := Add (At hb) D4 (listObj cs 0)) (fun _ _ q => .inl q)
  refine iterL F13 rfl pC (fun i P' m' own' => ∃ st cT cW, SJ [] P' m' own' (1 + 36 * i) (.ref D4) st o8 o11 cT cW) ⟨[⟨i7, [.int 5 x5], 0, i10, [.int 5 y5], 0, [.num 5]⟩], 0, 0, rfl, N13, q1, q2, q3, ⟨Reps.nil.snoc (Rep.num nx), Reps.nil.snoc (Rep.num ny), by simp, fun _ => by simp, trivial⟩, by simp, by simp⟩ ?_ ?_
  · rintro E' i x P' m' own' it io h tk' hx hP ⟨st, cT, cW, J⟩ ne F'
    obtain ⟨n, t, rfl, nz⟩ := hT4 x (List.mem_of_getElem? hx)
    have hi : i < 10 := by have := (List.getElem?_eq_some_iff.mp hx).1; omega
    obtain ⟨own1, J1, p1⟩ := J.inn (x := (it, io)) ne
    refine deed1 (F'.pm p1) (VE.mono hP) (J1.nm (m' := fun y => if y = Str.ofString "number" then some (.int n t) else m' y) rfl rfl rfl (Nat.le_refl _)) (by omega) (if_pos rfl) (fun P'' m'' h' tk' own2 st' cT' cW' F'' mo J'' => ?_)
    obtain ⟨own3, J3, p3, n3⟩ := J''.out
    exact ⟨h', _, P'', m'', own3, rfl, F''.pm p3, n3, mo, st', cT', cW', J3.nm rfl rfl rfl (by omega)⟩
  · rintro h14 tk14 P' m' own' F14 hP ⟨st, cT, cW, J⟩
    show wpAny _ _ (execs _ _) _ _ _
    refine lawTail F14 (VE.mono hP) (J.nm rfl rfl rfl (B' := 400) (by omega)) (hP _ _ pC) hT4 hc4 (fun h' tk' sb => ret h' tk' fun a o q => sb _ _ (hP _ _ (.inl q)))
theorem goodPost {args : List WData} : row.claim.post args (.bool true) args = true := by
  show (WShape.has [] (.bool true) .bool && (WTm.eq .res (.lit (.bool true))).holds [] { args := args, res := some (.bool true), after := args }) = true
  have e : (WTm.eq .res (.lit (.bool true))).value [] { args := args, res := some (.bool true), after := args } = some (.bool (same (.bool true) (.bool true))) := w_eq (by simp [WTm.value]) (by simp [WTm.value])
  have e2 : (WTm.eq .res (.lit (.bool true))).holds [] { args := args, res := some (.bool true), after := args } = true := by
    unfold WTm.holds
    rw [e, show same (WData.bool true) (WData.bool true) = true from by first | decide +kernel | kernel_rfl!]
  rw [e2]
  rfl
theorem goodTrue {cl : Str → Option Addr} {mean : ExcName → Option Value} {args : List WData} {s₁ s' : Shared} (hk : ∀ b o, s₁.heap.get? b = some o → s'.heap.get? b = some o) (hos : s'.os = s₁.os) (hg : s'.gens = #[]) : GoodW row.claim cl mean args s₁ (.ok (.ret (.bool true))) s' :=
  ⟨.inl ⟨.bool true, .bool true, [], rfl, fun cls => by rfl, .bool true, goodPost, fun _ => ⟨.nil, fun a h => nomatch h⟩⟩, hk, hos, hg⟩
theorem envEq (L fa : Nat) (cd : Value) : envOf lawRec.name lawRec.scope L fa cd = envL L fa cd := by first | rfl | kernel_rfl!
theorem ofInts : ∀ (ns : List Int), ∀ d ∈ ofPys (ns.map PyData.int), ∃ i, d = .int i
  | [], d, h => by simp [ofPys] at h
  | n :: ns, d, h => by
    simp only [List.map_cons, ofPys, List.mem_cons] at h
    rcases h with rfl | h
    · exact ⟨n, by rw [ofPy]⟩
    · exact ofInts ns d h
theorem intsToks : ∀ {xs : List Value} {ns : List Int}, IntsAre xs ns → (∀ x ∈ xs, Tk x) → Toks xs
  | _, _, .nil, _ => fun _ h => nomatch h
  | _, _, .cons n t r, k => fun y hy => by
    rcases List.mem_cons.mp hy with rfl | hy
    · exact ⟨_, _, rfl, k _ (.head _) _ _ rfl⟩
    · exact intsToks r (fun x q => k x (.tail _ q)) y hy
theorem walk : WalkT qv loose (XL qv lv) hook.says row lawRec [] (fun f vs => PySem.call f vs) := by
  w_on
  k_fill
  intro w s₀ s₁ mg mb G Y fa o pm cd doc dV kV ho hd hcd hD hmg hg args vals as hpre hlay hrd hwl hlo hLd htk
  have KX := kIn_of Y
  have hTok : ∀ ds, args = [.list ds] → (∀ d ∈ ds, ∃ i, d = .int i) → ∀ v, vals = [v] → ∀ (a : Nat) (vs : List Value), v = .ref a → s₁.heap.IsList a vs.toArray → ∀ x ∈ vs, Tk x := by
    intro ds e hds v e2 a vs e3 hl
    obtain ⟨ord, _, hlaid⟩ := hLd.laid
    rw [e, e2] at hlaid
    exact layList hds hlaid htk e3 hl
  clear hLd htk
  k_behind G ho hd hcd hD hmg hpre hlay hrd hwl hlo cd
  rename_i X V GL T B TE TW w9 w8 M w7 w6 ns hs hlay0 hL1 hr1 hl2 w4 w3 a vs w0 hL ra w1 r0 hI hr hc1 hc2 K0 h1 F N0
  have hT := intsToks hI (hTok _ (by rw [ofPy]) (ofInts ns) _ rfl a vs rfl hL)
  have hlen := hI.length
  have hn : vs.length ≤ 63 := by omega
  have G0 : Gr w mg mb s₁.heap := ⟨KX, T.g, T.b, T.nolimit, T.builtins⟩
  have F0 := Fm.mk (w := w) (mg := mg) (mb := mb) (P := At s₁.heap) (own := []) (G0.sub F.keep) F.ns G0.size (fun a o q e => absurd (ltS q) (by rw [e]; exact Nat.lt_irrefl _)) F.keep (fun p hp => nomatch hp)
  rw [envEq]
  refine lawMain (s := { s₁ with heap := h1, toks := _ }) (a := a) F0 KX (by rfl) hL hT hn (fun h' tk' sb => ?_)
  exact goodTrue sb rfl hg
end Mine
theorem PySem.Challenge.cw_md0020_06_holds : PySem.Challenge.rw_md0020_06.Holds :=
  Mine.hd Mine.walk
