import PyProof.Rows.All
import Wide.All
import OpenK.AllK
import Wide.FinOn
import KE.KLcTest
import KE.KOwnIter
import PyProof.CollectIter
import Lean
import PySem.Challenge.RW_kt0073_01
open PySem PySem.W PySem.Calls PyProof.Rows
set_option Elab.async false
set_option linter.unusedVariables false
set_option maxRecDepth 100000
set_option maxHeartbeats 8000000
set_option linter.unusedSimpArgs false
namespace Mine
section
set_option tactic.hygienic false
noncomputable def topRunT (tb : String → Option Builtin) (p : Program) (w : World) (n₀ : Nat) (ann : Option Value) : Nat → SharedT → Thread → Option SharedT
  | 0, _, _ => none
  | n + 1, s, t => match through t with
    | true => some s
    | false => match stepOk n₀ ann t with
      | false => none
      | true => match stepT (denote tb) p w s t with
        | some r => topRunT tb p w n₀ ann n r.1 r.2
        | none => none
theorem topRunT_of {tb : String → Option Builtin} {p : Program} {w : World} {n₀ : Nat} {ann : Option Value} : ∀ {n : Nat} {s s' : SharedT} {t : Thread}, topRunT tb p w n₀ ann n s t = some s' → topRun tb p w n₀ ann n s.abs t = some s'.abs
  | 0, _, _, _, h => by cases h
  | n + 1, s, s', t, h => by
    unfold topRunT at h
    unfold topRun
    cases ht : through t with
    | true => rw [ht] at h; cases h; rfl
    | false =>
      rw [ht] at h
      cases hk : stepOk n₀ ann t with
      | false => rw [hk] at h; cases h
      | true =>
        rw [hk] at h
        cases hs : stepT (denote tb) p w s t with
        | none => rw [hs] at h; cases h
        | some r => obtain ⟨s₂, t₂⟩ := r; rw [hs] at h; dsimp only; rw [stepT_spec hs]; exact topRunT_of h
noncomputable def build : List Obj → BT → Nat → Option BT
  | [], t, _ => some t
  | o :: r, t, n => match ((t.ins n o).get n).isSome with
    | true => build r (t.ins n o) (n + 1)
    | false => none
theorem build_abs {life : Life} : ∀ {l : List Obj} {t t' : BT} {n : Nat}, build l t n = some t' → absHeap t' (n + l.length) life = ⟨((absHeap t n life).objs.toList ++ l).toArray, life⟩
  | [], t, t', n, h => by
    cases h
    simp only [List.length_nil, Nat.add_zero, List.append_nil]
    rfl
  | o :: r, t, t', n, h => by
    unfold build at h
    cases e : ((t.ins n o).get n).isSome with
    | false => rw [e] at h; cases h
    | true =>
      rw [e] at h
      have ih := build_abs (life := life) h
      rw [absHeap_ins e] at ih
      have : n + (o :: r).length = n + 1 + r.length := by simp only [List.length_cons]; (first | lia | omega)
      rw [this, ih]
      have e2 : ((absHeap t n life).push o).objs.toList = (absHeap t n life).objs.toList ++ [o] := by
        show ((absHeap t n life).objs.push o).toList = _
        rw [Array.toList_push]
      rw [e2, List.append_assoc]; rfl
noncomputable def toT (s : Shared) : Option SharedT := (build s.heap.objs.toList .nil 0).map fun t => ⟨t, s.heap.objs.toList.length, s.heap.life, s.gens, s.drawn, s.toks, s.os⟩
theorem toT_abs {s : Shared} {st : SharedT} (h : toT s = some st) : st.abs = s := by
  unfold toT at h
  cases e : build s.heap.objs.toList .nil 0 with
  | none => rw [e] at h; cases h
  | some t =>
    rw [e] at h
    cases h
    have := build_abs (life := s.heap.life) e
    rw [Nat.zero_add] at this
    show Shared.mk (absHeap t s.heap.objs.toList.length s.heap.life) _ _ _ _ = s
    rw [this]
    have e0 : (absHeap BT.nil 0 s.heap.life).objs.toList = [] := rfl
    rw [e0, List.nil_append, Array.toArray_toList]
noncomputable def topFromT (tb : String → Option Builtin) (p : Program) (w : World) (N : Nat) (s₀ : Shared) : Option SharedT :=
  match s₀.heap.isNs mainGlobals && s₀.gens.size == 0 with
  | true => (toT s₀).bind fun st => (topRunT tb p w s₀.heap.objs.size (s₀.heap.nsMap mainGlobals "__annotations__") N st (topStub p)).bind fun s₁ =>
    match staticsOk (importedModules p.main.body) s₀.heap s₁.abs.heap && namesBound p s₁.abs.heap && gensDone s₁.abs && laidKept s₀.heap s₁.abs.heap with
      | true => some s₁
      | false => none
  | false => none
theorem topFromT_of {tb : String → Option Builtin} {p : Program} {w : World} {N : Nat} {s₀ : Shared} {st : SharedT} (h : topFromT tb p w N s₀ = some st) : topFrom tb p w N s₀ = some st.abs := by
  unfold topFromT at h
  unfold topFrom
  cases e : s₀.heap.isNs mainGlobals && s₀.gens.size == 0 with
  | false => rw [e] at h; cases h
  | true =>
    rw [e] at h
    cases e2 : toT s₀ with
    | none => rw [e2] at h; cases h
    | some s2 =>
      rw [e2] at h
      simp only [Option.bind_some] at h
      cases e3 : topRunT tb p w s₀.heap.objs.size (s₀.heap.nsMap mainGlobals "__annotations__") N s2 (topStub p) with
      | none => rw [e3] at h; cases h
      | some s3 =>
        rw [e3] at h
        simp only [Option.bind_some] at h
        have r := topRunT_of e3
        rw [toT_abs e2] at r
        try dsimp only
        rw [r]
        simp only [Option.bind_some]
        cases e4 : (staticsOk (importedModules p.main.body) s₀.heap s3.abs.heap && namesBound p s3.abs.heap && gensDone s3.abs && laidKept s₀.heap s3.abs.heap) with
        | false => rw [e4] at h; cases h
        | true => rw [e4] at h; cases h; rfl
noncomputable def openEndsT (tb : String → Option Builtin) (p : Program) (w : World) (N : Nat) : Option SharedT := (fencedOpening tb p w N).bind (topFromT tb p w N)
theorem openEndsT_of {tb : String → Option Builtin} {p : Program} {w : World} {N : Nat} {st : SharedT} (h : openEndsT tb p w N = some st) : openEnds tb p w N = some st.abs := by
  unfold openEndsT at h
  unfold openEnds
  cases e : fencedOpening tb p w N with
  | none => rw [e] at h; cases h
  | some s => rw [e] at h; simp only [Option.bind_some] at h ⊢; exact topFromT_of h
theorem left_of {p q : Program} {loose : List Str} {Xt : Shared → Bool} {α : Type} {Yf : Shared → α} {Ya : World → α} {N : Nat} {g0 : Bool}
    (h : ∀ w, (openEndsT treeTable p w N).map (fun st => (openSeen q loose (importedModules p.main.body) Xt g0 st.abs, Yf st.abs)) = some (openGood q loose, Ya w)) : LeftO p q loose Xt Yf Ya N g0 := by
  intro w
  have hw := h w
  cases e : openEndsT treeTable p w N with
  | none => rw [e] at hw; cases hw
  | some st =>
    rw [e] at hw
    rw [openEndsT_of e]
    exact hw
noncomputable def denF : Code → Sem Fin := PySem.W.Fast.tw11892475500146522536 PySem.W.Fast.tw14364793385576792824
theorem denF_eq : denote treeTable = denF := by
  unfold denF
  rw [← PySem.W.Fast.te11892475500146522536, ← PySem.W.Fast.te14364793385576792824]
noncomputable def topRunF (p : Program) (w : World) (n₀ : Nat) (ann : Option Value) : Nat → SharedT → Thread → Option SharedT
  | 0, _, _ => none
  | n + 1, s, t => match through t with
    | true => some s
    | false => match PySem.W.Fast.tw6613529449190102663 n₀ ann t with
      | false => none
      | true => match PySem.W.Fast.tw10156331382660048174 denF p w s t with
        | some r => topRunF p w n₀ ann n r.1 r.2
        | none => none
theorem topRunF_eq {p : Program} {w : World} {n₀ : Nat} {ann : Option Value} : ∀ (n : Nat) (s : SharedT) (t : Thread), topRunT treeTable p w n₀ ann n s t = topRunF p w n₀ ann n s t
  | 0, _, _ => rfl
  | n + 1, s, t => by
    unfold topRunT topRunF
    rw [← denF_eq, ← PySem.W.Fast.te6613529449190102663, ← PySem.W.Fast.te10156331382660048174]
    cases through t with
    | true => rfl
    | false =>
      cases stepOk n₀ ann t with
      | false => rfl
      | true =>
        try dsimp only
        cases stepT (denote treeTable) p w s t with
        | none => rfl
        | some r => exact topRunF_eq n r.1 r.2
theorem openEndsT_fast_aux {p : Program} {w : World} {n₀ : Nat} {ann : Option Value} : topRunT treeTable p w n₀ ann = topRunF p w n₀ ann := by
  funext n s t; exact topRunF_eq n s t
noncomputable def topFromF (run : Nat → Option Value → Nat → SharedT → Thread → Option SharedT) (p : Program) (N : Nat) (s₀ : Shared) : Option SharedT :=
  match s₀.heap.isNs mainGlobals && s₀.gens.size == 0 with
  | true => (toT s₀).bind fun st => (run s₀.heap.objs.size (s₀.heap.nsMap mainGlobals "__annotations__") N st (topStub p)).bind fun s₁ =>
    match staticsOk (importedModules p.main.body) s₀.heap s₁.abs.heap && namesBound p s₁.abs.heap && gensDone s₁.abs && laidKept s₀.heap s₁.abs.heap with
      | true => some s₁
      | false => none
  | false => none
theorem openEndsT_fast {p : Program} {w : World} {N : Nat} : openEndsT treeTable p w N = ((PySem.W.Fast.tw10274390034422433532 PySem.W.Fast.tw14364793385576792824 (opening p) w N (PySem.W.Fast.tw1435165496053646825 (opening p)).1 (PySem.W.Fast.tw1435165496053646825 (opening p)).2).bind (fenceModules? p)).bind (topFromF (topRunF p w) p N) := by
  unfold openEndsT fencedOpening
  rw [← PySem.W.Fast.te10274390034422433532, ← PySem.W.Fast.te1435165496053646825, ← PySem.W.Fast.te14364793385576792824]
  congr 1
  funext s
  unfold topFromT topFromF
  rw [openEndsT_fast_aux]
-- the part of the heap that the walk reads
noncomputable def st (i : Nat) : Stmt := PySem.Challenge.pw_kt0073_01.main.body[i]?.getD (.Pass ⟨0, 0, 0, 0⟩)
noncomputable def mem (i j : Nat) : Stmt := match st i with
  | .ClassDef _ _ _ b _ _ _ _ _ _ _ => b[j]?.getD (.Pass ⟨0, 0, 0, 0⟩)
  | s => s
noncomputable def en (P : Params) (x : String) (t : Tok) (v : Value) : DictEntry := ⟨PyData.keyHash P (Str.ofString x), .str (Str.ofString x) t, v⟩
noncomputable def kc (n : String) (bases mro : List Value) (ns : Addr) (qn : String) (hd : Bool) (sl : List Str) (sub : List Value) (ab del : Bool) : ClassData :=
  { name := Str.ofString n, bases := bases, mro := mro, ns := ns, qualname := Str.ofString qn, hasDict := hd, slotNames := sl, subclasses := sub, abstract := ab, collection := none, hasDel := del }
noncomputable def fnO (s : Stmt) (qn : String) (dV kV doc pm cd : Value) : Obj := match s with
  | .FunctionDef n a b _ _ _ sc _ _ _ => ⟨.type "function", none, .func { name := n, qualname := Str.ofString qn, params := a, body := .stmts b, scope := sc, globals := 3, closure := [], defaults := dV, kwdefaults := kV, doc := doc, pyModule := pm, annotations := none, code := cd, closureTuple := .none, builtins := 0 }, #[]⟩
  | _ => default
noncomputable def o2 (P : Params) : Obj := ⟨Value.none, none, (Data.dict (List.toArray [en P "im\x70ort.loaded._collections" 185 (Value.bool true), en P "class._frozen_importlib.BuiltinImporter" 187 (Value.ref 15), en P "watched.im\x70ort" 208 (Value.ref 19), en P "class._frozen_importlib.ModuleSpec" 218 (Value.ref 23), en P "sys.modules.booked-epoch" 247 (Value.int (3) 0), en P "sys.modules.landed._collections" 248 (Value.bool true), en P "im\x70ort.later-laid._collections" 263 (Value.bool true), en P "watched.library" 265 (Value.ref 28), en P "watched.library-objects" 0 (Value.str (Str.ofString "\x0d") 0), en P "watched.library-deep._collections" 266 (Value.str (Str.ofString "\x04\x00\x00\x0c\x04\x00\x00\x0c\x04\x00\x00\x03\x04\x00\x00\x0c\x08\x04dict\x02") 0), en P "type.__subclasses__.OSError.0" 476 (Value.int (167) 0), en P "type.__subclasses__.OSError.n" 477 (Value.int (1) 0)]) 12), (List.toArray ([] : List (Option Value)))⟩
noncomputable def o3 (P : Params) : Obj := ⟨(Value.type "dict"), none, (Data.dict (List.toArray [en P "__name__" 165 (Value.str (Str.ofString "law_kt0073_01") 1465), en P "__doc__" 166 Value.none, en P "__package__" 167 Value.none, en P "__loader__" 168 (Value.builtin "__main__.__loader__#opaque"), en P "__spec__" 169 Value.none, en P "__annotations__" 170 (Value.ref 6), en P "__builtins__" 171 (Value.ref 4), en P "__file__" 173 (Value.str (Str.ofString "/claim/cut.py") 172), en P "__cached__" 174 Value.none, en P "deque" 272 (Value.type "collections.deque"), en P "_wall" 285 (Value.ref 39), en P "sep" 287 (Value.str (Str.ofString "/") 286), en P "_kind" 298 (Value.ref 46), en P "_fspath" 307 (Value.ref 53), en P "_check_arg_types" 317 (Value.ref 60), en P "isabs" 324 (Value.ref 67), en P "join" 335 (Value.ref 74), en P "_c_path" 348 (Value.ref 81), en P "_shelf_fresh" 355 (Value.ref 88), en P "_splitroot" 364 (Value.ref 95), en P "dirname" 374 (Value.ref 102), en P "_normpath" 389 (Value.ref 109), en P "normpath" 397 (Value.ref 116), en P "_Ignore" 439 (Value.ref 139), en P "_whence" 449 (Value.ref 150), en P "_index" 457 (Value.ref 157), en P "UnsupportedOperation" 479 (Value.ref 167), en P "IOBase" 511 (Value.ref 187), en P "BufferedIOBase" 529 (Value.ref 202), en P "TextIOBase" 547 (Value.ref 214), en P "BytesIO" 809 (Value.ref 444), en P "StringIO" 1096 (Value.ref 691), en P "shlex" 1243 (Value.ref 784), en P "split" 1254 (Value.ref 796), en P "_tuplegetter" 1313 (Value.ref 835), en P "Mismatch" 1441 (Value.ref 910), en P "_Mismatch" 1442 (Value.ref 910), en P "_count_diff_all_purpose" 1464 (Value.ref 920), en P "_law_rows" 1479 (Value.ref 927), en P "_law_told" 1485 (Value.ref 932), en P "_law_due" 1491 (Value.ref 937), en P "law" 1499 (Value.ref 944)]) 42), (List.toArray ([] : List (Option Value)))⟩
noncomputable def o124 (P : Params) : Obj := ⟨(Value.type "tuple"), none, (Data.seq (List.toArray [Value.none, Value.none]) 0), (List.toArray ([] : List (Option Value)))⟩
noncomputable def o128 (P : Params) : Obj := ⟨(Value.type "code"), none, (Data.fields (List.toArray [(Value.str (Str.ofString "__init__") 412), (Value.str (Str.ofString "_Ignore.__init__") 413), (Value.str (Str.ofString "/claim/cut.py") 414), (Value.int (117) 0), (Value.int (3) 0), (Value.int (0) 0), (Value.int (0) 0), (Value.int (3) 0), (Value.ref 125), (Value.bool true), (Value.int (273) 0), (Value.ref 126), Value.none, Value.none, Value.none, (Value.ref 127), (Value.int (415) 0), (Value.int (117) 0), (Value.str (Str.ofString "/claim/cut.py") 416)])), (List.toArray ([] : List (Option Value)))⟩
noncomputable def o129 (P : Params) : Obj := fnO (mem 16 0) "_Ignore.__init__" (Value.ref 124) Value.none Value.none (Value.str (Str.ofString "cpy313.trace") 398) (Value.ref 128)
noncomputable def o135 (P : Params) : Obj := ⟨(Value.type "code"), none, (Data.fields (List.toArray [(Value.str (Str.ofString "names") 418), (Value.str (Str.ofString "_Ignore.names") 419), (Value.str (Str.ofString "/claim/cut.py") 420), (Value.int (122) 0), (Value.int (3) 0), (Value.int (0) 0), (Value.int (0) 0), (Value.int (3) 0), (Value.ref 130), (Value.bool true), (Value.int (273) 0), (Value.ref 131), Value.none, (Value.ref 132), (Value.ref 133), (Value.ref 134), (Value.int (426) 0), (Value.int (122) 0), (Value.str (Str.ofString "/claim/cut.py") 427)])), (List.toArray ([] : List (Option Value)))⟩
noncomputable def o136 (P : Params) : Obj := fnO (mem 16 1) "_Ignore.names" Value.none Value.none Value.none (Value.str (Str.ofString "cpy313.trace") 398) (Value.ref 135)
noncomputable def o138 (P : Params) : Obj := ⟨(Value.type "dict"), none, (Data.dict (List.toArray [en P "__module__" 407 (Value.str (Str.ofString "cpy313.trace") 398), en P "__firstlineno__" 411 (Value.int (115) 410), en P "__init__" 417 (Value.ref 129), en P "names" 428 (Value.ref 136), en P "__static_attributes__" 432 (Value.ref 137), en P "__dict__" 434 (Value.ref 140), en P "__weakref__" 436 (Value.ref 141), en P "__doc__" 437 Value.none]) 4), (List.toArray ([] : List (Option Value)))⟩
noncomputable def o139 (P : Params) : Obj := ⟨(Value.type "type"), none, (Data.cls (kc "_Ignore" [(Value.type "object")] [(Value.ref 139), (Value.type "object")] 138 "_Ignore" true [] [] false false)), (List.toArray ([none, none, (some (Value.str (Str.ofString "_Ignore") 400)), (some (Value.str (Str.ofString "_Ignore") 408)), (some (Value.builtin "object.__new__")), (some (Value.bool true))] : List (Option Value)))⟩
noncomputable def o156 (P : Params) : Obj := ⟨(Value.type "code"), none, (Data.fields (List.toArray [(Value.str (Str.ofString "_index") 450), (Value.str (Str.ofString "_index") 451), (Value.str (Str.ofString "/claim/cut.py") 452), (Value.int (147) 0), (Value.int (2) 0), (Value.int (0) 0), (Value.int (0) 0), (Value.int (3) 0), (Value.ref 151), (Value.bool true), (Value.int (273) 0), (Value.ref 152), Value.none, (Value.ref 153), (Value.ref 154), (Value.ref 155), (Value.int (455) 0), (Value.int (147) 0), (Value.str (Str.ofString "/claim/cut.py") 456)])), (List.toArray ([] : List (Option Value)))⟩
noncomputable def o157 (P : Params) : Obj := fnO (st 19) "_index" Value.none Value.none Value.none (Value.str (Str.ofString "io") 440) (Value.ref 156)
noncomputable def o183 (P : Params) : Obj := ⟨(Value.type "code"), none, (Data.fields (List.toArray [(Value.str (Str.ofString "__new__") 494), (Value.str (Str.ofString "IOBase.__new__") 495), (Value.str (Str.ofString "/claim/cut.py") 496), (Value.int (159) 0), (Value.int (1) 0), (Value.int (1) 0), (Value.int (0) 0), (Value.int (15) 0), (Value.ref 178), (Value.bool true), (Value.int (273) 0), (Value.ref 179), Value.none, (Value.ref 180), (Value.ref 181), (Value.ref 182), (Value.int (500) 0), (Value.int (159) 0), (Value.str (Str.ofString "/claim/cut.py") 501)])), (List.toArray ([] : List (Option Value)))⟩
noncomputable def o184 (P : Params) : Obj := fnO (mem 21 1) "IOBase.__new__" Value.none Value.none Value.none (Value.str (Str.ofString "io") 440) (Value.ref 183)
noncomputable def o186 (P : Params) : Obj := ⟨(Value.type "dict"), none, (Data.dict (List.toArray [en P "__module__" 487 (Value.str (Str.ofString "io") 492), en P "__firstlineno__" 491 (Value.int (156) 490), en P "__new__" 502 (Value.ref 188), en P "__static_attributes__" 503 (Value.ref 185), en P "__dict__" 506 (Value.ref 189), en P "__weakref__" 508 (Value.ref 190), en P "__doc__" 509 Value.none]) 4), (List.toArray ([] : List (Option Value)))⟩
noncomputable def o187 (P : Params) : Obj := ⟨(Value.type "type"), none, (Data.cls (kc "IOBase" [(Value.type "object")] [(Value.ref 187), (Value.type "object")] 186 "IOBase" true [] [(Value.ref 202), (Value.ref 214)] false false)), (List.toArray ([none, none, (some (Value.str (Str.ofString "IOBase") 480)), (some (Value.str (Str.ofString "IOBase") 488)), (some Value.none), (some (Value.bool true))] : List (Option Value)))⟩
noncomputable def o188 (P : Params) : Obj := ⟨(Value.type "staticmethod"), none, (Data.fields (List.toArray [(Value.ref 184)])), (List.toArray ([] : List (Option Value)))⟩
noncomputable def o213 (P : Params) : Obj := ⟨(Value.type "dict"), none, (Data.dict (List.toArray [en P "__module__" 537 (Value.str (Str.ofString "io") 542), en P "__firstlineno__" 541 (Value.int (165) 540), en P "__static_attributes__" 544 (Value.ref 212), en P "__doc__" 545 Value.none]) 2), (List.toArray ([] : List (Option Value)))⟩
noncomputable def o214 (P : Params) : Obj := ⟨(Value.type "type"), none, (Data.cls (kc "TextIOBase" [(Value.ref 187)] [(Value.ref 214), (Value.ref 187), (Value.type "object")] 213 "TextIOBase" true [] [(Value.ref 691)] false false)), (List.toArray ([(some (Value.ref 205)), none, (some (Value.str (Str.ofString "TextIOBase") 530)), (some (Value.str (Str.ofString "TextIOBase") 538)), (some Value.none), (some (Value.bool true))] : List (Option Value)))⟩
noncomputable def o444 (P : Params) : Obj := ⟨(Value.type "type"), none, (Data.cls (kc "BytesIO" [(Value.ref 202)] [(Value.ref 444), (Value.ref 202), (Value.ref 187), (Value.type "object")] 443 "BytesIO" true [] [] false false)), (List.toArray ([(some (Value.ref 217)), none, (some (Value.str (Str.ofString "BytesIO") 548)), (some (Value.str (Str.ofString "BytesIO") 556)), (some Value.none), (some (Value.bool true))] : List (Option Value)))⟩
noncomputable def o454 (P : Params) : Obj := ⟨(Value.type "tuple"), none, (Data.seq (List.toArray [(Value.str (Str.ofString "") 824), (Value.str (Str.ofString "\n") 825)]) 0), (List.toArray ([] : List (Option Value)))⟩
noncomputable def o460 (P : Params) : Obj := ⟨(Value.type "code"), none, (Data.fields (List.toArray [(Value.str (Str.ofString "__init__") 826), (Value.str (Str.ofString "StringIO.__init__") 827), (Value.str (Str.ofString "/claim/cut.py") 828), (Value.int (340) 0), (Value.int (3) 0), (Value.int (0) 0), (Value.int (0) 0), (Value.int (3) 0), (Value.ref 455), (Value.bool true), (Value.int (273) 0), (Value.ref 456), Value.none, (Value.ref 457), (Value.ref 458), (Value.ref 459), (Value.int (832) 0), (Value.int (340) 0), (Value.str (Str.ofString "/claim/cut.py") 833)])), (List.toArray ([] : List (Option Value)))⟩
noncomputable def o461 (P : Params) : Obj := fnO (mem 25 1) "StringIO.__init__" (Value.ref 454) Value.none Value.none (Value.str (Str.ofString "io") 440) (Value.ref 460)
noncomputable def o467 (P : Params) : Obj := ⟨(Value.type "code"), none, (Data.fields (List.toArray [(Value.str (Str.ofString "__translated") 835), (Value.str (Str.ofString "StringIO.__translated") 836), (Value.str (Str.ofString "/claim/cut.py") 837), (Value.int (353) 0), (Value.int (2) 0), (Value.int (0) 0), (Value.int (0) 0), (Value.int (3) 0), (Value.ref 462), (Value.bool true), (Value.int (273) 0), (Value.ref 463), Value.none, (Value.ref 464), (Value.ref 465), (Value.ref 466), (Value.int (841) 0), (Value.int (353) 0), (Value.str (Str.ofString "/claim/cut.py") 842)])), (List.toArray ([] : List (Option Value)))⟩
noncomputable def o468 (P : Params) : Obj := fnO (mem 25 2) "StringIO.__translated" Value.none Value.none Value.none (Value.str (Str.ofString "io") 440) (Value.ref 467)
noncomputable def o474 (P : Params) : Obj := ⟨(Value.type "code"), none, (Data.fields (List.toArray [(Value.str (Str.ofString "__check") 844), (Value.str (Str.ofString "StringIO.__check") 845), (Value.str (Str.ofString "/claim/cut.py") 846), (Value.int (361) 0), (Value.int (1) 0), (Value.int (0) 0), (Value.int (0) 0), (Value.int (3) 0), (Value.ref 469), (Value.bool true), (Value.int (273) 0), (Value.ref 470), Value.none, (Value.ref 471), (Value.ref 472), (Value.ref 473), (Value.int (848) 0), (Value.int (361) 0), (Value.str (Str.ofString "/claim/cut.py") 849)])), (List.toArray ([] : List (Option Value)))⟩
noncomputable def o475 (P : Params) : Obj := fnO (mem 25 3) "StringIO.__check" Value.none Value.none Value.none (Value.str (Str.ofString "io") 440) (Value.ref 474)
noncomputable def o488 (P : Params) : Obj := ⟨(Value.type "code"), none, (Data.fields (List.toArray [(Value.str (Str.ofString "__line") 858), (Value.str (Str.ofString "StringIO.__line") 859), (Value.str (Str.ofString "/claim/cut.py") 860), (Value.int (369) 0), (Value.int (2) 0), (Value.int (0) 0), (Value.int (0) 0), (Value.int (3) 0), (Value.ref 483), (Value.bool true), (Value.int (273) 0), (Value.ref 484), Value.none, (Value.ref 485), (Value.ref 486), (Value.ref 487), (Value.int (870) 0), (Value.int (369) 0), (Value.str (Str.ofString "/claim/cut.py") 871)])), (List.toArray ([] : List (Option Value)))⟩
noncomputable def o489 (P : Params) : Obj := fnO (mem 25 5) "StringIO.__line" Value.none Value.none Value.none (Value.str (Str.ofString "io") 440) (Value.ref 488)
noncomputable def o630 (P : Params) : Obj := ⟨(Value.type "tuple"), none, (Data.seq (List.toArray [(Value.int (-1) 1017)]) 0), (List.toArray ([] : List (Option Value)))⟩
noncomputable def o636 (P : Params) : Obj := ⟨(Value.type "code"), none, (Data.fields (List.toArray [(Value.str (Str.ofString "read") 1018), (Value.str (Str.ofString "StringIO.read") 1019), (Value.str (Str.ofString "/claim/cut.py") 1020), (Value.int (483) 0), (Value.int (2) 0), (Value.int (2) 0), (Value.int (0) 0), (Value.int (3) 0), (Value.ref 631), (Value.bool true), (Value.int (273) 0), (Value.ref 632), Value.none, (Value.ref 633), (Value.ref 634), (Value.ref 635), (Value.int (1025) 0), (Value.int (483) 0), (Value.str (Str.ofString "/claim/cut.py") 1026)])), (List.toArray ([] : List (Option Value)))⟩
noncomputable def o637 (P : Params) : Obj := fnO (mem 25 25) "StringIO.read" (Value.ref 630) Value.none Value.none (Value.str (Str.ofString "io") 440) (Value.ref 636)
noncomputable def o638 (P : Params) : Obj := ⟨(Value.type "tuple"), none, (Data.seq (List.toArray [(Value.int (-1) 1029)]) 0), (List.toArray ([] : List (Option Value)))⟩
noncomputable def o644 (P : Params) : Obj := ⟨(Value.type "code"), none, (Data.fields (List.toArray [(Value.str (Str.ofString "readline") 1030), (Value.str (Str.ofString "StringIO.readline") 1031), (Value.str (Str.ofString "/claim/cut.py") 1032), (Value.int (497) 0), (Value.int (2) 0), (Value.int (2) 0), (Value.int (0) 0), (Value.int (3) 0), (Value.ref 639), (Value.bool true), (Value.int (273) 0), (Value.ref 640), Value.none, (Value.ref 641), (Value.ref 642), (Value.ref 643), (Value.int (1035) 0), (Value.int (497) 0), (Value.str (Str.ofString "/claim/cut.py") 1036)])), (List.toArray ([] : List (Option Value)))⟩
noncomputable def o645 (P : Params) : Obj := fnO (mem 25 26) "StringIO.readline" (Value.ref 638) Value.none Value.none (Value.str (Str.ofString "io") 440) (Value.ref 644)
noncomputable def o690 (P : Params) : Obj := ⟨(Value.type "dict"), none, (Data.dict (List.toArray [en P "__module__" 817 (Value.str (Str.ofString "_io") 822), en P "__firstlineno__" 821 (Value.int (337) 820), en P "__init__" 834 (Value.ref 461), en P "_StringIO__translated" 843 (Value.ref 468), en P "_StringIO__check" 850 (Value.ref 475), en P "_StringIO__check_dot" 857 (Value.ref 482), en P "_StringIO__line" 872 (Value.ref 489), en P "closed" 880 (Value.ref 497), en P "line_buffering" 888 (Value.ref 505), en P "newlines" 896 (Value.ref 513), en P "encoding" 904 (Value.ref 521), en P "errors" 912 (Value.ref 529), en P "close" 919 (Value.ref 536), en P "__enter__" 926 (Value.ref 543), en P "__exit__" 934 (Value.ref 550), en P "readable" 941 (Value.ref 557), en P "writable" 948 (Value.ref 564), en P "seekable" 955 (Value.ref 571), en P "isatty" 962 (Value.ref 578), en P "flush" 969 (Value.ref 585), en P "fileno" 976 (Value.ref 592), en P "detach" 983 (Value.ref 599), en P "getvalue" 990 (Value.ref 606), en P "tell" 997 (Value.ref 613), en P "seek" 1007 (Value.ref 621), en P "truncate" 1015 (Value.ref 629), en P "read" 1027 (Value.ref 637), en P "readline" 1037 (Value.ref 645), en P "readlines" 1047 (Value.ref 653), en P "__iter__" 1054 (Value.ref 660), en P "__next__" 1062 (Value.ref 667), en P "write" 1074 (Value.ref 674), en P "writelines" 1082 (Value.ref 681), en P "__repr__" 1089 (Value.ref 688), en P "__static_attributes__" 1093 (Value.ref 689), en P "__doc__" 1094 Value.none]) 2), (List.toArray ([] : List (Option Value)))⟩
noncomputable def o691 (P : Params) : Obj := ⟨(Value.type "type"), none, (Data.cls (kc "StringIO" [(Value.ref 214)] [(Value.ref 691), (Value.ref 214), (Value.ref 187), (Value.type "object")] 690 "StringIO" true [] [] false false)), (List.toArray ([(some (Value.ref 447)), none, (some (Value.str (Str.ofString "StringIO") 810)), (some (Value.str (Str.ofString "StringIO") 818)), (some Value.none), (some (Value.bool true))] : List (Option Value)))⟩
noncomputable def o701 (P : Params) : Obj := ⟨(Value.type "tuple"), none, (Data.seq (List.toArray [Value.none, Value.none, (Value.bool false), (Value.bool false)]) 0), (List.toArray ([] : List (Option Value)))⟩
noncomputable def o707 (P : Params) : Obj := ⟨(Value.type "code"), none, (Data.fields (List.toArray [(Value.str (Str.ofString "__init__") 1114), (Value.str (Str.ofString "shlex.__init__") 1115), (Value.str (Str.ofString "/claim/cut.py") 1116), (Value.int (546) 0), (Value.int (5) 0), (Value.int (0) 0), (Value.int (0) 0), (Value.int (3) 0), (Value.ref 702), (Value.bool true), (Value.int (273) 0), (Value.ref 703), Value.none, (Value.ref 704), (Value.ref 705), (Value.ref 706), (Value.int (1123) 0), (Value.int (546) 0), (Value.str (Str.ofString "/claim/cut.py") 1124)])), (List.toArray ([] : List (Option Value)))⟩
noncomputable def o708 (P : Params) : Obj := fnO (mem 27 1) "shlex.__init__" (Value.ref 701) Value.none Value.none (Value.str (Str.ofString "cpy313.shlex") 1097) (Value.ref 707)
noncomputable def o714 (P : Params) : Obj := ⟨(Value.type "code"), none, (Data.fields (List.toArray [(Value.str (Str.ofString "punctuation_chars") 1126), (Value.str (Str.ofString "shlex.punctuation_chars") 1127), (Value.str (Str.ofString "/claim/cut.py") 1128), (Value.int (587) 0), (Value.int (1) 0), (Value.int (0) 0), (Value.int (0) 0), (Value.int (3) 0), (Value.ref 709), (Value.bool true), (Value.int (273) 0), (Value.ref 710), Value.none, (Value.ref 711), (Value.ref 712), (Value.ref 713), (Value.int (1130) 0), (Value.int (587) 0), (Value.str (Str.ofString "/claim/cut.py") 1131)])), (List.toArray ([] : List (Option Value)))⟩
noncomputable def o715 (P : Params) : Obj := fnO (mem 27 2) "shlex.punctuation_chars" Value.none Value.none Value.none (Value.str (Str.ofString "cpy313.shlex") 1097) (Value.ref 714)
noncomputable def o716 (P : Params) : Obj := ⟨(Value.type "property"), none, (Data.fields (List.toArray [(Value.ref 715), Value.none, Value.none, Value.none, (Value.str (Str.ofString "punctuation_chars") 1133), (Value.bool false)])), (List.toArray ([] : List (Option Value)))⟩
noncomputable def o744 (P : Params) : Obj := ⟨(Value.type "code"), none, (Data.fields (List.toArray [(Value.str (Str.ofString "get_token") 1160), (Value.str (Str.ofString "shlex.get_token") 1161), (Value.str (Str.ofString "/claim/cut.py") 1162), (Value.int (616) 0), (Value.int (1) 0), (Value.int (0) 0), (Value.int (0) 0), (Value.int (3) 0), (Value.ref 739), (Value.bool true), (Value.int (273) 0), (Value.ref 740), Value.none, (Value.ref 741), (Value.ref 742), (Value.ref 743), (Value.int (1169) 0), (Value.int (616) 0), (Value.str (Str.ofString "/claim/cut.py") 1170)])), (List.toArray ([] : List (Option Value)))⟩
noncomputable def o745 (P : Params) : Obj := fnO (mem 27 6) "shlex.get_token" Value.none Value.none (Value.str (Str.ofString "Get a token from the input stream (or from stack if it's nonempty)") 1171) (Value.str (Str.ofString "cpy313.shlex") 1097) (Value.ref 744)
noncomputable def o751 (P : Params) : Obj := ⟨(Value.type "code"), none, (Data.fields (List.toArray [(Value.str (Str.ofString "read_token") 1173), (Value.str (Str.ofString "shlex.read_token") 1174), (Value.str (Str.ofString "/claim/cut.py") 1175), (Value.int (644) 0), (Value.int (1) 0), (Value.int (0) 0), (Value.int (0) 0), (Value.int (3) 0), (Value.ref 746), (Value.bool true), (Value.int (273) 0), (Value.ref 747), Value.none, (Value.ref 748), (Value.ref 749), (Value.ref 750), (Value.int (1181) 0), (Value.int (644) 0), (Value.str (Str.ofString "/claim/cut.py") 1182)])), (List.toArray ([] : List (Option Value)))⟩
noncomputable def o752 (P : Params) : Obj := fnO (mem 27 7) "shlex.read_token" Value.none Value.none Value.none (Value.str (Str.ofString "cpy313.shlex") 1097) (Value.ref 751)
noncomputable def o773 (P : Params) : Obj := ⟨(Value.type "code"), none, (Data.fields (List.toArray [(Value.str (Str.ofString "__iter__") 1202), (Value.str (Str.ofString "shlex.__iter__") 1203), (Value.str (Str.ofString "/claim/cut.py") 1204), (Value.int (792) 0), (Value.int (1) 0), (Value.int (0) 0), (Value.int (0) 0), (Value.int (3) 0), (Value.ref 768), (Value.bool true), (Value.int (273) 0), (Value.ref 769), Value.none, (Value.ref 770), (Value.ref 771), (Value.ref 772), (Value.int (1206) 0), (Value.int (792) 0), (Value.str (Str.ofString "/claim/cut.py") 1207)])), (List.toArray ([] : List (Option Value)))⟩
noncomputable def o774 (P : Params) : Obj := fnO (mem 27 10) "shlex.__iter__" Value.none Value.none Value.none (Value.str (Str.ofString "cpy313.shlex") 1097) (Value.ref 773)
noncomputable def o780 (P : Params) : Obj := ⟨(Value.type "code"), none, (Data.fields (List.toArray [(Value.str (Str.ofString "__next__") 1209), (Value.str (Str.ofString "shlex.__next__") 1210), (Value.str (Str.ofString "/claim/cut.py") 1211), (Value.int (795) 0), (Value.int (1) 0), (Value.int (0) 0), (Value.int (0) 0), (Value.int (3) 0), (Value.ref 775), (Value.bool true), (Value.int (273) 0), (Value.ref 776), Value.none, (Value.ref 777), (Value.ref 778), (Value.ref 779), (Value.int (1214) 0), (Value.int (795) 0), (Value.str (Str.ofString "/claim/cut.py") 1215)])), (List.toArray ([] : List (Option Value)))⟩
noncomputable def o781 (P : Params) : Obj := fnO (mem 27 11) "shlex.__next__" Value.none Value.none Value.none (Value.str (Str.ofString "cpy313.shlex") 1097) (Value.ref 780)
noncomputable def o783 (P : Params) : Obj := ⟨(Value.type "dict"), none, (Data.dict (List.toArray [en P "__module__" 1106 (Value.str (Str.ofString "cpy313.shlex") 1097), en P "__firstlineno__" 1110 (Value.int (543) 1109), en P "__doc__" 1112 (Value.str (Str.ofString "A lexical analyzer class for simple shell-like syntaxes.") 1111), en P "__init__" 1125 (Value.ref 708), en P "punctuation_chars" 1133 (Value.ref 716), en P "push_token" 1141 (Value.ref 723), en P "push_source" 1151 (Value.ref 731), en P "pop_source" 1159 (Value.ref 738), en P "get_token" 1172 (Value.ref 745), en P "read_token" 1183 (Value.ref 752), en P "sourcehook" 1192 (Value.ref 759), en P "error_leader" 1201 (Value.ref 767), en P "__iter__" 1208 (Value.ref 774), en P "__next__" 1216 (Value.ref 781), en P "__static_attributes__" 1237 (Value.ref 782), en P "__dict__" 1239 (Value.ref 785), en P "__weakref__" 1241 (Value.ref 786)]) 3), (List.toArray ([] : List (Option Value)))⟩
noncomputable def o784 (P : Params) : Obj := ⟨(Value.type "type"), none, (Data.cls (kc "shlex" [(Value.type "object")] [(Value.ref 784), (Value.type "object")] 783 "shlex" true [] [] false false)), (List.toArray ([none, none, (some (Value.str (Str.ofString "shlex") 1099)), (some (Value.str (Str.ofString "shlex") 1107)), (some (Value.builtin "object.__new__")), (some (Value.bool true))] : List (Option Value)))⟩
noncomputable def o789 (P : Params) : Obj := ⟨(Value.type "tuple"), none, (Data.seq (List.toArray [(Value.bool false), (Value.bool true)]) 0), (List.toArray ([] : List (Option Value)))⟩
noncomputable def o795 (P : Params) : Obj := ⟨(Value.type "code"), none, (Data.fields (List.toArray [(Value.str (Str.ofString "split") 1244), (Value.str (Str.ofString "split") 1245), (Value.str (Str.ofString "/claim/cut.py") 1246), (Value.int (800) 0), (Value.int (3) 0), (Value.int (0) 0), (Value.int (0) 0), (Value.int (3) 0), (Value.ref 790), (Value.bool true), (Value.int (273) 0), (Value.ref 791), Value.none, (Value.ref 792), (Value.ref 793), (Value.ref 794), (Value.int (1251) 0), (Value.int (800) 0), (Value.str (Str.ofString "/claim/cut.py") 1252)])), (List.toArray ([] : List (Option Value)))⟩
noncomputable def o796 (P : Params) : Obj := fnO (st 28) "split" (Value.ref 789) Value.none (Value.str (Str.ofString "Split the string *s* using shell-like syntax.") 1253) (Value.str (Str.ofString "cpy313.shlex") 1097) (Value.ref 795)
noncomputable def o856 (P : Params) : Obj := ⟨(Value.type "code"), none, (Data.fields (List.toArray [(Value.str (Str.ofString "__new__") 1335), (Value.str (Str.ofString "Mismatch.__new__") 1336), (Value.str (Str.ofString "/claim/cut.py") 1337), (Value.int (834) 0), (Value.int (4) 0), (Value.int (0) 0), (Value.int (0) 0), (Value.int (3) 0), (Value.ref 851), (Value.bool true), (Value.int (273) 0), (Value.ref 852), Value.none, (Value.ref 853), (Value.ref 854), (Value.ref 855), (Value.int (1342) 0), (Value.int (834) 0), (Value.str (Str.ofString "/claim/cut.py") 1343)])), (List.toArray ([] : List (Option Value)))⟩
noncomputable def o857 (P : Params) : Obj := fnO (mem 31 4) "Mismatch.__new__" Value.none Value.none (Value.str (Str.ofString "Create new inst\x61nce of Mismatch(actual, expected, value)") 1344) (Value.str (Str.ofString "cpy313.unittest.util") 1255) (Value.ref 856)
noncomputable def o909 (P : Params) : Obj := ⟨(Value.type "dict"), none, (Data.dict (List.toArray [en P "__module__" 1321 (Value.str (Str.ofString "cpy313.unittest.util") 1255), en P "__firstlineno__" 1325 (Value.int (828) 1324), en P "__doc__" 1327 (Value.str (Str.ofString "Mismatch(actual, expected, value)") 1326), en P "__slots__" 1329 (Value.ref 848), en P "_fields" 1333 (Value.ref 849), en P "_field_defaults" 1334 (Value.ref 850), en P "__new__" 1345 (Value.ref 911), en P "_make" 1367 (Value.ref 866), en P "_replace" 1378 (Value.ref 875), en P "__replace__" 1379 (Value.ref 875), en P "__repr__" 1387 (Value.ref 882), en P "_asdict" 1394 (Value.ref 889), en P "__getnewargs__" 1402 (Value.ref 896), en P "__match_args__" 1406 (Value.ref 897), en P "actual" 1416 (Value.ref 899), en P "expected" 1426 (Value.ref 902), en P "value" 1436 (Value.ref 905), en P "__static_attributes__" 1437 (Value.ref 907)]) 2), (List.toArray ([] : List (Option Value)))⟩
noncomputable def o910 (P : Params) : Obj := ⟨(Value.type "type"), none, (Data.cls (kc "Mismatch" [(Value.type "tuple")] [(Value.ref 910), (Value.type "tuple"), (Value.type "object")] 909 "Mismatch" false [] [] false false)), (List.toArray ([(some (Value.ref 840)), none, (some (Value.str (Str.ofString "Mismatch") 1314)), (some (Value.str (Str.ofString "Mismatch") 1322)), (some Value.none), (some (Value.bool false))] : List (Option Value)))⟩
noncomputable def o911 (P : Params) : Obj := ⟨(Value.type "staticmethod"), none, (Data.fields (List.toArray [(Value.ref 857)])), (List.toArray ([] : List (Option Value)))⟩
noncomputable def o919 (P : Params) : Obj := ⟨(Value.type "code"), none, (Data.fields (List.toArray [(Value.str (Str.ofString "_count_diff_all_purpose") 1443), (Value.str (Str.ofString "_count_diff_all_purpose") 1444), (Value.str (Str.ofString "/claim/cut.py") 1445), (Value.int (872) 0), (Value.int (2) 0), (Value.int (0) 0), (Value.int (0) 0), (Value.int (3) 0), (Value.ref 914), (Value.bool true), (Value.int (273) 0), (Value.ref 915), Value.none, (Value.ref 916), (Value.ref 917), (Value.ref 918), (Value.int (1461) 0), (Value.int (872) 0), (Value.str (Str.ofString "/claim/cut.py") 1462)])), (List.toArray ([] : List (Option Value)))⟩
noncomputable def o920 (P : Params) : Obj := fnO (st 33) "_count_diff_all_purpose" Value.none Value.none (Value.str (Str.ofString "Returns list of (cnt_act, cnt_exp, elem) triples where the counts differ") 1463) (Value.str (Str.ofString "cpy313.unittest.util") 1255) (Value.ref 919)
noncomputable def o926 (P : Params) : Obj := ⟨(Value.type "code"), none, (Data.fields (List.toArray [(Value.str (Str.ofString "_law_rows") 1467), (Value.str (Str.ofString "_law_rows") 1468), (Value.str (Str.ofString "/claim/cut.py") 1469), (Value.int (905) 0), (Value.int (1) 0), (Value.int (0) 0), (Value.int (0) 0), (Value.int (3) 0), (Value.ref 921), (Value.bool true), (Value.int (273) 0), (Value.ref 922), Value.none, (Value.ref 923), (Value.ref 924), (Value.ref 925), (Value.int (1477) 0), (Value.int (905) 0), (Value.str (Str.ofString "/claim/cut.py") 1478)])), (List.toArray ([] : List (Option Value)))⟩
noncomputable def o927 (P : Params) : Obj := fnO (st 35) "_law_rows" Value.none Value.none Value.none (Value.str (Str.ofString "law_kt0073_01") 1465) (Value.ref 926)
noncomputable def o931 (P : Params) : Obj := ⟨(Value.type "code"), none, (Data.fields (List.toArray [(Value.str (Str.ofString "_law_told") 1480), (Value.str (Str.ofString "_law_told") 1481), (Value.str (Str.ofString "/claim/cut.py") 1482), (Value.int (915) 0), (Value.int (1) 0), (Value.int (0) 0), (Value.int (0) 0), (Value.int (3) 0), (Value.ref 928), (Value.bool true), (Value.int (273) 0), (Value.ref 929), Value.none, Value.none, Value.none, (Value.ref 930), (Value.int (1483) 0), (Value.int (915) 0), (Value.str (Str.ofString "/claim/cut.py") 1484)])), (List.toArray ([] : List (Option Value)))⟩
noncomputable def o932 (P : Params) : Obj := fnO (st 36) "_law_told" Value.none Value.none Value.none (Value.str (Str.ofString "law_kt0073_01") 1465) (Value.ref 931)
noncomputable def o936 (P : Params) : Obj := ⟨(Value.type "code"), none, (Data.fields (List.toArray [(Value.str (Str.ofString "_law_due") 1486), (Value.str (Str.ofString "_law_due") 1487), (Value.str (Str.ofString "/claim/cut.py") 1488), (Value.int (928) 0), (Value.int (1) 0), (Value.int (0) 0), (Value.int (0) 0), (Value.int (3) 0), (Value.ref 933), (Value.bool true), (Value.int (273) 0), (Value.ref 934), Value.none, Value.none, Value.none, (Value.ref 935), (Value.int (1489) 0), (Value.int (928) 0), (Value.str (Str.ofString "/claim/cut.py") 1490)])), (List.toArray ([] : List (Option Value)))⟩
noncomputable def o937 (P : Params) : Obj := fnO (st 37) "_law_due" Value.none Value.none Value.none (Value.str (Str.ofString "law_kt0073_01") 1465) (Value.ref 936)
noncomputable def o943 (P : Params) : Obj := ⟨(Value.type "code"), none, (Data.fields (List.toArray [(Value.str (Str.ofString "law") 1492), (Value.str (Str.ofString "law") 1493), (Value.str (Str.ofString "/claim/cut.py") 1494), (Value.int (948) 0), (Value.int (1) 0), (Value.int (0) 0), (Value.int (0) 0), (Value.int (3) 0), (Value.ref 938), (Value.bool true), (Value.int (273) 0), (Value.ref 939), Value.none, (Value.ref 940), (Value.ref 941), (Value.ref 942), (Value.int (1497) 0), (Value.int (948) 0), (Value.str (Str.ofString "/claim/cut.py") 1498)])), (List.toArray ([] : List (Option Value)))⟩
noncomputable def o944 (P : Params) : Obj := fnO (st 38) "law" Value.none Value.none Value.none (Value.str (Str.ofString "law_kt0073_01") 1465) (Value.ref 943)
noncomputable def K (P : Params) : Frag := (nat_lit 2, o2 P) :: (nat_lit 3, o3 P) :: (nat_lit 124, o124 P) :: (nat_lit 128, o128 P) :: (nat_lit 129, o129 P) :: (nat_lit 135, o135 P) :: (nat_lit 136, o136 P) :: (nat_lit 138, o138 P) :: (nat_lit 139, o139 P) :: (nat_lit 156, o156 P) :: (nat_lit 157, o157 P) :: (nat_lit 183, o183 P) :: (nat_lit 184, o184 P) :: (nat_lit 186, o186 P) :: (nat_lit 187, o187 P) :: (nat_lit 188, o188 P) :: (nat_lit 213, o213 P) :: (nat_lit 214, o214 P) :: (nat_lit 444, o444 P) :: (nat_lit 454, o454 P) :: (nat_lit 460, o460 P) :: (nat_lit 461, o461 P) :: (nat_lit 467, o467 P) :: (nat_lit 468, o468 P) :: (nat_lit 474, o474 P) :: (nat_lit 475, o475 P) :: (nat_lit 488, o488 P) :: (nat_lit 489, o489 P) :: (nat_lit 630, o630 P) :: (nat_lit 636, o636 P) :: (nat_lit 637, o637 P) :: (nat_lit 638, o638 P) :: (nat_lit 644, o644 P) :: (nat_lit 645, o645 P) :: (nat_lit 690, o690 P) :: (nat_lit 691, o691 P) :: (nat_lit 701, o701 P) :: (nat_lit 707, o707 P) :: (nat_lit 708, o708 P) :: (nat_lit 714, o714 P) :: (nat_lit 715, o715 P) :: (nat_lit 716, o716 P) :: (nat_lit 744, o744 P) :: (nat_lit 745, o745 P) :: (nat_lit 751, o751 P) :: (nat_lit 752, o752 P) :: (nat_lit 773, o773 P) :: (nat_lit 774, o774 P) :: (nat_lit 780, o780 P) :: (nat_lit 781, o781 P) :: (nat_lit 783, o783 P) :: (nat_lit 784, o784 P) :: (nat_lit 789, o789 P) :: (nat_lit 795, o795 P) :: (nat_lit 796, o796 P) :: (nat_lit 856, o856 P) :: (nat_lit 857, o857 P) :: (nat_lit 909, o909 P) :: (nat_lit 910, o910 P) :: (nat_lit 911, o911 P) :: (nat_lit 919, o919 P) :: (nat_lit 920, o920 P) :: (nat_lit 926, o926 P) :: (nat_lit 927, o927 P) :: (nat_lit 931, o931 P) :: (nat_lit 932, o932 P) :: (nat_lit 936, o936 P) :: (nat_lit 937, o937 P) :: (nat_lit 943, o943 P) :: (nat_lit 944, o944 P) :: []
noncomputable def kAs : List Addr := nat_lit 2 :: nat_lit 3 :: nat_lit 124 :: nat_lit 128 :: nat_lit 129 :: nat_lit 135 :: nat_lit 136 :: nat_lit 138 :: nat_lit 139 :: nat_lit 156 :: nat_lit 157 :: nat_lit 183 :: nat_lit 184 :: nat_lit 186 :: nat_lit 187 :: nat_lit 188 :: nat_lit 213 :: nat_lit 214 :: nat_lit 444 :: nat_lit 454 :: nat_lit 460 :: nat_lit 461 :: nat_lit 467 :: nat_lit 468 :: nat_lit 474 :: nat_lit 475 :: nat_lit 488 :: nat_lit 489 :: nat_lit 630 :: nat_lit 636 :: nat_lit 637 :: nat_lit 638 :: nat_lit 644 :: nat_lit 645 :: nat_lit 690 :: nat_lit 691 :: nat_lit 701 :: nat_lit 707 :: nat_lit 708 :: nat_lit 714 :: nat_lit 715 :: nat_lit 716 :: nat_lit 744 :: nat_lit 745 :: nat_lit 751 :: nat_lit 752 :: nat_lit 773 :: nat_lit 774 :: nat_lit 780 :: nat_lit 781 :: nat_lit 783 :: nat_lit 784 :: nat_lit 789 :: nat_lit 795 :: nat_lit 796 :: nat_lit 856 :: nat_lit 857 :: nat_lit 909 :: nat_lit 910 :: nat_lit 911 :: nat_lit 919 :: nat_lit 920 :: nat_lit 926 :: nat_lit 927 :: nat_lit 931 :: nat_lit 932 :: nat_lit 936 :: nat_lit 937 :: nat_lit 943 :: nat_lit 944 :: []
theorem kEq : ∀ P, kAs = (K P).map (·.1) := fun _ => by kernel_rfl
noncomputable abbrev rr : OpenLaw := PySem.Challenge.rw_kt0073_01
noncomputable def pr : Program := PySem.Challenge.pw_kt0073_01
noncomputable def q : Program := { pr with main := { pr.main with body := [st 38] } }
noncomputable def loose : List Str := (["deque", "_wall", "sep", "_kind", "_fspath", "_check_arg_types", "isabs", "join", "_c_path", "_shelf_fresh", "_splitroot", "dirname", "_normpath", "normpath", "_Ignore", "_whence", "_index", "UnsupportedOperation", "IOBase", "BufferedIOBase", "TextIOBase", "BytesIO", "StringIO", "shlex", "split", "_tuplegetter", "Mismatch", "_Mismatch", "_count_diff_all_purpose", "_law_rows", "_law_told", "_law_due"] : List String).map Str.ofString
end
section
set_option maxRecDepth 1000000
set_option maxHeartbeats 0
noncomputable abbrev HK : Hook := kHook K kAs kEq
theorem left : LeftO rr.row.toRowW.prog q loose (fun s => xlAt q [] s && recOk (RowW.records rr.row.toRowW) s) (Hook.obs HK) (Hook.val HK) 13600 true := by
  refine left_of fun w => ?_
  rw [openEndsT_fast]
  kernel_rfl!
end
section
set_option maxRecDepth 1000000
set_option maxHeartbeats 0
theorem said : rr.wellSaid = true := by
  rw [PySem.W.Fast.te9446332074065402090]
  decide +kernel
noncomputable def dd : DefRec := match st 38 with
  | .FunctionDef n a b _ _ _ sc _ _ p => ⟨n, a, b, sc, p⟩
  | _ => ⟨Str.ofString "", default, [], default, default⟩
theorem head (hc : WalkO q loose (XL q []) (Hook.says HK) rr.row.toRowW dd [] fun f vs => PySem.call f vs) : rr.Holds := by
  refine holds_law said fun _ => ?_
  refine holds_open (q := q) (loose := loose) (Xt := fun s => xlAt q [] s && recOk (RowW.records rr.row.toRowW) s) (XP := XL q []) (Yf := Hook.obs HK) (Ya := Hook.val HK) (YP := Hook.says HK) (N := 13600) left (Hook.of HK) (Hook.keeps HK) (fun s e => xl_of s (Bool.and_eq_true_iff.mp e).1) XL.keeps (d := dd) (kwd := []) ?_ ?_ (by rfl) (fun s e => recFacts_of (Bool.and_eq_true_iff.mp e).2) (by rfl) (by assumption) ?_ ⟨rfl, rfl, rfl, rfl, rfl, by decide +kernel⟩ ?hw hc
  · kernel_rfl!
  · kernel_rfl!
  · kernel_rfl!
  · exact ⟨[.list []], by decide +kernel, by decide +kernel⟩
end
section
theorem lt_of1 {n m : Nat} (h : n + 1 < m) : n < m := Nat.lt_of_succ_lt h
theorem le_tr {a b c : Nat} (h : a ≤ b) (g : b ≤ c) : a ≤ c := Nat.le_trans h g
theorem lt_tr {n m k : Nat} (h : n < k) (g : m < n) : m < k := Nat.lt_trans g h
theorem ne_gt {a b : Nat} (h : b < a) : a ≠ b := Nat.ne_of_gt h
theorem ne_lt {a b : Nat} (h : a < b) : a ≠ b := Nat.ne_of_lt h
theorem all_nil {α : Type} {S : List α} : ∀ p ∈ ([] : List α), p ∈ S := fun _ h => (nomatch h)
theorem all_cons {α : Type} {a : α} {l S : List α} (h : a ∈ S) (t : ∀ p ∈ l, p ∈ S) : ∀ p ∈ a :: l, p ∈ S := List.forall_mem_cons.mpr ⟨h, t⟩
theorem all_app {α : Type} {x y S : List α} (h : ∀ p ∈ x, p ∈ S) (t : ∀ p ∈ y, p ∈ S) : ∀ p ∈ x ++ y, p ∈ S := List.forall_mem_append.mpr ⟨h, t⟩
theorem sub_use {α : Type} {T S : List α} (h : ∀ p ∈ T, p ∈ S) {p : α} (q : p ∈ T) : p ∈ S := h p q
theorem mem_here {α : Type} {a : α} {l : List α} : a ∈ a :: l := .head _
theorem mem_next {α : Type} {a b : α} {l : List α} (h : a ∈ l) : a ∈ b :: l := .tail _ h
theorem mem_left {α : Type} {a : α} {l r : List α} (h : a ∈ l) : a ∈ l ++ r := List.mem_append_left _ h
theorem mem_right {α : Type} {a : α} {l r : List α} (h : a ∈ r) : a ∈ l ++ r := List.mem_append_right _ h
theorem sub_here {α : Type} {x : List α} : ∀ p ∈ x, p ∈ x := fun _ h => h
theorem sub_tail {α : Type} {a : α} {x r : List α} (h : ∀ p ∈ x, p ∈ r) : ∀ p ∈ x, p ∈ a :: r := fun p q => .tail _ (h p q)
theorem sub_left {α : Type} {x z r : List α} (h : ∀ p ∈ x, p ∈ z) : ∀ p ∈ x, p ∈ z ++ r := fun p q => List.mem_append_left _ (h p q)
theorem sub_right {α : Type} {x z r : List α} (h : ∀ p ∈ x, p ∈ r) : ∀ p ∈ x, p ∈ z ++ r := fun p q => List.mem_append_right _ (h p q)
theorem allP_nil {α : Type} {P : α → Prop} : ∀ p ∈ ([] : List α), P p := fun _ h => (nomatch h)
theorem allP_cons {α : Type} {P : α → Prop} {a : α} {l : List α} (h : P a) (t : ∀ p ∈ l, P p) : ∀ p ∈ a :: l, P p := List.forall_mem_cons.mpr ⟨h, t⟩
theorem allP_app {α : Type} {P : α → Prop} {x y : List α} (h : ∀ p ∈ x, P p) (t : ∀ p ∈ y, P p) : ∀ p ∈ x ++ y, P p := List.forall_mem_append.mpr ⟨h, t⟩
theorem sub_step {n i : Nat} (h : i < n) : n + 1 - (i + 1) < n + 1 - i := by omega
theorem lt_up {n m : Nat} (h : n < m) : n < m + 1 := Nat.lt_succ_of_lt h
theorem ap1 {x dx xi di : Nat} (h : dx < x) (g : di < xi) (a : x < di ∨ xi < dx) : di ≠ dx := a.elim (fun q => Nat.ne_of_gt (Nat.lt_trans h q)) (fun q => Nat.ne_of_lt (Nat.lt_trans g q))
theorem ap2 {x dx xi di : Nat} (h : dx < x) (g : di < xi) (a : x < di ∨ xi < dx) : dx ≠ di := (ap1 h g a).symm
theorem ap3 {x dx xi di : Nat} (h : dx < x) (g : di < xi) (a : x < di ∨ xi < dx) : xi ≠ dx := a.elim (fun q => Nat.ne_of_gt (Nat.lt_trans h (Nat.lt_trans q g))) Nat.ne_of_lt
theorem ap4 {x dx xi di : Nat} (h : dx < x) (g : di < xi) (a : x < di ∨ xi < dx) : dx ≠ xi := (ap3 h g a).symm
theorem ap5 {x dx xi di : Nat} (h : dx < x) (g : di < xi) (a : x < di ∨ xi < dx) : x ≠ di := a.elim Nat.ne_of_lt (fun q => Nat.ne_of_gt (Nat.lt_trans g (Nat.lt_trans q h)))
theorem ap6 {x dx xi di : Nat} (h : dx < x) (g : di < xi) (a : x < di ∨ xi < dx) : di ≠ x := (ap5 h g a).symm
theorem ap7 {x dx xi di : Nat} (h : dx < x) (g : di < xi) (a : x < di ∨ xi < dx) : x ≠ xi := a.elim (fun q => Nat.ne_of_lt (Nat.lt_trans q g)) (fun q => Nat.ne_of_gt (Nat.lt_trans q h))
theorem ap8 {x dx xi di : Nat} (h : dx < x) (g : di < xi) (a : x < di ∨ xi < dx) : xi ≠ x := (ap7 h g a).symm
theorem room0 {d a r : Nat} (h : d + a < r) : d < r := Nat.lt_of_le_of_lt (Nat.le_add_right d a) h
theorem room1 {d a b r : Nat} (h : d + a < r) (hle : b ≤ a) : d + b < r := by omega
theorem room2 {d a b c r : Nat} (h : d + a < r) (hle : c + b ≤ a) : d + c + b < r := by omega
theorem room3 {d a b c e r : Nat} (h : d + a < r) (hle : c + e + b ≤ a) : d + c + e + b < r := by omega
theorem ite_t {A B : Prop} (h : A) : if true = true then A else B := by rw [if_pos rfl]; exact h
theorem ite_f {A B : Prop} (h : B) : if false = true then A else B := by rw [if_neg Bool.false_ne_true]; exact h
theorem forget1 {α : Type} {M : Model} {A : Around} {T : Sem α} {Q : α → Shared → Prop} {E : Value → Shared → Prop} {h : Heap} {g} {d} {X : Nat} {o} (H : ∀ tk, wpAny M A T Q E ⟨h, g, d, tk, o⟩) : wpAny M A T Q E ⟨h, g, d, X + 1, o⟩ := H _
theorem execs_one {prog : Program} {w : World} {A : Around} {st : Stmt} {env : Env} {Q : Flow → Shared → Prop} {E : Value → Shared → Prop} {s : Shared} (h : wpAny (model prog w) A (exec st env) Q E s) : wpAny (model prog w) A (execs [st] env) Q E s :=
  wpAny_execs_cons (wpAny_mono h (fun f s' hq => by
    cases f
    case next => exact wpAny_execs_nil hq
    all_goals exact hq) fun _ _ e => e)
section
variable {M : Model} {prog : Program} {w : World} {A : Around} {env : Env} {E : Value → Shared → Prop}
theorem const_strM {h g d tk o} {x : Str} {k : Nat} {pos : Pos} {Q : Value → Shared → Prop} (H : Q (.str x tk) ⟨h, g, d, tk + 1, o⟩) : wpAny M A (eval (.Constant (.str x) k pos) env) Q E ⟨h, g, d, tk, o⟩ := Constant_str H
theorem const_intM {h g d tk o} {i : Int} {k : Nat} {pos : Pos} {Q : Value → Shared → Prop} (H : Q (.int i tk) ⟨h, g, d, tk + 1, o⟩) : wpAny M A (eval (.Constant (.int i) k pos) env) Q E ⟨h, g, d, tk, o⟩ := wpAny_Constant_int H
theorem set_dictM {K : Frag} {x C dx L : Addr} {h₀ : Heap} {m : Str → Option Value} {news news' : List (Addr × Obj)} {ox : Obj} {es es' : List DictEntry} {n n' : Nat} {name : Str} {v : Value} {hp g d tk o} {Q : Unit → Shared → Prop} (F : Fr h₀ L hp m) (X₀ : K.In h₀) (N : News h₀ L hp news) (I : InstAt hp x ox C (some (dictOf es n))) (hd : ox.dict = some dx)
    (hs : findIn K (.ref C) "__setattr__" = some (some (.builtin "object.__setattr__"))) (hpl : plainOver K C = true) (ht : takerIn K C name = some none) (hh : hasDictIn K C = true) (hl : (getL name es).isSome = true)
    (e : (putL name (PyData.keyHash w.params name) (.str name (tk + 1)) v es, putN name es n) = (es', n')) (U : Upd dx (dictOf es n) (dictOf es' n') news news') (hz : es'.length ≤ 1000)
    (H : ∀ h', Fr h₀ L h' m → News h₀ L h' news' → Q () ⟨h', g, d, tk + 2, o⟩) :
    wpAny (model prog w) A (setAttr (.ref x) name v) Q E ⟨hp, g, d, tk, o⟩ :=
  set_dict (s := ⟨hp, g, d, tk, o⟩) F X₀ N I hd hs hpl ht hh hl e U hz H
end
end
section
set_option tactic.hygienic false
theorem sp_is : (Str.ofString " ").cps.toList = [32] := by decide +kernel
/-- (buf[a:b] + ' ')[:-1] -/
theorem slice_back {x : Str} {a b : Nat} (hab : a ≤ b) (hb : b ≤ x.length) : Txt.slice (Txt.slice x (some (a : Int)) (some (b : Int)) ++ Str.ofString " ") none (some (-1)) = ⟨((x.cps.toList.drop a).take (b - a)).toArray⟩ := by
  have h1 : Txt.slice x (some (a : Int)) (some (b : Int)) = ⟨((x.cps.toList.drop a).take (b - a)).toArray⟩ := StrLaws.sliceText_nat x hab hb
  rw [h1]
  have e : ((⟨((x.cps.toList.drop a).take (b - a)).toArray⟩ : Str) ++ Str.ofString " ").cps.toList = (x.cps.toList.drop a).take (b - a) ++ [32] := by
    show ((List.toArray ((x.cps.toList.drop a).take (b - a))) ++ (Str.ofString " ").cps).toList = _
    rw [Array.toList_append, sp_is]
  have hl : ((⟨((x.cps.toList.drop a).take (b - a)).toArray⟩ : Str) ++ Str.ofString " ").length = ((x.cps.toList.drop a).take (b - a)).length + 1 := by
    show (_ : Array Nat).size = _
    rw [← Array.length_toList, e, List.length_append]; rfl
  have h2 := StrLaws.sliceText_to_neg (x := (⟨((x.cps.toList.drop a).take (b - a)).toArray⟩ : Str) ++ Str.ofString " ") (j := -1) (by decide) (by rw [hl]; (first | lia | omega))
  refine Eq.trans h2 ?_
  rw [e, hl]
  have : ((-1 : Int) + ((((x.cps.toList.drop a).take (b - a)).length + 1 : Nat) : Int) - 0).toNat = ((x.cps.toList.drop a).take (b - a)).length := by (first | lia | omega)
  rw [this, List.drop_zero, List.take_left]
theorem slice_one {x : Str} {a : Nat} {c : Nat} (hc : x.cps[a]? = some c) : Txt.slice (Txt.slice x (some (a : Int)) (some ((a : Int) + 1)) ++ Str.ofString " ") none (some (-1)) = ⟨#[c]⟩ := by
  have hl : a < x.cps.size := by
    rcases Nat.lt_or_ge a x.cps.size with h | h
    · exact h
    · rw [Array.getElem?_eq_none h] at hc; cases hc
  have h := slice_back (x := x) (a := a) (b := a + 1) (Nat.le_succ _) hl
  have e : (((a + 1 : Nat)) : Int) = (a : Int) + 1 := by (first | lia | omega)
  rw [e] at h
  rw [h]
  have hc' : x.cps.toList[a]? = some c := by rw [Array.getElem?_toList]; exact hc
  have hl' : a < x.cps.toList.length := by rw [Array.length_toList]; exact hl
  have : (x.cps.toList.drop a).take (a + 1 - a) = [c] := by
    rw [List.drop_eq_getElem_cons hl', show a + 1 - a = 1 by (first | lia | omega), List.take_succ_cons, List.take_zero]
    rw [List.getElem?_eq_getElem hl'] at hc'
    rw [Option.some.inj hc']
  rw [this]
end
section
open PySem PySem.W PySem.Calls PyProof.Rows PySem.Builtin PySem.Builtin.Str
set_option tactic.hygienic false
theorem args_find4 (a b c d : Value) : argsOk "str.find" ⟨[a, b, c, d], []⟩ := by unfold argsOk; kernel_rfl
noncomputable def find4 (x y : Str) (i j : Int) : Int := match occurrences x y (fromIndex x.length i) (min (fromIndex x.length j) x.length) 1 with | k :: _ => (k : Int) | [] => -1
theorem gives_find4 (x y : Str) (i j : Int) (t u v v' : Tok) : Gives (Builtin.«str.find» ⟨[.str x t, .str y u, .int i v, .int j v'], []⟩) (.int (find4 x y i j)) := by
  show Gives (match occurrences x y (fromIndex x.length i) (min (fromIndex x.length j) x.length) 1 with | k :: _ => retInt k | [] => (do rule "str.find.not-found"; retInt (-1))) _
  unfold find4
  cases occurrences x y (fromIndex x.length i) (min (fromIndex x.length j) x.length) 1 with
  | nil => exact .rule (.of_eq rfl)
  | cons k r => exact .of_eq rfl
theorem call_find4 {prog : Program} {w : World} {A : Around} {E : Value → Shared → Prop} {s : Shared} {x y : Str} {t u v v' : Tok} {i j : Int} {Q : Value → Shared → Prop} (hq : Q (.int (find4 x y i j) s.toks) { s with toks := s.toks + 1 }) :
    wpAny (model prog w) A (call (.builtin "str.find") [.str x t, .str y u, .int i v, .int j v']) Q E s :=
  call_gives F.slot_str_find (typeIs_str _ _ _) F.entry_str_find (args_find4 _ _ _ _) (gives_find4 x y i j t u v v') hq
/-- how many signs up to the line's end, its newline among them -/
noncomputable def skipLine : List Nat → Nat
  | [] => 0
  | c :: r => if c = 10 then 1 else skipLine r + 1
theorem skipLine_le : ∀ l : List Nat, skipLine l ≤ l.length
  | [] => Nat.le_refl _
  | c :: r => by
    unfold skipLine
    have := skipLine_le r
    split <;> simp only [List.length_cons] <;> (first | lia | omega)
theorem skipLine_none : ∀ l : List Nat, (∀ c ∈ l, c ≠ 10) → skipLine l = l.length
  | [], _ => rfl
  | c :: r, h => by
    unfold skipLine
    rw [if_neg (h c (.head _)), skipLine_none r fun c hc => h c (.tail _ hc), List.length_cons]
theorem skipLine_some : ∀ (l : List Nat) (k : Nat), l[k]? = some 10 → (∀ j c, j < k → l[j]? = some c → c ≠ 10) → skipLine l = k + 1
  | [], k, h, _ => by simp at h
  | c :: r, 0, h, _ => by
    simp only [List.getElem?_cons_zero, Option.some.injEq] at h
    unfold skipLine
    rw [if_pos h]
  | c :: r, k + 1, h, hn => by
    unfold skipLine
    rw [if_neg (hn 0 c (Nat.succ_pos _) rfl), skipLine_some r k (by simpa using h) fun j c hj hc => hn (j + 1) c (by (first | lia | omega)) (by simpa using hc)]
theorem nl_is : Str.ofString "\n" = ⟨#[10]⟩ := by decide +kernel
/-- where a line that is read from pos on ends -/
theorem find4_line (x : Str) (pos : Nat) (h : pos ≤ x.length) :
    (find4 x (Str.ofString "\n") pos x.length = -1 ∧ x.length = pos + skipLine (x.cps.toList.drop pos)) ∨
    (∃ k : Nat, find4 x (Str.ofString "\n") pos x.length = k ∧ k + 1 = pos + skipLine (x.cps.toList.drop pos) ∧ k < x.length) := by
  have e1 : fromIndex x.length (pos : Int) = pos := by unfold fromIndex; rw [if_neg (by (first | lia | omega))]; (first | lia | omega)
  have e2 : fromIndex x.length (x.length : Int) = x.length := by unfold fromIndex; rw [if_neg (by (first | lia | omega))]; (first | lia | omega)
  have hl : x.length = x.cps.toList.length := by simp [Str.length]
  unfold find4
  rw [e1, e2, Nat.min_self, nl_is]
  rcases StrLaws.occ_head_from x ⟨#[10]⟩ pos 1 (Nat.le_refl 1) with ⟨h0, hn⟩ | ⟨k, r, h0, hlo, hk, hn⟩
  · rw [h0]
    refine .inl ⟨rfl, ?_⟩
    rw [skipLine_none]
    · rw [List.length_drop]; (first | lia | omega)
    · intro c hc he
      obtain ⟨j, hj, hg⟩ := List.getElem_of_mem hc
      rw [List.length_drop] at hj
      have hx : x.cps.toList[pos + j]? = some 10 := by
        rw [← he, ← hg, List.getElem_drop, List.getElem?_eq_getElem]
      exact hn (pos + j) (by (first | lia | omega)) ((StrLaws.subAt_one x 10 (pos + j)).mpr hx)
  · rw [h0]
    have hm := (StrLaws.subAt_one x 10 k).mp hk
    have hlt : k < x.length := by
      rcases Nat.lt_or_ge k x.cps.toList.length with q | q
      · (first | lia | omega)
      · rw [List.getElem?_eq_none q] at hm; cases hm
    refine .inr ⟨k, rfl, ?_, hlt⟩
    rw [skipLine_some _ (k - pos)]
    · (first | lia | omega)
    · rw [List.getElem?_drop, show pos + (k - pos) = k by (first | lia | omega)]; exact hm
    · intro j c hj hc he
      subst he
      rw [List.getElem?_drop] at hc
      exact hn (pos + j) (by (first | lia | omega)) (by (first | lia | omega)) ((StrLaws.subAt_one x 10 (pos + j)).mpr hc)
end
local macro_rules | `(tactic| walk_at $s:str) => `(tactic| k_extra $s)
local macro_rules | `(tactic| k_ne) => `(tactic| k_extra "NE")
local macro_rules | `(tactic| ktr_room) => `(tactic| k_extra "ROOM")
local macro_rules | `(tactic| ktr_units) => `(tactic| k_extra "UNITS")
local macro_rules | `(tactic| k_all) => `(tactic| assumption)
local macro_rules | `(tactic| k_room) => `(tactic| ktr_room)
local macro_rules | `(tactic| k_enter) => `(tactic| k_extra "K_ENTERX")
theorem wd_pre : True := by
  k_with "LT1" => first | with_reducible assumption | k_extra "AND" | exact Nat.lt_succ_self _ | k_extra "LTU" | (refine lt_tr (by with_reducible assumption) ?_; k_extra "LT1")
  k_with "AND" => first | exact And.left (by with_reducible assumption) | exact And.left (And.right (by with_reducible assumption)) | exact And.left (And.right (And.right (by with_reducible assumption))) | exact And.left (And.right (And.right (And.right (by with_reducible assumption)))) | exact And.left (And.right (And.right (And.right (And.right (by with_reducible assumption))))) | exact And.left (And.right (And.right (And.right (And.right (And.right (by with_reducible assumption)))))) | exact And.left (And.right (And.right (And.right (And.right (And.right (And.right (by with_reducible assumption))))))) | exact And.left (And.right (And.right (And.right (And.right (And.right (And.right (And.right (by with_reducible assumption)))))))) | exact And.left (And.right (And.right (And.right (And.right (And.right (And.right (And.right (And.right (by with_reducible assumption))))))))) | exact And.left (And.right (And.right (And.right (And.right (And.right (And.right (And.right (And.right (And.right (by with_reducible assumption)))))))))) | exact And.left (And.right (And.right (And.right (And.right (And.right (And.right (And.right (And.right (And.right (And.right (by with_reducible assumption))))))))))) | exact And.left (And.right (And.right (And.right (And.right (And.right (And.right (And.right (And.right (And.right (And.right (And.right (by with_reducible assumption)))))))))))) | exact And.left (And.right (And.right (And.right (And.right (And.right (And.right (And.right (And.right (And.right (And.right (And.right (And.right (by with_reducible assumption))))))))))))) | exact And.left (And.right (And.right (And.right (And.right (And.right (And.right (And.right (And.right (And.right (And.right (And.right (And.right (And.right (by with_reducible assumption)))))))))))))) | exact And.left (And.right (And.right (And.right (And.right (And.right (And.right (And.right (And.right (And.right (And.right (And.right (And.right (And.right (And.right (by with_reducible assumption))))))))))))))) | exact And.left (And.right (And.right (And.right (And.right (And.right (And.right (And.right (And.right (And.right (And.right (And.right (And.right (And.right (And.right (And.right (by with_reducible assumption)))))))))))))))) | exact And.left (And.right (And.right (And.right (And.right (And.right (And.right (And.right (And.right (And.right (And.right (And.right (And.right (And.right (And.right (And.right (And.right (by with_reducible assumption)))))))))))))))))
  k_with "LTU" => (with_reducible refine lt_up ?_; first | with_reducible assumption | exact Nat.lt_succ_self _ | k_extra "AND" | (with_reducible refine lt_up ?_; first | with_reducible assumption | exact Nat.lt_succ_self _ | k_extra "AND" | (with_reducible refine lt_up ?_; first | with_reducible assumption | exact Nat.lt_succ_self _ | k_extra "AND" | (with_reducible refine lt_up ?_; first | with_reducible assumption | exact Nat.lt_succ_self _ | k_extra "AND"))))
  k_with "LT" => first | k_extra "LT1" | (refine lt_of1 ?_; k_extra "LT1") | (refine lt_of1 (lt_of1 ?_); k_extra "LT1") | (refine lt_of1 (lt_of1 (lt_of1 ?_)); k_extra "LT1") | (refine lt_of1 (lt_of1 (lt_of1 (lt_of1 ?_))); k_extra "LT1")
  k_with "MEM" => first | with_reducible assumption | with_reducible exact mem_here | (with_reducible refine mem_next ?_; k_extra "MEM") | (with_reducible refine mem_left ?_; k_extra "MEM") | (with_reducible refine mem_right ?_; k_extra "MEM")
  k_with "SUF" => first | with_reducible exact sub_here | (with_reducible refine sub_tail ?_; k_extra "SUF") | (with_reducible refine sub_left ?_; k_extra "SUF") | (with_reducible refine sub_right ?_; k_extra "SUF")
  k_with "SUB" => first | with_reducible exact all_nil | k_extra "SUF" | ((with_reducible refine all_cons ?_ ?_); (focus (k_extra "MEM")); k_extra "SUB") | ((with_reducible refine all_app ?_ ?_); (focus (k_extra "SUB")); k_extra "SUB")
  k_with "OM" => first | exact le_tr (by with_reducible assumption) (by decide) | k_extra "LT" | k_extra "NE"
  k_with "NE" => (refine neN ?_; (try dsimp only); first | with_reducible assumption | (refine ne_gt ?_; k_extra "LT") | (refine ne_lt ?_; k_extra "LT") | (with_reducible refine ap1 ?_ ?_ ?_ <;> with_reducible assumption) | (with_reducible refine ap2 ?_ ?_ ?_ <;> with_reducible assumption) | (with_reducible refine ap3 ?_ ?_ ?_ <;> with_reducible assumption) | (with_reducible refine ap4 ?_ ?_ ?_ <;> with_reducible assumption) | (with_reducible refine ap5 ?_ ?_ ?_ <;> with_reducible assumption) | (with_reducible refine ap6 ?_ ?_ ?_ <;> with_reducible assumption) | (with_reducible refine ap7 ?_ ?_ ?_ <;> with_reducible assumption) | (with_reducible refine ap8 ?_ ?_ ?_ <;> with_reducible assumption))
  k_with "ROOM" => ((try simp only [depth_under_make, depth_under_kw, depth_in1, depth_deeper, depth_caller]); (try dsimp only [ktrTop]); first | with_reducible assumption | exact room0 (by with_reducible assumption) | exact room1 (by with_reducible assumption) (by decide) | exact room2 (by with_reducible assumption) (by decide) | exact room3 (by with_reducible assumption) (by decide))
  k_with "UNITS" => ((try simp only [units_in1, units_deeper, Around.mark_units, units_caller]); (try dsimp only [ktrTop]); first | with_reducible assumption | exact room0 (by with_reducible assumption) | exact room1 (by with_reducible assumption) (by decide) | exact room2 (by with_reducible assumption) (by decide) | exact room3 (by with_reducible assumption) (by decide))
  k_with "eval Constant str" => refine const_strM ?_
  k_with "eval Constant int" => refine const_intM ?_
  k_with "setAttr ref" => (k_here; k_dflt (refine' set_dictM ?zs1 ?zs2 ?zs3 ?zs4 ?zs5 ?zs6 ?zs7 ?zs8 ?zs9 ?zs10 ?zs11 ?zs12 ?zs13 ?_; (case zs1 => k_asm); (case zs2 => k_asm); (case zs3 => k_asm); (case zs4 => k_inst); (case zs5 => exact rfl); (case zs6 => k_is); (case zs7 => k_is); (case zs8 => k_is); (case zs9 => k_is); (case zs10 => k_get); (case zs11 => k_put); (case zs12 => k_upd); (case zs13 => exact Nat.le_of_ble_eq_true rfl); k_whole; intro _ _ _; (try k_sweep)))
  k_with "ite" => first | (with_reducible refine ite_t ?_) | (with_reducible refine ite_f ?_)
  k_with "exec If" => with_reducible refine wpAny_If ?_
  k_with "execs cons Assign nil" => ((try dsimp only); (try (with_reducible refine forget1 ?_; intro _)); with_reducible refine execs_one ?_)
  k_with "execs cons Assign cons" => ((try dsimp only); (try (with_reducible refine forget1 ?_; intro _)); with_reducible refine wpAny_execs_cons ?_)
  k_with "execs cons If nil" => ((try dsimp only); (try (with_reducible refine forget1 ?_; intro _)); with_reducible refine execs_one ?_)
  k_with "execs cons If cons" => ((try dsimp only); (try (with_reducible refine forget1 ?_; intro _)); with_reducible refine wpAny_execs_cons ?_)
  k_with "execs cons Expr nil" => ((try dsimp only); (try (with_reducible refine forget1 ?_; intro _)); with_reducible refine execs_one ?_)
  k_with "execs cons Expr cons" => ((try dsimp only); (try (with_reducible refine forget1 ?_; intro _)); with_reducible refine wpAny_execs_cons ?_)
  k_with "execs cons AugAssign nil" => ((try dsimp only); (try (with_reducible refine forget1 ?_; intro _)); with_reducible refine execs_one ?_)
  k_with "execs cons AugAssign cons" => ((try dsimp only); (try (with_reducible refine forget1 ?_; intro _)); with_reducible refine wpAny_execs_cons ?_)
  k_with "execs cons Return nil" => ((try dsimp only); (try (with_reducible refine forget1 ?_; intro _)); with_reducible refine execs_one ?_)
  k_with "execs cons Return cons" => ((try dsimp only); (try (with_reducible refine forget1 ?_; intro _)); with_reducible refine wpAny_execs_cons ?_)
  k_with "execs cons For nil" => ((try dsimp only); (try (with_reducible refine forget1 ?_; intro _)); with_reducible refine execs_one ?_)
  k_with "execs cons For cons" => ((try dsimp only); (try (with_reducible refine forget1 ?_; intro _)); with_reducible refine wpAny_execs_cons ?_)
  k_with "execs cons While nil" => ((try dsimp only); (try (with_reducible refine forget1 ?_; intro _)); with_reducible refine execs_one ?_)
  k_with "execs cons While cons" => ((try dsimp only); (try (with_reducible refine forget1 ?_; intro _)); with_reducible refine wpAny_execs_cons ?_)
  k_with "execs cons Break nil" => ((try dsimp only); (try (with_reducible refine forget1 ?_; intro _)); with_reducible refine execs_one ?_)
  k_with "execs cons Break cons" => ((try dsimp only); (try (with_reducible refine forget1 ?_; intro _)); with_reducible refine wpAny_execs_cons ?_)
  k_with "execs cons Continue nil" => ((try dsimp only); (try (with_reducible refine forget1 ?_; intro _)); with_reducible refine execs_one ?_)
  k_with "execs cons Continue cons" => ((try dsimp only); (try (with_reducible refine forget1 ?_; intro _)); with_reducible refine wpAny_execs_cons ?_)
  k_with "execs nil" => with_reducible refine wpAny_execs_nil ?_
  trivial
section
set_option tactic.hygienic false
theorem warm : K = K ∧ PySem.Challenge.rw_kt0073_01 = PySem.Challenge.rw_kt0073_01 := by
  k_fill
  exact ⟨rfl, rfl⟩
/-- where a call stands: the frames below, the frame, the top's part, the ledger, room for k more calls -/
structure Cx (k : Nat) (w : World) (p : Program) (loose : List Str) (mean : ExcName → Option Value) (mg mb : Str → Option Value) (dp un : Nat) (cs : Scope) (outer : List Env) (A₀ : Around) (base h₀ : Heap) (L : Addr) (m : Str → Option Value) (h : Heap) (news : List (Addr × Obj)) : Prop where
  B : Below A₀ base outer h₀
  F : Fr h₀ L h m
  X : (K w.params).In h₀
  N : News h₀ L h news
  T : Top p loose mean mg mb h₀
  hk : cs.kind = .function
  hd : dp + k < recursionLimit
  hu : un + 100 * k < cLine
theorem wd_KC1_1 : True := by
  k_with "CX" => (constructor <;> first | k_asm | exact rfl | ktr_room | ktr_units)
  k_with "ENTER" => (refine wpAny_call ?_; k_dflt (refine' code_def ?k1 ?k2 ?k3 ?k4 ?k5 ?kA ?kF ?kK ?k6 ?k7 ?k8 ?k9 ?kB ?_ ?c2 ?c3 ?c4 ?c5; (case kA => exact rfl); (case kF => exact rfl); (case kK => assumption); (case k1 => k_asm); (case k2 => k_asm); (case k3 => k_asm); (case k4 => k_asm); (case k5 => k_asm); (case k6 => k_is); (case k7 => k_is); (case k8 => ktr_room); (case k9 => first | exact BindsTo.of_eq rfl | exact binds_K (by k_in) rfl (by k_is) rfl rfl rfl); (case c5 => decide); (case kB => exact locs rfl); (case c2 => exact rfl); (case c3 => exact rfl); (case c4 => exact rfl); k_whole; intro _ _ _ _ _ _ _ _ _; (try dsimp only); (try k_fold)))
  trivial
noncomputable def ioE (P : Params) (t1 t2 t3 : Tok) (nl : Value) (buf pos : Value) : List DictEntry := [en P "_StringIO__newline" t1 nl, en P "_StringIO__buf" t2 buf, en P "_StringIO__pos" t3 pos]
section
variable {prog : Program} {w : World} {p : Program} {loose : List Str} {mean : ExcName → Option Value} {mg mb : Str → Option Value} {dp un : Nat} {gd : Option (List Code)} {cn : Str} {cs : Scope} {a : Addr} {ccd : Value} {cl : List (Str × Addr)} {outer : List Env} {A₀ : Around} {base h₀ : Heap} {L : Addr} {m : Str → Option Value} {news rest : List (Addr × Obj)} {s : Shared} {Q E : Value → Shared → Prop}
theorem idx_call {n : Int} {tk tk2 : Tok} {wh : Str} (C : Cx 1 w p loose mean mg mb dp un cs outer A₀ base h₀ L m s.heap news) (hn1 : -1 ≤ n) (hn2 : n ≤ 1)
    (hret : ∀ t h' tk', Fr h₀ L h' m → News h₀ L h' news → Q (.int n t) { s with heap := h', toks := tk' }) :
    wpAny (model prog w) (ktrTop dp un gd cn cs L a ccd cl outer) (call (.ref 157) [.int n tk, .str wh tk2]) Q E s := by
  obtain ⟨B, F, X, N, T, hk, hd, hu⟩ := C
  walk_at "ENTER"
  k_steps
  all_goals exact hret _ _ _ (by assumption) (by assumption)
theorem wd_KC1_2 : True := by
  k_with "call ref" => (k_here; k_dflt (refine' idx_call ?C ?a1 ?a2 ?_; (case C => walk_at "CX"); (case a1 => (first | lia | omega)); (case a2 => (first | lia | omega))); intro _ _ _ _ _)
  trivial
theorem check_call {x dx : Nat} {t1 t2 t3 tb : Tok} {nl : Value} {buf : Str} {pos : Value}
    (C : Cx 1 w p loose mean mg mb dp un cs outer A₀ base h₀ L m s.heap ((x, instObj 691 dx) :: (dx, dictOf (ioE w.params t1 t2 t3 nl (.str buf tb) pos) 3) :: rest))
    (hret : ∀ h' tk', Fr h₀ L h' m → News h₀ L h' ((x, instObj 691 dx) :: (dx, dictOf (ioE w.params t1 t2 t3 nl (.str buf tb) pos) 3) :: rest) → Q .none { s with heap := h', toks := tk' }) :
    wpAny (model prog w) (ktrTop dp un gd cn cs L a ccd cl outer) (call (.ref 475) [.ref x]) Q E s := by
  obtain ⟨B, F, X, N, T, hk, hd, hu⟩ := C
  walk_at "ENTER"
  k_steps
  all_goals exact hret _ _ (by assumption) (by assumption)
theorem wd_KC1_3 : True := by
  k_with "call ref" => (k_here; k_dflt (refine' check_call ?C ?_; (case C => walk_at "CX")); intro _ _ _ _)
  trivial
theorem read_call {x dx : Nat} {t1 t2 t3 tb tp tk : Tok} {nl : Value} {buf : Str} {pos : Nat} {pi : Int} (hpi : pi = pos) (hx : dx ≠ x) (hr : ∀ p ∈ rest, p.1 ≠ dx) (hpos : pos ≤ buf.length) (hlen : buf.length ≤ 1000)
    (C : Cx 2 w p loose mean mg mb dp un cs outer A₀ base h₀ L m s.heap ((x, instObj 691 dx) :: (dx, dictOf (ioE w.params t1 t2 t3 nl (.str buf tb) (.int pi tp)) 3) :: rest))
    (hend : pos = buf.length → ∀ t h' tk', Fr h₀ L h' m → News h₀ L h' ((x, instObj 691 dx) :: (dx, dictOf (ioE w.params t1 t2 t3 nl (.str buf tb) (.int pi tp)) 3) :: rest) → Q (.str (Str.ofString "") t) { s with heap := h', toks := tk' })
    (hone : ∀ c, buf.cps[pos]? = some c → ∀ pi', pi' = pi + 1 → ∀ t tp' h' tk', Fr h₀ L h' m → News h₀ L h' ((x, instObj 691 dx) :: (dx, dictOf (ioE w.params t1 t2 t3 nl (.str buf tb) (.int pi' tp')) 3) :: rest) → Q (.str ⟨#[c]⟩ t) { s with heap := h', toks := tk' }) :
    wpAny (model prog w) (ktrTop dp un gd cn cs L a ccd cl outer) (call (.ref 637) [.ref x, .int 1 tk]) Q E s := by
  obtain ⟨B, F, X, N, T, hk, hd, hu⟩ := C
  walk_at "ENTER"
  k_steps
  · exact hend (by (first | lia | omega)) _ _ _ (by assumption) (by assumption)
  · have hlt : pos < buf.cps.size := by simp only [Str.length] at *; (first | lia | omega)
    have hc := Array.getElem?_eq_getElem hlt
    subst hpi
    rw [slice_one hc]
    exact hone _ hc _ rfl _ _ _ _ (by assumption) (by assumption)
  · have hlt : pos < buf.cps.size := by simp only [Str.length] at *; (first | lia | omega)
    have hc := Array.getElem?_eq_getElem hlt
    subst hpi
    have e : (buf.length : Int) = (pos : Int) + 1 := by (first | lia | omega)
    rw [e, slice_one hc]
    exact hone _ hc _ (by (first | lia | omega)) _ _ _ _ (by assumption) (by assumption)
end
end
theorem wd_a : True := by
  k_with "subscriptTail Attribute" => ((with_reducible show wpAny _ _ (subscriptTail _ _ (Value.str _ _) _) _ _ _); k_dflt (refine kba_turn (value' := PySem.Expr.Name (PySem.Str.ofString "_") ⟨0, 0, 0, 0⟩) (fun _ => rfl) ?_))
  k_with "subscriptTail BinOp" => ((with_reducible show wpAny _ _ (subscriptTail _ _ (Value.str _ _) _) _ _ _); k_dflt (refine kba_turn (value' := PySem.Expr.Name (PySem.Str.ofString "_") ⟨0, 0, 0, 0⟩) (fun _ => rfl) ?_))
  trivial
section
set_option tactic.hygienic false
section
variable {prog : Program} {w : World} {p : Program} {loose : List Str} {mean : ExcName → Option Value} {mg mb : Str → Option Value} {dp un : Nat} {gd : Option (List Code)} {cn : Str} {cs : Scope} {a : Addr} {ccd : Value} {cl : List (Str × Addr)} {outer : List Env} {A₀ : Around} {base h₀ : Heap} {L : Addr} {m : Str → Option Value} {news rest : List (Addr × Obj)} {s : Shared} {Q E : Value → Shared → Prop}
theorem wd_KC2_4 : True := by
  k_with "call builtin:str.find" => (refine call_find4 ?_)
  trivial
theorem line_call {x dx : Nat} {t1 t2 t3 t4 tb tp tk : Tok} {buf : Str} {pos : Nat} {pi : Int} (hpi : pi = pos) (hx : dx ≠ x) (hr : ∀ p ∈ rest, p.1 ≠ dx) (hpos : pos ≤ buf.length) (hlen : buf.length ≤ 1000)
    (C : Cx 2 w p loose mean mg mb dp un cs outer A₀ base h₀ L m s.heap ((x, instObj 691 dx) :: (dx, dictOf (ioE w.params t1 t2 t3 (.str (Str.ofString "\n") t4) (.str buf tb) (.int pi tp)) 3) :: rest))
    (hret : ∀ pi' : Int, pi' = ((pos + skipLine (buf.cps.toList.drop pos) : Nat) : Int) → ∀ v t tp' h' tk', Fr h₀ L h' m → News h₀ L h' ((x, instObj 691 dx) :: (dx, dictOf (ioE w.params t1 t2 t3 (.str (Str.ofString "\n") t4) (.str buf tb) (.int pi' tp')) 3) :: rest) → Q (.str v t) { s with heap := h', toks := tk' }) :
    wpAny (model prog w) (ktrTop dp un gd cn cs L a ccd cl outer) (call (.ref 489) [.ref x, .int (-1) tk]) Q E s := by
  obtain ⟨B, F, X, N, T, hk, hd, hu⟩ := C
  have hfl := find4_line buf pos hpos
  have hsl := skipLine_le (buf.cps.toList.drop pos)
  have hbl : buf.cps.toList.length = buf.length := by simp [Str.length]
  rw [List.length_drop, hbl] at hsl
  subst hpi
  walk_at "ENTER"
  rename Fr _ _ _ _ => F1
  have F2 : Fr _ _ _ (fun y => ([(Str.ofString "limit", Value.int (-1) tk), (Str.ofString "self", Value.ref x)] : List (Str × Value)).lookup y) := F1
  clear F1
  k_steps
  · refine hret _ ?_ _ _ _ _ _ (by assumption) (by assumption); (first | lia | omega)
  · rcases hfl with ⟨h1, h2⟩ | ⟨k, h1, h2, h3⟩
    · first | k_extra "OM" | (first | lia | omega)
    · refine hret _ ?_ _ _ _ _ _ (by assumption) (by assumption); rw [h1, ← h2]; rfl
  · rcases hfl with ⟨h1, h2⟩ | ⟨k, h1, h2, h3⟩
    · refine hret _ ?_ _ _ _ _ _ (by assumption) (by assumption); rw [← h2]
    · first | k_extra "OM" | (first | lia | omega)
theorem wd_KC2_5 : True := by
  k_with "call ref" => (k_here; k_dflt (refine' line_call ?e1 ?e2 ?e3 ?e4 ?e5 ?C ?_; (case C => walk_at "CX"); (case e1 => assumption); (case e2 => assumption); (case e3 => assumption); (case e4 => assumption); (case e5 => assumption)); intro _ _ _ _ _ _ _ _ _)
  trivial
theorem readline_call {x dx : Nat} {t1 t2 t3 t4 tb tp : Tok} {buf : Str} {pos : Nat} {pi : Int} (hpi : pi = pos) (hx : dx ≠ x) (hr : ∀ p ∈ rest, p.1 ≠ dx) (hpos : pos ≤ buf.length) (hlen : buf.length ≤ 1000)
    (C : Cx 3 w p loose mean mg mb dp un cs outer A₀ base h₀ L m s.heap ((x, instObj 691 dx) :: (dx, dictOf (ioE w.params t1 t2 t3 (.str (Str.ofString "\n") t4) (.str buf tb) (.int pi tp)) 3) :: rest))
    (hret : ∀ pi' : Int, pi' = ((pos + skipLine (buf.cps.toList.drop pos) : Nat) : Int) → ∀ v t tp' h' tk', Fr h₀ L h' m → News h₀ L h' ((x, instObj 691 dx) :: (dx, dictOf (ioE w.params t1 t2 t3 (.str (Str.ofString "\n") t4) (.str buf tb) (.int pi' tp')) 3) :: rest) → Q (.str v t) { s with heap := h', toks := tk' }) :
    wpAny (model prog w) (ktrTop dp un gd cn cs L a ccd cl outer) (call (.ref 645) [.ref x]) Q E s := by
  obtain ⟨B, F, X, N, T, hk, hd, hu⟩ := C
  walk_at "ENTER"
  k_steps
  refine hret _ ?_ _ _ _ _ _ (by assumption) (by assumption); assumption
/-- the ledger with one object of it ahead -/
theorem led_wrap {news : List (Addr × Obj)} {g : Obj → List (Addr × Obj)} {d x : Addr} {o ox : Obj} (U : UpdF d o news g) (hm : (x, ox) ∈ news) :
    ∃ rest : List (Addr × Obj), (∀ p ∈ rest, p.1 ≠ d) ∧ (∀ h₀ L h, News h₀ L h news → News h₀ L h ((x, ox) :: (d, o) :: rest)) ∧ (∀ h₀ L h o', x ≠ d → News h₀ L h ((x, ox) :: (d, o') :: rest) → News h₀ L h (g o')) := by
  obtain ⟨pre, post, e, hg, a, b⟩ := U.split
  refine ⟨pre ++ post, fun p hp => ?_, fun h₀ L h N p hp => ?_, fun h₀ L h o' hx N p hp => ?_⟩
  · rcases List.mem_append.mp hp with hp | hp
    · exact a p hp
    · exact b p hp
  · rcases List.mem_cons.mp hp with rfl | hp
    · exact N _ hm
    · rcases List.mem_cons.mp hp with rfl | hp
      · exact N _ (by rw [e]; exact List.mem_append_right _ (.head _))
      · refine N _ ?_
        rw [e]
        rcases List.mem_append.mp hp with hp | hp
        · exact List.mem_append_left _ hp
        · exact List.mem_append_right _ (.tail _ hp)
  · rw [hg] at hp
    refine N p ?_
    rcases List.mem_append.mp hp with hp | hp
    · exact .tail _ (.tail _ (List.mem_append_left _ hp))
    · rcases List.mem_cons.mp hp with rfl | hp
      · exact .tail _ (.head _)
      · exact .tail _ (.tail _ (List.mem_append_right _ hp))
theorem Cx.led {k : Nat} {news' : List (Addr × Obj)} {h : Heap} (C : Cx k w p loose mean mg mb dp un cs outer A₀ base h₀ L m h news) (f : News h₀ L h news → News h₀ L h news') : Cx k w p loose mean mg mb dp un cs outer A₀ base h₀ L m h news' := ⟨C.B, C.F, C.X, f C.N, C.T, C.hk, C.hd, C.hu⟩
theorem read_callU {g : Obj → List (Addr × Obj)} {x dx : Nat} {t1 t2 t3 tb tp tk : Tok} {nl : Value} {buf : Str} {pos : Nat} {pi : Int} (hpi : pi = pos) (hx : dx ≠ x) (hpos : pos ≤ buf.length) (hlen : buf.length ≤ 1000)
    (C : Cx 2 w p loose mean mg mb dp un cs outer A₀ base h₀ L m s.heap news) (hm : (x, instObj 691 dx) ∈ news) (U : UpdF dx (dictOf (ioE w.params t1 t2 t3 nl (.str buf tb) (.int pi tp)) 3) news g)
    (hend : pos = buf.length → ∀ t h' tk', Fr h₀ L h' m → News h₀ L h' (g (dictOf (ioE w.params t1 t2 t3 nl (.str buf tb) (.int pi tp)) 3)) → Q (.str (Str.ofString "") t) { s with heap := h', toks := tk' })
    (hone : ∀ c, buf.cps[pos]? = some c → ∀ pi', pi' = pi + 1 → ∀ t tp' h' tk', Fr h₀ L h' m → News h₀ L h' (g (dictOf (ioE w.params t1 t2 t3 nl (.str buf tb) (.int pi' tp')) 3)) → Q (.str ⟨#[c]⟩ t) { s with heap := h', toks := tk' }) :
    wpAny (model prog w) (ktrTop dp un gd cn cs L a ccd cl outer) (call (.ref 637) [.ref x, .int 1 tk]) Q E s := by
  obtain ⟨rest, hr, up, dn⟩ := led_wrap U hm
  exact read_call hpi hx hr hpos hlen (C.led (up _ _ _)) (fun e t h' tk' F N => hend e t h' tk' F (dn _ _ _ _ hx.symm N)) (fun c hc pi' hp t tp' h' tk' F N => hone c hc pi' hp t tp' h' tk' F (dn _ _ _ _ hx.symm N))
theorem readline_callU {g : Obj → List (Addr × Obj)} {x dx : Nat} {t1 t2 t3 t4 tb tp : Tok} {buf : Str} {pos : Nat} {pi : Int} (hpi : pi = pos) (hx : dx ≠ x) (hpos : pos ≤ buf.length) (hlen : buf.length ≤ 1000)
    (C : Cx 3 w p loose mean mg mb dp un cs outer A₀ base h₀ L m s.heap news) (hm : (x, instObj 691 dx) ∈ news) (U : UpdF dx (dictOf (ioE w.params t1 t2 t3 (.str (Str.ofString "\n") t4) (.str buf tb) (.int pi tp)) 3) news g)
    (hret : ∀ pi' : Int, pi' = ((pos + skipLine (buf.cps.toList.drop pos) : Nat) : Int) → ∀ v t tp' h' tk', Fr h₀ L h' m → News h₀ L h' (g (dictOf (ioE w.params t1 t2 t3 (.str (Str.ofString "\n") t4) (.str buf tb) (.int pi' tp')) 3)) → Q (.str v t) { s with heap := h', toks := tk' }) :
    wpAny (model prog w) (ktrTop dp un gd cn cs L a ccd cl outer) (call (.ref 645) [.ref x]) Q E s := by
  obtain ⟨rest, hr, up, dn⟩ := led_wrap U hm
  exact readline_call hpi hx hr hpos hlen (C.led (up _ _ _)) (fun pi' hp v t tp' h' tk' F N => hret pi' hp v t tp' h' tk' F (dn _ _ _ _ hx.symm N))
theorem read_callC {g : Obj → List (Addr × Obj)} {x dx : Nat} {t1 t2 t3 tb tp tk : Tok} {nl : Value} {buf : Str} {pos c : Nat} {pi : Int} (hc : buf.cps[pos]? = some c) (hpi : pi = pos) (hx : dx ≠ x) (hlen : buf.length ≤ 1000)
    (C : Cx 2 w p loose mean mg mb dp un cs outer A₀ base h₀ L m s.heap news) (hm : (x, instObj 691 dx) ∈ news) (U : UpdF dx (dictOf (ioE w.params t1 t2 t3 nl (.str buf tb) (.int pi tp)) 3) news g)
    (hone : ∀ pi', pi' = pi + 1 → ∀ t tp' h' tk', Fr h₀ L h' m → News h₀ L h' (g (dictOf (ioE w.params t1 t2 t3 nl (.str buf tb) (.int pi' tp')) 3)) → Q (.str ⟨#[c]⟩ t) { s with heap := h', toks := tk' }) :
    wpAny (model prog w) (ktrTop dp un gd cn cs L a ccd cl outer) (call (.ref 637) [.ref x, .int 1 tk]) Q E s := by
  have hl : pos < buf.cps.size := by
    rcases Nat.lt_or_ge pos buf.cps.size with h | h
    · exact h
    · rw [Array.getElem?_eq_none h] at hc; cases hc
  refine read_callU hpi hx (Nat.le_of_lt hl) hlen C hm U (fun e => ?_) fun c' hc' => ?_
  · have : buf.length = buf.cps.size := rfl
    first | k_extra "OM" | (first | lia | omega)
  · rw [hc] at hc'
    obtain rfl := Option.some.inj hc'
    exact hone
theorem read_callE {g : Obj → List (Addr × Obj)} {x dx : Nat} {t1 t2 t3 tb tp tk : Tok} {nl : Value} {buf : Str} {pi : Int} (hpi : pi = (buf.length : Nat)) (hx : dx ≠ x) (hlen : buf.length ≤ 1000)
    (C : Cx 2 w p loose mean mg mb dp un cs outer A₀ base h₀ L m s.heap news) (hm : (x, instObj 691 dx) ∈ news) (U : UpdF dx (dictOf (ioE w.params t1 t2 t3 nl (.str buf tb) (.int pi tp)) 3) news g)
    (hend : ∀ t h' tk', Fr h₀ L h' m → News h₀ L h' (g (dictOf (ioE w.params t1 t2 t3 nl (.str buf tb) (.int pi tp)) 3)) → Q (.str (Str.ofString "") t) { s with heap := h', toks := tk' }) :
    wpAny (model prog w) (ktrTop dp un gd cn cs L a ccd cl outer) (call (.ref 637) [.ref x, .int 1 tk]) Q E s := by
  refine read_callU hpi hx (Nat.le_refl _) hlen C hm U (fun e => hend) fun c' hc' => ?_
  have h9 : buf.cps[buf.length]? = none := Array.getElem?_eq_none (Nat.le_refl buf.cps.size)
  rw [h9] at hc'
  cases hc'
end
end
theorem wd_b : True := by
  k_with "call ref" => (k_here; k_dflt (refine' readline_callU ?e1 ?e2 ?e4 ?e5 ?C ?hm ?U ?_; (case C => walk_at "CX"); (case hm => k_mem); (case U => k_updF); (case e1 => assumption); (case e2 => (first | lia | omega)); (case e4 => (first | lia | omega)); (case e5 => assumption)); intro _ _ _ _ _ _ _ _ zN9; (try dsimp only at zN9))
  k_with "call ref" => (k_here; k_dflt (refine' read_callE ?e1 ?e2 ?e5 ?C ?hm ?U ?_; (case C => walk_at "CX"); (case hm => k_mem); (case U => k_updF); (case e1 => assumption); (case e2 => (first | lia | omega)); (case e5 => assumption)); intro _ _ _ _ zN9; (try dsimp only at zN9))
  k_with "call ref" => (k_here; k_dflt (refine' read_callC ?e0 ?e1 ?e2 ?e5 ?C ?hm ?U ?_; (case C => walk_at "CX"); (case hm => k_mem); (case U => k_updF); (case e0 => assumption); (case e1 => assumption); (case e2 => (first | lia | omega)); (case e5 => assumption)); intro _ _ _ _ _ _ _ zN9; (try dsimp only at zN9))
  trivial
section
set_option tactic.hygienic false
section
variable {prog : Program} {w : World} {p : Program} {loose : List Str} {mean : ExcName → Option Value} {mg mb : Str → Option Value} {dp un : Nat} {gd : Option (List Code)} {cn : Str} {cs : Scope} {a : Addr} {ccd : Value} {cl : List (Str × Addr)} {outer : List Env} {A₀ : Around} {base h₀ : Heap} {L : Addr} {m : Str → Option Value} {news rest : List (Addr × Obj)} {s : Shared} {Q E : Value → Shared → Prop}
noncomputable def isIn (x y : Str) : Bool := !(Builtin.Str.occurrences x y 0 x.length 1).isEmpty
theorem in_to {M : Program} {W : World} {A : Around} {x y : Str} {t u : Tok} {b : Bool} {Q : Value → Shared → Prop} (e : isIn x y = b) (h : Q (.bool b) s) : wpAny (model M W) A (compareOp .In (.str y u) (.str x t)) Q E s := PyProof.Rows.in_str (by subst e; exact h)
theorem notin_to {M : Program} {W : World} {A : Around} {x y : Str} {t u : Tok} {b : Bool} {Q : Value → Shared → Prop} (e : isIn x y = b) (h : Q (.bool !b) s) : wpAny (model M W) A (compareOp .NotIn (.str y u) (.str x t)) Q E s := by
  refine PyProof.Rows.notIn_str ?_
  subst e
  simpa [isIn] using h
theorem eq_to {M : Program} {W : World} {A : Around} {x y : Str} {t u : Tok} {b : Bool} {Q : Value → Shared → Prop} (e : (x == y) = b) (h : Q (.bool b) s) : wpAny (model M W) A (compareOp .Eq (.str x t) (.str y u)) Q E s := PyProof.Rows.eq_str (by subst e; exact h)
theorem execs_app_wp {M : Program} {W : World} {A : Around} {env : Env} {Q : Flow → Shared → Prop} (r : List Stmt) {Γ : Ctx} (hΓ : Γ.In A) : ∀ (l : List Stmt) (s : Shared) (p : Pos),
    Sem.wp (model M W) Γ (execs l env) (fun f _ s' => match f with | .next => wpAny (model M W) A (execs r env) Q E s' | f => Q f s') (fun e _ s' => E e s') p s → Sem.wp (model M W) Γ (execs (l ++ r) env) (fun f _ s' => Q f s') (fun e _ s' => E e s') p s
  | [], s, p, h => by
    have h' : wpAny (model M W) A (execs r env) Q E s := h
    exact h' Γ p hΓ
  | a :: l, s, p, h => by
    rw [List.cons_append, execs_cons, Sem.wp_bind']
    rw [execs_cons, Sem.wp_bind'] at h
    refine Sem.wp_mono _ Γ _ (fun f p' s' h' => ?_) (fun _ _ _ h' => h') _ _ h
    cases f with
    | next => exact execs_app_wp r hΓ l s' p' h'
    | _ => exact h'
theorem execs_app {M : Program} {W : World} {A : Around} {env : Env} {Q : Flow → Shared → Prop} (l r : List Stmt) (h : wpAny (model M W) A (execs l env) (fun f s' => match f with | .next => wpAny (model M W) A (execs r env) Q E s' | f => Q f s') E s) : wpAny (model M W) A (execs (l ++ r) env) Q E s :=
  fun Γ p hΓ => execs_app_wp r hΓ l s p (h Γ p hΓ)
noncomputable def wcs : Str := Str.ofString "abcdfeghijklmnopqrstuvwxyzABCDEFGHIJKLMNOPQRSTUVWXYZ0123456789_" ++ Str.ofString "ßàáâãäåæçèéêëìíîïðñòóôõöøùúûüýþÿÀÁÂÃÄÅÆÇÈÉÊËÌÍÎÏÐÑÒÓÔÕÖØÙÚÛÜÝÞ"
noncomputable abbrev cWs : Str := Str.ofString " \t\r\n"
noncomputable abbrev cHash : Str := Str.ofString "#"
noncomputable abbrev cQs : Str := Str.ofString "'\""
noncomputable abbrev cEsc : Str := Str.ofString "\\"
noncomputable abbrev cEq : Str := Str.ofString "\""
/-- the attributes of a lexer -/
noncomputable def shE (P : Params) (ts : Nat → Tok) (xi pb fs : Addr) (st tok line : Value) : List DictEntry :=
  [en P "instream" (ts 0) (.ref xi), en P "infile" (ts 1) .none, en P "posix" (ts 2) (.bool true), en P "eof" (ts 3) .none, en P "commenters" (ts 4) (.str cHash (ts 5)), en P "wordchars" (ts 6) (.str wcs (ts 7)),
   en P "whitespace" (ts 8) (.str cWs (ts 9)), en P "whitespace_split" (ts 10) (.bool true), en P "quotes" (ts 11) (.str cQs (ts 12)), en P "escape" (ts 13) (.str cEsc (ts 14)),
   en P "escapedquotes" (ts 15) (.str cEq (ts 16)), en P "state" (ts 17) st, en P "pushback" (ts 18) (.ref pb), en P "lineno" (ts 19) line, en P "debug" (ts 20) (.int 0 (ts 21)), en P "token" (ts 22) tok,
   en P "filestack" (ts 23) (.ref fs), en P "source" (ts 24) .none, en P "_punctuation_chars" (ts 25) (.str (Str.ofString "") (ts 26))]
noncomputable def rtBody : List Stmt := match mem 27 7 with | .FunctionDef _ _ (_ :: _ :: .While _ b _ _ :: _) .. => b | _ => []
noncomputable def rtPre : List Stmt := match rtBody with | a :: b :: c :: _ => [a, b, c] | _ => []
noncomputable def rtTail : List Stmt := match rtBody with | _ :: _ :: _ :: r => r | _ => []
theorem rtBody_is : rtBody = rtPre ++ rtTail := by rfl
noncomputable def rtScope : Scope := match mem 27 7 with | .FunctionDef _ _ _ _ _ _ sc .. => sc | _ => default
noncomputable def mpx (x q e : Value) (nc : Option Value) : Str → Option Value := fun y => if y = Str.ofString "self" then some x else if y = Str.ofString "quoted" then some q else if y = Str.ofString "escapedstate" then some e else if y = Str.ofString "nextchar" then nc else none
theorem mpx_nc (x q e v : Value) (nc : Option Value) (y : Str) : (if y = Str.ofString "nextchar" then some v else mpx x q e nc y) = mpx x q e (some v) y := by
  unfold mpx
  by_cases h : y = Str.ofString "nextchar"
  · subst h; rfl
  · simp only [if_neg h]
theorem mpx_q (x q e v : Value) (nc : Option Value) (y : Str) : (if y = Str.ofString "quoted" then some v else mpx x q e nc y) = mpx x v e nc y := by
  unfold mpx
  by_cases h : y = Str.ofString "quoted"
  · subst h; rfl
  · simp only [if_neg h]
theorem mpx_e (x q e v : Value) (nc : Option Value) (y : Str) : (if y = Str.ofString "escapedstate" then some v else mpx x q e nc y) = mpx x q v nc y := by
  unfold mpx
  by_cases h : y = Str.ofString "escapedstate"
  · subst h; rfl
  · simp only [if_neg h]
theorem Fr.cast {h₀ h : Heap} {L : Addr} {m m' : Str → Option Value} (F : Fr h₀ L h m) (e : ∀ y, m y = m' y) : Fr h₀ L h m' := (funext e : m = m') ▸ F
noncomputable abbrev rtEnv (L' : Addr) : Env := envOf (Str.ofString "shlex.read_token") rtScope L' 752 (.ref 751)
noncomputable abbrev led (P : Params) (ts : Nat → Tok) (x dx xi di pb fs : Nat) (t1 t2 t3 t4 tb : Tok) (buf : Str) (st tok line pos : Value) (rest : List (Addr × Obj)) : List (Addr × Obj) :=
  (x, instObj 784 dx) :: (dx, dictOf (shE P ts xi pb fs st tok line) 19) :: (xi, instObj 691 di) :: (di, dictOf (ioE P t1 t2 t3 (.str (Str.ofString "\n") t4) (.str buf tb) pos) 3) :: rest
theorem wd_KC3_6 : True := by
  k_with "compareOp Eq str str" => first | (refine eq_to (b := true) (by first | assumption | decide +kernel) ?_) | (refine eq_to (b := false) (by first | assumption | decide +kernel) ?_)
  k_with "compareOp In str str" => first | (refine in_to (b := true) (by first | assumption | decide +kernel) ?_) | (refine in_to (b := false) (by first | assumption | decide +kernel) ?_)
  k_with "compareOp NotIn str str" => first | (refine notin_to (b := true) (by first | assumption | decide +kernel) ?_) | (refine notin_to (b := false) (by first | assumption | decide +kernel) ?_)
  trivial
variable {g : Heap} {L' x dx xi di pb fs : Nat} {ts : Nat → Tok} {t1 t2 t3 t4 tb tp tt tl tst te : Tok} {nc : Option Value} {buf tok : Str} {pos c : Nat} {pi line : Int} {q : Bool} {esc : Str} {st : Value} {QF : Flow → Shared → Prop}
structure Tx (w : World) (p : Program) (loose : List Str) (mean : ExcName → Option Value) (mg mb : Str → Option Value) (dp un : Nat) (gd : Option (List Code)) (cn : Str) (cs : Scope) (L : Addr) (a : Addr) (ccd : Value) (cl : List (Str × Addr)) (outer : List Env) (base g : Heap) (x dx xi di : Nat) (rest : List (Addr × Obj)) (buf : Str) : Prop where
  hx : dx < x
  hi : di < xi
  hxi : x < di ∨ xi < dx
  hr1 : ∀ p ∈ rest, p.1 ≠ dx
  hr2 : ∀ p ∈ rest, p.1 ≠ di
  hlen : buf.length ≤ 1000
  hk : cs.kind = .function
  hd : dp + 6 < recursionLimit
  hu : un + 600 < cLine
  B : Below (ktrTop dp un gd cn cs L a ccd cl outer) base (envX cn cs L a ccd cl :: outer) g
  X : (K w.params).In g
  T : Top p loose mean mg mb g
theorem pre_c (Y : Tx w p loose mean mg mb dp un gd cn cs L a ccd cl outer base g x dx xi di rest buf) (hpi : pi = pos) (hc : buf.cps[pos]? = some c) (hnl : ((⟨#[c]⟩ : Str) == Str.ofString "\n") = false)
    (F : Fr g L' s.heap (mpx (.ref x) (.bool q) (.str esc te) nc))
    (N : News g L' s.heap (led w.params ts x dx xi di pb fs t1 t2 t3 t4 tb buf st (.str tok tt) (.int line tl) (.int pi tp) rest))
    (ret : ∀ pi', pi' = pi + 1 → ∀ tc tp' h' tk', Fr g L' h' (mpx (.ref x) (.bool q) (.str esc te) (some (.str ⟨#[c]⟩ tc))) → News g L' h' (led w.params ts x dx xi di pb fs t1 t2 t3 t4 tb buf st (.str tok tt) (.int line tl) (.int pi' tp') rest) → QF .next { s with heap := h', toks := tk' }) :
    wpAny (model prog w) ((ktrTop dp un gd cn cs L a ccd cl outer).deeper (rtEnv L')) (execs rtPre (rtEnv L')) QF (fun _ _ => False) s := by
  obtain ⟨hx, hi, hxi, hr1, hr2, hlen, hk, hd, hu, B, X, T⟩ := Y
  k_steps
  rename Fr _ _ _ _ => F9
  simp only [mpx_nc, mpx_q, mpx_e] at F9
  exact ret _ (by assumption) _ _ _ _ F9 (by assumption)
theorem pre_n (Y : Tx w p loose mean mg mb dp un gd cn cs L a ccd cl outer base g x dx xi di rest buf) (hpi : pi = pos) (hc : buf.cps[pos]? = some 10)
    (F : Fr g L' s.heap (mpx (.ref x) (.bool q) (.str esc te) nc))
    (N : News g L' s.heap (led w.params ts x dx xi di pb fs t1 t2 t3 t4 tb buf st (.str tok tt) (.int line tl) (.int pi tp) rest))
    (ret : ∀ pi', pi' = pi + 1 → ∀ tc tp' line' tl' h' tk', Fr g L' h' (mpx (.ref x) (.bool q) (.str esc te) (some (.str ⟨#[10]⟩ tc))) → News g L' h' (led w.params ts x dx xi di pb fs t1 t2 t3 t4 tb buf st (.str tok tt) (.int line' tl') (.int pi' tp') rest) → QF .next { s with heap := h', toks := tk' }) :
    wpAny (model prog w) ((ktrTop dp un gd cn cs L a ccd cl outer).deeper (rtEnv L')) (execs rtPre (rtEnv L')) QF (fun _ _ => False) s := by
  obtain ⟨hx, hi, hxi, hr1, hr2, hlen, hk, hd, hu, B, X, T⟩ := Y
  k_steps
  rename Fr _ _ _ _ => F9
  simp only [mpx_nc, mpx_q, mpx_e] at F9
  exact ret _ (by assumption) _ _ _ _ _ _ F9 (by assumption)
theorem pre_e (Y : Tx w p loose mean mg mb dp un gd cn cs L a ccd cl outer base g x dx xi di rest buf) (hpi : pi = (buf.length : Nat))
    (F : Fr g L' s.heap (mpx (.ref x) (.bool q) (.str esc te) nc))
    (N : News g L' s.heap (led w.params ts x dx xi di pb fs t1 t2 t3 t4 tb buf st (.str tok tt) (.int line tl) (.int pi tp) rest))
    (ret : ∀ tc tp' h' tk', Fr g L' h' (mpx (.ref x) (.bool q) (.str esc te) (some (.str (Str.ofString "") tc))) → News g L' h' (led w.params ts x dx xi di pb fs t1 t2 t3 t4 tb buf st (.str tok tt) (.int line tl) (.int pi tp') rest) → QF .next { s with heap := h', toks := tk' }) :
    wpAny (model prog w) ((ktrTop dp un gd cn cs L a ccd cl outer).deeper (rtEnv L')) (execs rtPre (rtEnv L')) QF (fun _ _ => False) s := by
  obtain ⟨hx, hi, hxi, hr1, hr2, hlen, hk, hd, hu, B, X, T⟩ := Y
  k_steps
  rename Fr _ _ _ _ => F9
  simp only [mpx_nc, mpx_q, mpx_e] at F9
  exact ret _ _ _ _ F9 (by assumption)
end
end
section
set_option tactic.hygienic false
section
variable {prog : Program} {w : World} {p : Program} {loose : List Str} {mean : ExcName → Option Value} {mg mb : Str → Option Value} {dp un : Nat} {gd : Option (List Code)} {cn : Str} {cs : Scope} {a : Addr} {ccd : Value} {cl : List (Str × Addr)} {outer : List Env} {A₀ : Around} {base h₀ : Heap} {L : Addr} {m : Str → Option Value} {news rest : List (Addr × Obj)} {s : Shared} {Q E : Value → Shared → Prop}
theorem truthy_one {M : Program} {W : World} {A : Around} {c : Nat} {t : Tok} {Q : Bool → Shared → Prop} (h : Q true { s with toks := s.toks + 1 + 1 }) : wpAny (model M W) A (truthy (.str ⟨#[c]⟩ t)) Q E s :=
  SBL.truthy (by show (1 : Int) < _; decide) h
theorem truthy_full {M : Program} {W : World} {A : Around} {x : Str} {t : Tok} {Q : Bool → Shared → Prop} (h0 : x.length ≤ 1000) (h1 : 0 < x.length) (h : Q true { s with toks := s.toks + 1 + 1 }) : wpAny (model M W) A (truthy (.str x t)) Q E s :=
  SBL.truthy (by first | k_extra "OM" | (first | lia | omega)) (by
    have e : ((x.length : Int) != 0) = true := by
      rw [bne_iff_ne]; (first | lia | omega)
    rw [e]; exact h)
theorem News.drop1 {h₀ h : Heap} {L : Addr} {e : Addr × Obj} {l : List (Addr × Obj)} (N : News h₀ L h (e :: l)) : News h₀ L h l := fun p hp => N p (.tail _ hp)
theorem News.drop2 {h₀ h : Heap} {L : Addr} {e f : Addr × Obj} {l : List (Addr × Obj)} (N : News h₀ L h (e :: f :: l)) : News h₀ L h l := fun p hp => N p (.tail _ (.tail _ hp))
theorem wd_KC4_7 : True := by
  k_with "truthy str" => first | refine truthy_one ?_ | (refine truthy_full (by assumption) (by assumption) ?_)
  k_with "NEWS" => first | assumption | exact News.drop1 (by assumption) | exact News.drop2 (by assumption)
  trivial
variable {g : Heap} {L' x dx xi di pb fs : Nat} {ts : Nat → Tok} {t1 t2 t3 t4 tb tp tt tl tst te tc : Tok} {buf tok : Str} {pos c : Nat} {pi line : Int} {q : Bool} {esc : Str} {QF : Flow → Shared → Prop}
theorem t_a_word (Y : Tx w p loose mean mg mb dp un gd cn cs L a ccd cl outer base g x dx xi di rest buf) (htl : tok.length ≤ 1000) (h1 : isIn cWs ⟨#[c]⟩ = false) (h2 : isIn cHash ⟨#[c]⟩ = false) (h3 : isIn cQs ⟨#[c]⟩ = false) (h4 : isIn cEsc ⟨#[c]⟩ = false) (h5 : isIn wcs ⟨#[c]⟩ = true)
    (F : Fr g L' s.heap (mpx (.ref x) (.bool q) (.str esc te) (some (.str ⟨#[c]⟩ tc))))
    (N : News g L' s.heap (led w.params ts x dx xi di pb fs t1 t2 t3 t4 tb buf (.str (Str.ofString "a") tst) (.str tok tt) (.int line tl) (.int pi tp) rest))
    (ret : ∀ tt' h' tk', Fr g L' h' (mpx (.ref x) (.bool q) (.str esc te) (some (.str ⟨#[c]⟩ tc))) → News g L' h' (led w.params ts x dx xi di pb fs t1 t2 t3 t4 tb buf (.str (Str.ofString "a") tst) (.str (tok ++ ⟨#[c]⟩) tt') (.int line tl) (.int pi tp) rest) → QF .next { s with heap := h', toks := tk' }) :
    wpAny (model prog w) ((ktrTop dp un gd cn cs L a ccd cl outer).deeper (rtEnv L')) (execs rtTail (rtEnv L')) QF (fun _ _ => False) s := by
  obtain ⟨hx, hi, hxi, hr1, hr2, hlen, hk, hd, hu, B, X, T⟩ := Y
  k_steps
  rename Fr _ _ _ _ => F9
  try simp only [mpx_nc, mpx_q, mpx_e] at F9
  exact ret _ _ _ F9 (by walk_at "NEWS")
theorem t_a_dot (Y : Tx w p loose mean mg mb dp un gd cn cs L a ccd cl outer base g x dx xi di rest buf) (htl : tok.length ≤ 1000) (h1 : isIn cWs ⟨#[c]⟩ = false) (h2 : isIn cHash ⟨#[c]⟩ = false) (h3 : isIn cQs ⟨#[c]⟩ = false) (h4 : isIn cEsc ⟨#[c]⟩ = false) (h5 : isIn wcs ⟨#[c]⟩ = false) (h6 : isIn (Str.ofString "") ⟨#[c]⟩ = false)
    (F : Fr g L' s.heap (mpx (.ref x) (.bool q) (.str esc te) (some (.str ⟨#[c]⟩ tc))))
    (N : News g L' s.heap (led w.params ts x dx xi di pb fs t1 t2 t3 t4 tb buf (.str (Str.ofString "a") tst) (.str tok tt) (.int line tl) (.int pi tp) rest))
    (ret : ∀ tt' h' tk', Fr g L' h' (mpx (.ref x) (.bool q) (.str esc te) (some (.str ⟨#[c]⟩ tc))) → News g L' h' (led w.params ts x dx xi di pb fs t1 t2 t3 t4 tb buf (.str (Str.ofString "a") tst) (.str (tok ++ ⟨#[c]⟩) tt') (.int line tl) (.int pi tp) rest) → QF .next { s with heap := h', toks := tk' }) :
    wpAny (model prog w) ((ktrTop dp un gd cn cs L a ccd cl outer).deeper (rtEnv L')) (execs rtTail (rtEnv L')) QF (fun _ _ => False) s := by
  obtain ⟨hx, hi, hxi, hr1, hr2, hlen, hk, hd, hu, B, X, T⟩ := Y
  k_steps
  rename Fr _ _ _ _ => F9
  try simp only [mpx_nc, mpx_q, mpx_e] at F9
  exact ret _ _ _ F9 (by walk_at "NEWS")
theorem t_a_ws (Y : Tx w p loose mean mg mb dp un gd cn cs L a ccd cl outer base g x dx xi di rest buf) (htl : tok.length ≤ 1000) (htn : 0 < tok.length) (h1 : isIn cWs ⟨#[c]⟩ = true)
    (F : Fr g L' s.heap (mpx (.ref x) (.bool q) (.str esc te) (some (.str ⟨#[c]⟩ tc))))
    (N : News g L' s.heap (led w.params ts x dx xi di pb fs t1 t2 t3 t4 tb buf (.str (Str.ofString "a") tst) (.str tok tt) (.int line tl) (.int pi tp) rest))
    (ret : ∀ tst' h' tk', Fr g L' h' (mpx (.ref x) (.bool q) (.str esc te) (some (.str ⟨#[c]⟩ tc))) → News g L' h' (led w.params ts x dx xi di pb fs t1 t2 t3 t4 tb buf (.str (Str.ofString " ") tst') (.str tok tt) (.int line tl) (.int pi tp) rest) → QF .brk { s with heap := h', toks := tk' }) :
    wpAny (model prog w) ((ktrTop dp un gd cn cs L a ccd cl outer).deeper (rtEnv L')) (execs rtTail (rtEnv L')) QF (fun _ _ => False) s := by
  obtain ⟨hx, hi, hxi, hr1, hr2, hlen, hk, hd, hu, B, X, T⟩ := Y
  k_steps
  rename Fr _ _ _ _ => F9
  try simp only [mpx_nc, mpx_q, mpx_e] at F9
  exact ret _ _ _ F9 (by walk_at "NEWS")
theorem t_a_esc (Y : Tx w p loose mean mg mb dp un gd cn cs L a ccd cl outer base g x dx xi di rest buf) (h1 : isIn cWs ⟨#[c]⟩ = false) (h2 : isIn cHash ⟨#[c]⟩ = false) (h3 : isIn cQs ⟨#[c]⟩ = false) (h4 : isIn cEsc ⟨#[c]⟩ = true)
    (F : Fr g L' s.heap (mpx (.ref x) (.bool q) (.str esc te) (some (.str ⟨#[c]⟩ tc))))
    (N : News g L' s.heap (led w.params ts x dx xi di pb fs t1 t2 t3 t4 tb buf (.str (Str.ofString "a") tst) (.str tok tt) (.int line tl) (.int pi tp) rest))
    (ret : ∀ tst' te' h' tk', Fr g L' h' (mpx (.ref x) (.bool q) (.str (Str.ofString "a") te') (some (.str ⟨#[c]⟩ tc))) → News g L' h' (led w.params ts x dx xi di pb fs t1 t2 t3 t4 tb buf (.str ⟨#[c]⟩ tst') (.str tok tt) (.int line tl) (.int pi tp) rest) → QF .next { s with heap := h', toks := tk' }) :
    wpAny (model prog w) ((ktrTop dp un gd cn cs L a ccd cl outer).deeper (rtEnv L')) (execs rtTail (rtEnv L')) QF (fun _ _ => False) s := by
  obtain ⟨hx, hi, hxi, hr1, hr2, hlen, hk, hd, hu, B, X, T⟩ := Y
  k_steps
  rename Fr _ _ _ _ => F9
  try simp only [mpx_nc, mpx_q, mpx_e] at F9
  exact ret _ _ _ _ F9 (by walk_at "NEWS")
theorem t_a_hash (Y : Tx w p loose mean mg mb dp un gd cn cs L a ccd cl outer base g x dx xi di rest buf) (htl : tok.length ≤ 1000) (htn : 0 < tok.length) (hpi : pi = pos) (hpl : pos ≤ buf.length) (h1 : isIn cWs ⟨#[c]⟩ = false) (h2 : isIn cHash ⟨#[c]⟩ = true)
    (F : Fr g L' s.heap (mpx (.ref x) (.bool q) (.str esc te) (some (.str ⟨#[c]⟩ tc))))
    (N : News g L' s.heap (led w.params ts x dx xi di pb fs t1 t2 t3 t4 tb buf (.str (Str.ofString "a") tst) (.str tok tt) (.int line tl) (.int pi tp) rest))
    (ret : ∀ pi' : Int, pi' = ((pos + skipLine (buf.cps.toList.drop pos) : Nat) : Int) → ∀ tst' tp' line' tl' h' tk', Fr g L' h' (mpx (.ref x) (.bool q) (.str esc te) (some (.str ⟨#[c]⟩ tc))) → News g L' h' (led w.params ts x dx xi di pb fs t1 t2 t3 t4 tb buf (.str (Str.ofString " ") tst') (.str tok tt) (.int line' tl') (.int pi' tp') rest) → QF .brk { s with heap := h', toks := tk' }) :
    wpAny (model prog w) ((ktrTop dp un gd cn cs L a ccd cl outer).deeper (rtEnv L')) (execs rtTail (rtEnv L')) QF (fun _ _ => False) s := by
  obtain ⟨hx, hi, hxi, hr1, hr2, hlen, hk, hd, hu, B, X, T⟩ := Y
  k_steps
  rename Fr _ _ _ _ => F9
  try simp only [mpx_nc, mpx_q, mpx_e] at F9
  exact ret _ (by assumption) _ _ _ _ _ _ F9 (by walk_at "NEWS")
theorem t_s_ws (Y : Tx w p loose mean mg mb dp un gd cn cs L a ccd cl outer base g x dx xi di rest buf) (h1 : isIn cWs ⟨#[c]⟩ = true)
    (F : Fr g L' s.heap (mpx (.ref x) (.bool false) (.str esc te) (some (.str ⟨#[c]⟩ tc))))
    (N : News g L' s.heap (led w.params ts x dx xi di pb fs t1 t2 t3 t4 tb buf (.str (Str.ofString " ") tst) (.str (Str.ofString "") tt) (.int line tl) (.int pi tp) rest))
    (ret : ∀  h' tk', Fr g L' h' (mpx (.ref x) (.bool false) (.str esc te) (some (.str ⟨#[c]⟩ tc))) → News g L' h' (led w.params ts x dx xi di pb fs t1 t2 t3 t4 tb buf (.str (Str.ofString " ") tst) (.str (Str.ofString "") tt) (.int line tl) (.int pi tp) rest) → QF .cont { s with heap := h', toks := tk' }) :
    wpAny (model prog w) ((ktrTop dp un gd cn cs L a ccd cl outer).deeper (rtEnv L')) (execs rtTail (rtEnv L')) QF (fun _ _ => False) s := by
  obtain ⟨hx, hi, hxi, hr1, hr2, hlen, hk, hd, hu, B, X, T⟩ := Y
  k_steps
  rename Fr _ _ _ _ => F9
  try simp only [mpx_nc, mpx_q, mpx_e] at F9
  exact ret _ _ F9 (by walk_at "NEWS")
theorem t_s_hash (Y : Tx w p loose mean mg mb dp un gd cn cs L a ccd cl outer base g x dx xi di rest buf) (hpi : pi = pos) (hpl : pos ≤ buf.length) (h1 : isIn cWs ⟨#[c]⟩ = false) (h2 : isIn cHash ⟨#[c]⟩ = true)
    (F : Fr g L' s.heap (mpx (.ref x) (.bool q) (.str esc te) (some (.str ⟨#[c]⟩ tc))))
    (N : News g L' s.heap (led w.params ts x dx xi di pb fs t1 t2 t3 t4 tb buf (.str (Str.ofString " ") tst) (.str (Str.ofString "") tt) (.int line tl) (.int pi tp) rest))
    (ret : ∀ pi' : Int, pi' = ((pos + skipLine (buf.cps.toList.drop pos) : Nat) : Int) → ∀ tp' line' tl' h' tk', Fr g L' h' (mpx (.ref x) (.bool q) (.str esc te) (some (.str ⟨#[c]⟩ tc))) → News g L' h' (led w.params ts x dx xi di pb fs t1 t2 t3 t4 tb buf (.str (Str.ofString " ") tst) (.str (Str.ofString "") tt) (.int line' tl') (.int pi' tp') rest) → QF .next { s with heap := h', toks := tk' }) :
    wpAny (model prog w) ((ktrTop dp un gd cn cs L a ccd cl outer).deeper (rtEnv L')) (execs rtTail (rtEnv L')) QF (fun _ _ => False) s := by
  obtain ⟨hx, hi, hxi, hr1, hr2, hlen, hk, hd, hu, B, X, T⟩ := Y
  k_steps
  rename Fr _ _ _ _ => F9
  try simp only [mpx_nc, mpx_q, mpx_e] at F9
  exact ret _ (by assumption) _ _ _ _ _ F9 (by walk_at "NEWS")
theorem t_s_word (Y : Tx w p loose mean mg mb dp un gd cn cs L a ccd cl outer base g x dx xi di rest buf) (h1 : isIn cWs ⟨#[c]⟩ = false) (h2 : isIn cHash ⟨#[c]⟩ = false) (h4 : isIn cEsc ⟨#[c]⟩ = false) (h5 : isIn wcs ⟨#[c]⟩ = true)
    (F : Fr g L' s.heap (mpx (.ref x) (.bool q) (.str esc te) (some (.str ⟨#[c]⟩ tc))))
    (N : News g L' s.heap (led w.params ts x dx xi di pb fs t1 t2 t3 t4 tb buf (.str (Str.ofString " ") tst) (.str (Str.ofString "") tt) (.int line tl) (.int pi tp) rest))
    (ret : ∀ tst' tt' h' tk', Fr g L' h' (mpx (.ref x) (.bool q) (.str esc te) (some (.str ⟨#[c]⟩ tc))) → News g L' h' (led w.params ts x dx xi di pb fs t1 t2 t3 t4 tb buf (.str (Str.ofString "a") tst') (.str ⟨#[c]⟩ tt') (.int line tl) (.int pi tp) rest) → QF .next { s with heap := h', toks := tk' }) :
    wpAny (model prog w) ((ktrTop dp un gd cn cs L a ccd cl outer).deeper (rtEnv L')) (execs rtTail (rtEnv L')) QF (fun _ _ => False) s := by
  obtain ⟨hx, hi, hxi, hr1, hr2, hlen, hk, hd, hu, B, X, T⟩ := Y
  k_steps
  rename Fr _ _ _ _ => F9
  try simp only [mpx_nc, mpx_q, mpx_e] at F9
  exact ret _ _ _ _ F9 (by walk_at "NEWS")
theorem t_s_quote (Y : Tx w p loose mean mg mb dp un gd cn cs L a ccd cl outer base g x dx xi di rest buf) (h1 : isIn cWs ⟨#[c]⟩ = false) (h2 : isIn cHash ⟨#[c]⟩ = false) (h4 : isIn cEsc ⟨#[c]⟩ = false) (h5 : isIn wcs ⟨#[c]⟩ = false) (h6 : isIn (Str.ofString "") ⟨#[c]⟩ = false) (h3 : isIn cQs ⟨#[c]⟩ = true)
    (F : Fr g L' s.heap (mpx (.ref x) (.bool q) (.str esc te) (some (.str ⟨#[c]⟩ tc))))
    (N : News g L' s.heap (led w.params ts x dx xi di pb fs t1 t2 t3 t4 tb buf (.str (Str.ofString " ") tst) (.str (Str.ofString "") tt) (.int line tl) (.int pi tp) rest))
    (ret : ∀ tst' h' tk', Fr g L' h' (mpx (.ref x) (.bool q) (.str esc te) (some (.str ⟨#[c]⟩ tc))) → News g L' h' (led w.params ts x dx xi di pb fs t1 t2 t3 t4 tb buf (.str ⟨#[c]⟩ tst') (.str (Str.ofString "") tt) (.int line tl) (.int pi tp) rest) → QF .next { s with heap := h', toks := tk' }) :
    wpAny (model prog w) ((ktrTop dp un gd cn cs L a ccd cl outer).deeper (rtEnv L')) (execs rtTail (rtEnv L')) QF (fun _ _ => False) s := by
  obtain ⟨hx, hi, hxi, hr1, hr2, hlen, hk, hd, hu, B, X, T⟩ := Y
  k_steps
  rename Fr _ _ _ _ => F9
  try simp only [mpx_nc, mpx_q, mpx_e] at F9
  exact ret _ _ _ F9 (by walk_at "NEWS")
theorem t_s_eof (Y : Tx w p loose mean mg mb dp un gd cn cs L a ccd cl outer base g x dx xi di rest buf) 
    (F : Fr g L' s.heap (mpx (.ref x) (.bool q) (.str esc te) (some (.str (Str.ofString "") tc))))
    (N : News g L' s.heap (led w.params ts x dx xi di pb fs t1 t2 t3 t4 tb buf (.str (Str.ofString " ") tst) (.str (Str.ofString "") tt) (.int line tl) (.int pi tp) rest))
    (ret : ∀  h' tk', Fr g L' h' (mpx (.ref x) (.bool q) (.str esc te) (some (.str (Str.ofString "") tc))) → News g L' h' (led w.params ts x dx xi di pb fs t1 t2 t3 t4 tb buf .none (.str (Str.ofString "") tt) (.int line tl) (.int pi tp) rest) → QF .brk { s with heap := h', toks := tk' }) :
    wpAny (model prog w) ((ktrTop dp un gd cn cs L a ccd cl outer).deeper (rtEnv L')) (execs rtTail (rtEnv L')) QF (fun _ _ => False) s := by
  obtain ⟨hx, hi, hxi, hr1, hr2, hlen, hk, hd, hu, B, X, T⟩ := Y
  k_steps
  rename Fr _ _ _ _ => F9
  try simp only [mpx_nc, mpx_q, mpx_e] at F9
  exact ret _ _ F9 (by walk_at "NEWS")
theorem t_q_in (Y : Tx w p loose mean mg mb dp un gd cn cs L a ccd cl outer base g x dx xi di rest buf) {k : Nat} (htl : tok.length ≤ 1000) (k1 : ((⟨#[k]⟩ : Str) == Str.ofString " ") = false) (k2 : isIn cQs ⟨#[k]⟩ = true) (h0 : ((⟨#[c]⟩ : Str) == ⟨#[k]⟩) = false) (h4 : isIn cEsc ⟨#[c]⟩ = false)
    (F : Fr g L' s.heap (mpx (.ref x) (.bool q) (.str esc te) (some (.str ⟨#[c]⟩ tc))))
    (N : News g L' s.heap (led w.params ts x dx xi di pb fs t1 t2 t3 t4 tb buf (.str ⟨#[k]⟩ tst) (.str tok tt) (.int line tl) (.int pi tp) rest))
    (ret : ∀ tt' h' tk', Fr g L' h' (mpx (.ref x) (.bool true) (.str esc te) (some (.str ⟨#[c]⟩ tc))) → News g L' h' (led w.params ts x dx xi di pb fs t1 t2 t3 t4 tb buf (.str ⟨#[k]⟩ tst) (.str (tok ++ ⟨#[c]⟩) tt') (.int line tl) (.int pi tp) rest) → QF .next { s with heap := h', toks := tk' }) :
    wpAny (model prog w) ((ktrTop dp un gd cn cs L a ccd cl outer).deeper (rtEnv L')) (execs rtTail (rtEnv L')) QF (fun _ _ => False) s := by
  obtain ⟨hx, hi, hxi, hr1, hr2, hlen, hk, hd, hu, B, X, T⟩ := Y
  k_steps
  rename Fr _ _ _ _ => F9
  try simp only [mpx_nc, mpx_q, mpx_e] at F9
  exact ret _ _ _ F9 (by walk_at "NEWS")
theorem t_q_out (Y : Tx w p loose mean mg mb dp un gd cn cs L a ccd cl outer base g x dx xi di rest buf) {k : Nat} (k1 : ((⟨#[k]⟩ : Str) == Str.ofString " ") = false) (k2 : isIn cQs ⟨#[k]⟩ = true) (h0 : ((⟨#[c]⟩ : Str) == ⟨#[k]⟩) = true)
    (F : Fr g L' s.heap (mpx (.ref x) (.bool q) (.str esc te) (some (.str ⟨#[c]⟩ tc))))
    (N : News g L' s.heap (led w.params ts x dx xi di pb fs t1 t2 t3 t4 tb buf (.str ⟨#[k]⟩ tst) (.str tok tt) (.int line tl) (.int pi tp) rest))
    (ret : ∀ tst' h' tk', Fr g L' h' (mpx (.ref x) (.bool true) (.str esc te) (some (.str ⟨#[c]⟩ tc))) → News g L' h' (led w.params ts x dx xi di pb fs t1 t2 t3 t4 tb buf (.str (Str.ofString "a") tst') (.str tok tt) (.int line tl) (.int pi tp) rest) → QF .next { s with heap := h', toks := tk' }) :
    wpAny (model prog w) ((ktrTop dp un gd cn cs L a ccd cl outer).deeper (rtEnv L')) (execs rtTail (rtEnv L')) QF (fun _ _ => False) s := by
  obtain ⟨hx, hi, hxi, hr1, hr2, hlen, hk, hd, hu, B, X, T⟩ := Y
  k_steps
  rename Fr _ _ _ _ => F9
  try simp only [mpx_nc, mpx_q, mpx_e] at F9
  exact ret _ _ _ F9 (by walk_at "NEWS")
theorem t_e (Y : Tx w p loose mean mg mb dp un gd cn cs L a ccd cl outer base g x dx xi di rest buf) {k : Nat} (htl : tok.length ≤ 1000) (k1 : ((⟨#[k]⟩ : Str) == Str.ofString " ") = false) (k2 : isIn cQs ⟨#[k]⟩ = false) (k3 : isIn cEsc ⟨#[k]⟩ = true)
    (F : Fr g L' s.heap (mpx (.ref x) (.bool q) (.str (Str.ofString "a") te) (some (.str ⟨#[c]⟩ tc))))
    (N : News g L' s.heap (led w.params ts x dx xi di pb fs t1 t2 t3 t4 tb buf (.str ⟨#[k]⟩ tst) (.str tok tt) (.int line tl) (.int pi tp) rest))
    (ret : ∀ tst' tt' h' tk', Fr g L' h' (mpx (.ref x) (.bool q) (.str (Str.ofString "a") te) (some (.str ⟨#[c]⟩ tc))) → News g L' h' (led w.params ts x dx xi di pb fs t1 t2 t3 t4 tb buf (.str (Str.ofString "a") tst') (.str (tok ++ ⟨#[c]⟩) tt') (.int line tl) (.int pi tp) rest) → QF .next { s with heap := h', toks := tk' }) :
    wpAny (model prog w) ((ktrTop dp un gd cn cs L a ccd cl outer).deeper (rtEnv L')) (execs rtTail (rtEnv L')) QF (fun _ _ => False) s := by
  obtain ⟨hx, hi, hxi, hr1, hr2, hlen, hk, hd, hu, B, X, T⟩ := Y
  k_steps
  rename Fr _ _ _ _ => F9
  try simp only [mpx_nc, mpx_q, mpx_e] at F9
  exact ret _ _ _ _ F9 (by walk_at "NEWS")
end
end
section
set_option tactic.hygienic false
/-- the signs that a page is made of -/
inductive Cl | word | dot | sp | nl | hash | esc | quote
noncomputable def clOf (c : Nat) : Option Cl :=
  if c = 97 ∨ c = 98 ∨ c = 99 then some .word else if c = 46 then some .dot else if c = 32 ∨ c = 9 then some .sp else if c = 10 then some .nl else if c = 35 then some .hash else if c = 92 then some .esc else if c = 39 ∨ c = 34 then some .quote else none
inductive LS | sp | a | q (k : Nat) | e
noncomputable def isQ : Option Cl → Bool
  | some .quote => true
  | _ => false
theorem isQ_of : ∀ {x : Option Cl}, isQ x = true → x = some .quote
  | some .quote, _ => rfl
noncomputable def stp : LS → List Nat → List Nat → Option ((Option (List Nat) × List Nat) ⊕ (LS × List Nat × List Nat))
  | .sp, [], _ => some (.inl (none, []))
  | .sp, c :: r, _ => match clOf c with
    | some .sp | some .nl => some (.inr (.sp, r, []))
    | some .hash => some (.inr (.sp, r.drop (skipLine r), []))
    | some .word => some (.inr (.a, r, [c]))
    | some .quote => some (.inr (.q c, r, []))
    | _ => none
  | .a, c :: r, tok => match clOf c with
    | some .word | some .dot => some (.inr (.a, r, tok ++ [c]))
    | some .sp | some .nl => if tok = [] then none else some (.inl (some tok, r))
    | some .hash => if tok = [] then none else some (.inl (some tok, r.drop (skipLine r)))
    | some .esc => some (.inr (.e, r, tok))
    | _ => none
  | .q k, c :: r, tok => if isQ (clOf k) = true then (if c = k then some (.inr (.a, r, tok)) else match clOf c with
    | some .word | some .dot | some .sp => some (.inr (.q k, r, tok ++ [c]))
    | _ => none) else none
  | .e, c :: r, tok => match clOf c with
    | some .sp => some (.inr (.a, r, tok ++ [c]))
    | _ => none
  | _, [], _ => none
noncomputable def rt : Nat → LS → List Nat → List Nat → Option (Option (List Nat) × List Nat)
  | 0, _, _, _ => none
  | n + 1, s, i, tok => match stp s i tok with
    | some (.inl r) => some r
    | some (.inr (s', i', t')) => rt n s' i' t'
    | none => none
theorem rt_s (n : Nat) (s : LS) (i t : List Nat) : rt (n + 1) s i t = match stp s i t with
  | some (.inl r) => some r
  | some (.inr (s', i', t')) => rt n s' i' t'
  | none => none := rfl
theorem cl_word {c : Nat} (h : clOf c = some .word) : c = 97 ∨ c = 98 ∨ c = 99 := by
  unfold clOf at h; (repeat' split at h) <;> simp_all
theorem cl_dot {c : Nat} (h : clOf c = some .dot) : c = 46 := by
  unfold clOf at h; (repeat' split at h) <;> simp_all
theorem cl_sp {c : Nat} (h : clOf c = some .sp) : c = 32 ∨ c = 9 := by
  unfold clOf at h; (repeat' split at h) <;> simp_all
theorem cl_nl {c : Nat} (h : clOf c = some .nl) : c = 10 := by
  unfold clOf at h; (repeat' split at h) <;> simp_all
theorem cl_hash {c : Nat} (h : clOf c = some .hash) : c = 35 := by
  unfold clOf at h; (repeat' split at h) <;> simp_all
theorem cl_esc {c : Nat} (h : clOf c = some .esc) : c = 92 := by
  unfold clOf at h; (repeat' split at h) <;> simp_all
theorem cl_quote {c : Nat} (h : clOf c = some .quote) : c = 39 ∨ c = 34 := by
  unfold clOf at h; (repeat' split at h) <;> simp_all
noncomputable abbrev ch (c : Nat) : Str := ⟨#[c]⟩
structure Plain1 (c : Nat) : Prop where
  nl : (ch c == Str.ofString "\n") = false
  ws : isIn cWs (ch c) = false
  hash : isIn cHash (ch c) = false
  qs : isIn cQs (ch c) = false
  esc : isIn cEsc (ch c) = false
theorem word_facts {c : Nat} (h : clOf c = some .word) : Plain1 c ∧ isIn wcs (ch c) = true := by
  rcases cl_word h with rfl | rfl | rfl <;> exact ⟨⟨by decide +kernel, by decide +kernel, by decide +kernel, by decide +kernel, by decide +kernel⟩, by decide +kernel⟩
theorem dot_facts {c : Nat} (h : clOf c = some .dot) : Plain1 c ∧ isIn wcs (ch c) = false ∧ isIn (Str.ofString "") (ch c) = false := by
  obtain rfl := cl_dot h
  exact ⟨⟨by decide +kernel, by decide +kernel, by decide +kernel, by decide +kernel, by decide +kernel⟩, by decide +kernel, by decide +kernel⟩
theorem sp_facts {c : Nat} (h : clOf c = some .sp) : (ch c == Str.ofString "\n") = false ∧ isIn cWs (ch c) = true ∧ isIn cEsc (ch c) = false := by
  rcases cl_sp h with rfl | rfl <;> exact ⟨by decide +kernel, by decide +kernel, by decide +kernel⟩
theorem nl_facts : isIn cWs (ch 10) = true := by decide +kernel
theorem hash_facts : (ch 35 == Str.ofString "\n") = false ∧ isIn cWs (ch 35) = false ∧ isIn cHash (ch 35) = true := ⟨by decide +kernel, by decide +kernel, by decide +kernel⟩
theorem esc_facts : (ch 92 == Str.ofString "\n") = false ∧ isIn cWs (ch 92) = false ∧ isIn cHash (ch 92) = false ∧ isIn cQs (ch 92) = false ∧ isIn cEsc (ch 92) = true ∧ (ch 92 == Str.ofString " ") = false := ⟨by decide +kernel, by decide +kernel, by decide +kernel, by decide +kernel, by decide +kernel, by decide +kernel⟩
theorem quote_facts {c : Nat} (h : clOf c = some .quote) : (ch c == Str.ofString "\n") = false ∧ isIn cWs (ch c) = false ∧ isIn cHash (ch c) = false ∧ isIn cEsc (ch c) = false ∧ isIn wcs (ch c) = false ∧ isIn (Str.ofString "") (ch c) = false ∧ isIn cQs (ch c) = true ∧ (ch c == Str.ofString " ") = false := by
  rcases cl_quote h with rfl | rfl <;> exact ⟨by decide +kernel, by decide +kernel, by decide +kernel, by decide +kernel, by decide +kernel, by decide +kernel, by decide +kernel, by decide +kernel⟩
theorem ch_eq (c k : Nat) : (ch c == ch k) = decide (c = k) := by
  rw [Bool.eq_iff_iff, beq_iff_eq, decide_eq_true_eq]
  constructor
  · intro h
    have : (ch c).cps.toList = (ch k).cps.toList := by rw [h]
    simpa using this
  · rintro rfl; rfl
end
section
set_option tactic.hygienic false
section
variable {prog : Program} {w : World} {p : Program} {loose : List Str} {mean : ExcName → Option Value} {mg mb : Str → Option Value} {dp un : Nat} {gd : Option (List Code)} {cn : Str} {cs : Scope} {a : Addr} {ccd : Value} {cl : List (Str × Addr)} {outer : List Env} {A₀ : Around} {base h₀ : Heap} {L : Addr} {m : Str → Option Value} {news rest : List (Addr × Obj)} {s : Shared} {Q E : Value → Shared → Prop}
theorem while_true {M : Program} {W : World} {A : Around} {env : Env} {QF : Flow → Shared → Prop} {body : List Stmt} {k : Nat} {ps pp : Pos} (I : Nat → Shared → Prop)
    (turn : ∀ n s, I n s → wpAny (model M W) A (execs body env) (fun f s₃ => match f with | .next | .cont => ∃ m, m < n ∧ I m s₃ | .brk => QF .next s₃ | .ret v => QF (.ret v) s₃) (fun _ _ => False) s) (n : Nat) (h : I n s) :
    wpAny (model M W) A (exec (.While (.Constant (.bool true) k ps) body [] pp) env) QF E s := by
  refine wpAny_While (codeAny_whileLoop I (fun n s hI => ?_) n h)
  refine isTrue_plain (PyProof.Rows.Constant_bool (wpAny_truthy_bool ?_))
  simp only [if_true]
  refine wpAny_mono (turn n s hI) (fun f s₃ h₃ => ?_) fun _ _ x => x.elim
  cases f <;> exact h₃
noncomputable def LS.val : LS → Tok → Value
  | .sp, t => .str (Str.ofString " ") t
  | .a, t => .str (Str.ofString "a") t
  | .q k, t => .str ⟨#[k]⟩ t
  | .e, t => .str ⟨#[92]⟩ t
noncomputable def toS (l : List Nat) : Str := ⟨l.toArray⟩
theorem toS_snoc (l : List Nat) (c : Nat) : toS l ++ ⟨#[c]⟩ = toS (l ++ [c]) := by
  show Str.mk _ = Str.mk _
  congr 1
  apply Array.ext'
  simp [toS]
theorem toS_len (l : List Nat) : (toS l).length = l.length := by simp [toS, Str.length]
theorem emp_is : Str.ofString "" = toS [] := by decide +kernel
theorem drop_cons {l r : List Nat} {pos c : Nat} (h : l.drop pos = c :: r) : l[pos]? = some c ∧ r = l.drop (pos + 1) ∧ pos < l.length := by
  have hl : pos < l.length := by
    rcases Nat.lt_or_ge pos l.length with q | q
    · exact q
    · rw [List.drop_eq_nil_of_le q] at h; cases h
  rw [List.drop_eq_getElem_cons hl] at h
  obtain ⟨h1, h2⟩ := List.cons.inj h
  exact ⟨by rw [List.getElem?_eq_getElem hl, h1], h2.symm, hl⟩
section
variable {g : Heap} {L' x dx xi di pb fs : Nat} {ts : Nat → Tok} {t1 t2 t3 t4 tb : Tok} {buf : Str} {QF : Flow → Shared → Prop}
/-- what stands at the loop's head -/
inductive LI (w : World) (g : Heap) (L' x dx xi di pb fs : Nat) (ts : Nat → Tok) (t1 t2 t3 t4 tb : Tok) (buf : Str) (rest : List (Addr × Obj)) (s : Shared) (res : Option (List Nat) × List Nat) (n : Nat) : Shared → Prop
  | mk (st : LS) (tok : List Nat) (q : Bool) (esc : Str) (te : Tok) (nc : Option Value) (pos : Nat) (pi : Int) (tp tst tt : Tok) (line : Int) (tl : Tok) (h : Heap) (tk : Nat) (F : Fr g L' h (mpx (.ref x) (.bool q) (.str esc te) nc)) (N : News g L' h (led w.params ts x dx xi di pb fs t1 t2 t3 t4 tb buf (st.val tst) (.str (toS tok) tt) (.int line tl) (.int pi tp) rest))
    (hpi : pi = pos) (hpl : pos ≤ buf.length) (htp : tok.length ≤ pos) (hrt : rt n st (buf.cps.toList.drop pos) tok = some res) (hsp : st = .sp → q = false ∧ tok = []) (hes : st = .e → esc = Str.ofString "a") : LI w g L' x dx xi di pb fs ts t1 t2 t3 t4 tb buf rest s res n { s with heap := h, toks := tk }
/-- what the loop leaves -/
inductive LE (w : World) (g : Heap) (L' x dx xi di pb fs : Nat) (ts : Nat → Tok) (t1 t2 t3 t4 tb : Tok) (buf : Str) (rest : List (Addr × Obj)) (s : Shared) (res : Option (List Nat) × List Nat) : Shared → Prop
  | mk (q : Bool) (esc : Str) (te : Tok) (nc : Option Value) (pos : Nat) (pi : Int) (tp tst tt : Tok) (line : Int) (tl : Tok) (h : Heap) (tk : Nat) (F : Fr g L' h (mpx (.ref x) (.bool q) (.str esc te) nc)) (hpi : pi = pos) (hpl : pos ≤ buf.length) (hcs : buf.cps.toList.drop pos = res.2)
    (hm : match res.1 with
    | some t => t ≠ [] ∧ t.length ≤ 1000 ∧ News g L' h (led w.params ts x dx xi di pb fs t1 t2 t3 t4 tb buf (.str (Str.ofString " ") tst) (.str (toS t) tt) (.int line tl) (.int pi tp) rest)
    | none => q = false ∧ News g L' h (led w.params ts x dx xi di pb fs t1 t2 t3 t4 tb buf .none (.str (Str.ofString "") tt) (.int line tl) (.int pi tp) rest)) : LE w g L' x dx xi di pb fs ts t1 t2 t3 t4 tb buf rest s res { s with heap := h, toks := tk }
theorem rt_turn0 (Y : Tx w p loose mean mg mb dp un gd cn cs L a ccd cl outer base g x dx xi di rest buf) {res : Option (List Nat) × List Nat} (n : Nat) (s' : Shared)
    (hI : LI w g L' x dx xi di pb fs ts t1 t2 t3 t4 tb buf rest s res n s')
    (hgo : ∀ m s₃, m < n → LI w g L' x dx xi di pb fs ts t1 t2 t3 t4 tb buf rest s res m s₃ → QF .next s₃) (hco : ∀ m s₃, m < n → LI w g L' x dx xi di pb fs ts t1 t2 t3 t4 tb buf rest s res m s₃ → QF .cont s₃) (hbr : ∀ s₃, LE w g L' x dx xi di pb fs ts t1 t2 t3 t4 tb buf rest s res s₃ → QF .brk s₃) :
    wpAny (model prog w) ((ktrTop dp un gd cn cs L a ccd cl outer).deeper (rtEnv L')) (execs rtBody (rtEnv L')) QF (fun _ _ => False) s' := by
  obtain ⟨st, tok, q, esc, te, nc, pos, pi, tp, tst, tt, line, tl, h, tk, F, N, hpi, hpl, htp, hrt, hsp, hes⟩ := hI
  have hlen := Y.hlen
  have hbl : buf.cps.toList.length = buf.length := by simp [Str.length]
  rw [rtBody_is]
  refine execs_app _ _ ?_
  cases n with
  | zero => cases hrt
  | succ n =>
  cases hcs : buf.cps.toList.drop pos with
  | nil =>
    rw [hcs] at hrt
    cases st with
    | sp =>
      obtain ⟨rfl, rfl⟩ := hsp rfl
      have hr : res = (none, []) := by simpa [rt_s, stp] using hrt.symm
      subst hr
      have hpe : pi = (buf.length : Nat) := by
        have : buf.cps.toList.length ≤ pos := List.drop_eq_nil_iff.mp hcs
        first | k_extra "OM" | (first | lia | omega)
      refine pre_e Y hpe F N fun tc tp' h' tk' F' N' => ?_
      rw [← emp_is] at N'
      refine t_s_eof Y F' N' fun h'' tk'' F'' N'' => ?_
      exact hbr _ ⟨false, esc, te, _, pos, pi, tp', tst, tt, line, tl, h'', tk'', F'', hpi, hpl, hcs, rfl, N''⟩
    | a => simp [rt_s, stp] at hrt
    | q k => simp [rt_s, stp] at hrt
    | e => simp [rt_s, stp] at hrt
  | cons c r =>
    rw [hcs] at hrt
    obtain ⟨hc, hr, hlt⟩ := drop_cons hcs
    have hc' : buf.cps[pos]? = some c := by rw [← Array.getElem?_toList]; exact hc
    have ht1 : (toS tok).length ≤ 1000 := by rw [toS_len]; (first | lia | omega)
    have hp1 : pos + 1 ≤ buf.length := by (first | lia | omega)
    have hpi1 : ∀ pi' : Int, pi' = pi + 1 → pi' = ((pos + 1 : Nat) : Int) := fun pi' e => by (first | lia | omega)
    cases st with
    | sp =>
      obtain ⟨rfl, rfl⟩ := hsp rfl
      rw [rt_s] at hrt
      dsimp only [stp] at hrt
      cases hcl : clOf c with
      | none => rw [hcl] at hrt; cases hrt
      | some y =>
      rw [hcl] at hrt
      cases y with
      | sp =>
        obtain ⟨f1, f2, f3⟩ := sp_facts hcl
        refine pre_c Y hpi hc' f1 F N fun pi' hp' tc tp' h' tk' F' N' => ?_
        rw [← emp_is] at N'
        refine t_s_ws Y f2 F' N' fun h'' tk'' F'' N'' => ?_
        rw [emp_is] at N''
        exact hco n _ (Nat.lt_succ_self _) ⟨.sp, [], false, esc, te, _, pos + 1, pi', tp', tst, tt, line, tl, h'', tk'', F'', N'', hpi1 _ hp', hp1, Nat.zero_le _, by rw [← hr]; exact hrt, fun _ => ⟨rfl, rfl⟩, (fun e => nomatch e)⟩
      | nl =>
        obtain rfl := cl_nl hcl
        refine pre_n Y hpi hc' F N fun pi' hp' tc tp' line' tl' h' tk' F' N' => ?_
        rw [← emp_is] at N'
        refine t_s_ws Y nl_facts F' N' fun h'' tk'' F'' N'' => ?_
        rw [emp_is] at N''
        exact hco n _ (Nat.lt_succ_self _) ⟨.sp, [], false, esc, te, _, pos + 1, pi', tp', tst, tt, line', tl', h'', tk'', F'', N'', hpi1 _ hp', hp1, Nat.zero_le _, by rw [← hr]; exact hrt, fun _ => ⟨rfl, rfl⟩, (fun e => nomatch e)⟩
      | hash =>
        obtain rfl := cl_hash hcl
        obtain ⟨f1, f2, f3⟩ := hash_facts
        refine pre_c Y hpi hc' f1 F N fun pi' hp' tc tp' h' tk' F' N' => ?_
        rw [← emp_is] at N'
        refine t_s_hash Y (hpi1 _ hp') hp1 f2 f3 F' N' fun pi'' hp'' tp'' line'' tl'' h'' tk'' F'' N'' => ?_
        rw [emp_is] at N''
        have hsl := skipLine_le (buf.cps.toList.drop (pos + 1))
        rw [List.length_drop] at hsl
        exact hgo n _ (Nat.lt_succ_self _) ⟨.sp, [], false, esc, te, _, _, pi'', tp'', tst, tt, line'', tl'', h'', tk'', F'', N'', hp'', by (first | lia | omega), Nat.zero_le _, by rw [hr, List.drop_drop] at hrt; exact hrt, fun _ => ⟨rfl, rfl⟩, (fun e => nomatch e)⟩
      | word =>
        obtain ⟨f, f5⟩ := word_facts hcl
        refine pre_c Y hpi hc' f.nl F N fun pi' hp' tc tp' h' tk' F' N' => ?_
        rw [← emp_is] at N'
        refine t_s_word Y f.ws f.hash f.esc f5 F' N' fun tst' tt' h'' tk'' F'' N'' => ?_
        exact hgo n _ (Nat.lt_succ_self _) ⟨.a, [c], false, esc, te, _, pos + 1, pi', tp', tst', tt', line, tl, h'', tk'', F'', N'', hpi1 _ hp', hp1, by simp, by rw [← hr]; exact hrt, (fun e => nomatch e), (fun e => nomatch e)⟩
      | quote =>
        obtain ⟨f1, f2, f3, f4, f5, f6, f7, f8⟩ := quote_facts hcl
        refine pre_c Y hpi hc' f1 F N fun pi' hp' tc tp' h' tk' F' N' => ?_
        rw [← emp_is] at N'
        refine t_s_quote Y f2 f3 f4 f5 f6 f7 F' N' fun tst' h'' tk'' F'' N'' => ?_
        rw [emp_is] at N''
        exact hgo n _ (Nat.lt_succ_self _) ⟨.q c, [], false, esc, te, _, pos + 1, pi', tp', tst', tt, line, tl, h'', tk'', F'', N'', hpi1 _ hp', hp1, Nat.zero_le _, by rw [← hr]; exact hrt, (fun e => nomatch e), (fun e => nomatch e)⟩
      | dot => cases hrt
      | esc => cases hrt
    | a =>
      rw [rt_s] at hrt
      dsimp only [stp] at hrt
      cases hcl : clOf c with
      | none => rw [hcl] at hrt; cases hrt
      | some y =>
      rw [hcl] at hrt
      cases y with
      | word =>
        obtain ⟨f, f5⟩ := word_facts hcl
        refine pre_c Y hpi hc' f.nl F N fun pi' hp' tc tp' h' tk' F' N' => ?_
        refine t_a_word Y ht1 f.ws f.hash f.qs f.esc f5 F' N' fun tt' h'' tk'' F'' N'' => ?_
        rw [toS_snoc] at N''
        exact hgo n _ (Nat.lt_succ_self _) ⟨.a, tok ++ [c], q, esc, te, _, pos + 1, pi', tp', tst, tt', line, tl, h'', tk'', F'', N'', hpi1 _ hp', hp1, by simp; (first | lia | omega), by rw [← hr]; exact hrt, (fun e => nomatch e), (fun e => nomatch e)⟩
      | dot =>
        obtain ⟨f, f5, f6⟩ := dot_facts hcl
        refine pre_c Y hpi hc' f.nl F N fun pi' hp' tc tp' h' tk' F' N' => ?_
        refine t_a_dot Y ht1 f.ws f.hash f.qs f.esc f5 f6 F' N' fun tt' h'' tk'' F'' N'' => ?_
        rw [toS_snoc] at N''
        exact hgo n _ (Nat.lt_succ_self _) ⟨.a, tok ++ [c], q, esc, te, _, pos + 1, pi', tp', tst, tt', line, tl, h'', tk'', F'', N'', hpi1 _ hp', hp1, by simp; (first | lia | omega), by rw [← hr]; exact hrt, (fun e => nomatch e), (fun e => nomatch e)⟩
      | sp =>
        dsimp only at hrt
        by_cases hne : tok = []
        · rw [if_pos hne] at hrt; cases hrt
        · rw [if_neg hne] at hrt
          cases hrt
          have hn : 0 < (toS tok).length := by rw [toS_len]; exact List.length_pos_iff.mpr hne
          obtain ⟨f1, f2, f3⟩ := sp_facts hcl
          refine pre_c Y hpi hc' f1 F N fun pi' hp' tc tp' h' tk' F' N' => ?_
          refine t_a_ws Y ht1 hn f2 F' N' fun tst' h'' tk'' F'' N'' => ?_
          exact hbr _ ⟨q, esc, te, _, pos + 1, pi', tp', tst', tt, line, tl, h'', tk'', F'', hpi1 _ hp', hp1, hr.symm, hne, by (first | lia | omega), N''⟩
      | nl =>
        dsimp only at hrt
        by_cases hne : tok = []
        · rw [if_pos hne] at hrt; cases hrt
        · rw [if_neg hne] at hrt
          cases hrt
          obtain rfl := cl_nl hcl
          have hn : 0 < (toS tok).length := by rw [toS_len]; exact List.length_pos_iff.mpr hne
          refine pre_n Y hpi hc' F N fun pi' hp' tc tp' line' tl' h' tk' F' N' => ?_
          refine t_a_ws Y ht1 hn nl_facts F' N' fun tst' h'' tk'' F'' N'' => ?_
          exact hbr _ ⟨q, esc, te, _, pos + 1, pi', tp', tst', tt, line', tl', h'', tk'', F'', hpi1 _ hp', hp1, hr.symm, hne, by (first | lia | omega), N''⟩
      | hash =>
        dsimp only at hrt
        by_cases hne : tok = []
        · rw [if_pos hne] at hrt; cases hrt
        · rw [if_neg hne] at hrt
          cases hrt
          obtain rfl := cl_hash hcl
          obtain ⟨f1, f2, f3⟩ := hash_facts
          have hn : 0 < (toS tok).length := by rw [toS_len]; exact List.length_pos_iff.mpr hne
          refine pre_c Y hpi hc' f1 F N fun pi' hp' tc tp' h' tk' F' N' => ?_
          refine t_a_hash Y ht1 hn (hpi1 _ hp') hp1 f2 f3 F' N' fun pi'' hp'' tst'' tp'' line'' tl'' h'' tk'' F'' N'' => ?_
          have hsl := skipLine_le (buf.cps.toList.drop (pos + 1))
          rw [List.length_drop] at hsl
          exact hbr _ ⟨q, esc, te, _, _, pi'', tp'', tst'', tt, line'', tl'', h'', tk'', F'', hp'', by (first | lia | omega), by rw [hr, List.drop_drop], hne, by (first | lia | omega), N''⟩
      | esc =>
        obtain rfl := cl_esc hcl
        obtain ⟨f1, f2, f3, f4, f5, f6⟩ := esc_facts
        refine pre_c Y hpi hc' f1 F N fun pi' hp' tc tp' h' tk' F' N' => ?_
        refine t_a_esc Y f2 f3 f4 f5 F' N' fun tst' te' h'' tk'' F'' N'' => ?_
        exact hgo n _ (Nat.lt_succ_self _) ⟨.e, tok, q, _, te', _, pos + 1, pi', tp', tst', tt, line, tl, h'', tk'', F'', N'', hpi1 _ hp', hp1, by (first | lia | omega), by rw [← hr]; exact hrt, (fun e => nomatch e), fun _ => rfl⟩
      | quote => cases hrt
    | q k =>
      rw [rt_s] at hrt
      dsimp only [stp] at hrt
      by_cases hk : isQ (clOf k) = true
      · rw [if_pos hk] at hrt
        obtain ⟨k1, k2, k3, k4, k5, k6, k7, k8⟩ := quote_facts (isQ_of hk)
        by_cases hck : c = k
        · rw [if_pos hck] at hrt
          subst hck
          refine pre_c Y hpi hc' k1 F N fun pi' hp' tc tp' h' tk' F' N' => ?_
          refine t_q_out Y k8 k7 (by rw [ch_eq, decide_eq_true rfl]) F' N' fun tst' h'' tk'' F'' N'' => ?_
          exact hgo n _ (Nat.lt_succ_self _) ⟨.a, tok, true, esc, te, _, pos + 1, pi', tp', tst', tt, line, tl, h'', tk'', F'', N'', hpi1 _ hp', hp1, by (first | lia | omega), by rw [← hr]; exact hrt, (fun e => nomatch e), (fun e => nomatch e)⟩
        · rw [if_neg hck] at hrt
          have go : ∀ (fnl : (ch c == Str.ofString "\n") = false) (fe : isIn cEsc (ch c) = false), rt n (.q k) r (tok ++ [c]) = some res → wpAny (model prog w) ((ktrTop dp un gd cn cs L a ccd cl outer).deeper (rtEnv L')) (execs rtPre (rtEnv L'))
              (fun f s' => match f with
                | .next => wpAny (model prog w) ((ktrTop dp un gd cn cs L a ccd cl outer).deeper (rtEnv L')) (execs rtTail (rtEnv L')) QF (fun _ _ => False) s'
                | f => QF f s') (fun _ _ => False) { s with heap := h, toks := tk } := by
            intro fnl fe hq
            refine pre_c Y hpi hc' fnl F N fun pi' hp' tc tp' h' tk' F' N' => ?_
            refine t_q_in Y ht1 k8 k7 (by rw [ch_eq, decide_eq_false hck]) fe F' N' fun tt' h'' tk'' F'' N'' => ?_
            rw [toS_snoc] at N''
            exact hgo n _ (Nat.lt_succ_self _) ⟨.q k, tok ++ [c], true, esc, te, _, pos + 1, pi', tp', tst, tt', line, tl, h'', tk'', F'', N'', hpi1 _ hp', hp1, by simp; (first | lia | omega), by rw [← hr]; exact hq, (fun e => nomatch e), (fun e => nomatch e)⟩
          cases hcl : clOf c with
          | none => rw [hcl] at hrt; cases hrt
          | some y =>
          rw [hcl] at hrt
          cases y with
          | word =>
            obtain ⟨f, f5⟩ := word_facts hcl
            exact go f.nl f.esc hrt
          | dot =>
            obtain ⟨f, f5, f6⟩ := dot_facts hcl
            exact go f.nl f.esc hrt
          | sp =>
            obtain ⟨f1, f2, f3⟩ := sp_facts hcl
            exact go f1 f3 hrt
          | nl => cases hrt
          | hash => cases hrt
          | esc => cases hrt
          | quote => cases hrt
      · rw [if_neg hk] at hrt
        cases hrt
    | e =>
      obtain rfl := hes rfl
      rw [rt_s] at hrt
      dsimp only [stp] at hrt
      cases hcl : clOf c with
      | none => rw [hcl] at hrt; cases hrt
      | some y =>
      rw [hcl] at hrt
      cases y with
      | sp =>
        obtain ⟨f1, f2, f3⟩ := sp_facts hcl
        obtain ⟨e1, e2, e3, e4, e5, e6⟩ := esc_facts
        refine pre_c Y hpi hc' f1 F N fun pi' hp' tc tp' h' tk' F' N' => ?_
        refine t_e Y ht1 e6 e4 e5 F' N' fun tst' tt' h'' tk'' F'' N'' => ?_
        rw [toS_snoc] at N''
        exact hgo n _ (Nat.lt_succ_self _) ⟨.a, tok ++ [c], q, _, te, _, pos + 1, pi', tp', tst', tt', line, tl, h'', tk'', F'', N'', hpi1 _ hp', hp1, by simp; (first | lia | omega), by rw [← hr]; exact hrt, (fun e => nomatch e), (fun e => nomatch e)⟩
      | word => cases hrt
      | dot => cases hrt
      | nl => cases hrt
      | hash => cases hrt
      | esc => cases hrt
      | quote => cases hrt
theorem rt_turn (Y : Tx w p loose mean mg mb dp un gd cn cs L a ccd cl outer base g x dx xi di rest buf) {res : Option (List Nat) × List Nat} (n : Nat) (s' : Shared)
    (hI : LI w g L' x dx xi di pb fs ts t1 t2 t3 t4 tb buf rest s res n s') :
    wpAny (model prog w) ((ktrTop dp un gd cn cs L a ccd cl outer).deeper (rtEnv L')) (execs rtBody (rtEnv L'))
      (fun f s₃ => match f with | .next | .cont => ∃ m, m < n ∧ LI w g L' x dx xi di pb fs ts t1 t2 t3 t4 tb buf rest s res m s₃ | .brk => LE w g L' x dx xi di pb fs ts t1 t2 t3 t4 tb buf rest s res s₃ | .ret v => False) (fun _ _ => False) s' :=
  rt_turn0 Y n s' hI (fun m _ h1 h2 => ⟨m, h1, h2⟩) (fun m _ h1 h2 => ⟨m, h1, h2⟩) (fun _ h => h)
end
end
end
section
set_option tactic.hygienic false
section
variable {prog : Program} {w : World} {p : Program} {loose : List Str} {mean : ExcName → Option Value} {mg mb : Str → Option Value} {dp un : Nat} {gd : Option (List Code)} {cn : Str} {cs : Scope} {a : Addr} {ccd : Value} {cl : List (Str × Addr)} {outer : List Env} {A₀ : Around} {base h₀ : Heap} {L : Addr} {m : Str → Option Value} {news rest : List (Addr × Obj)} {s : Shared} {Q E : Value → Shared → Prop}
theorem wd_KC6_8 : True := by
  k_with "truthy str" => first | refine truthy_one ?_ | (refine truthy_full (by assumption) (by assumption) ?_)
  trivial
section
variable {g : Heap} {L' x dx xi di pb fs : Nat} {ts : Nat → Tok} {t1 t2 t3 t4 tb : Tok} {buf : Str} {QF : Flow → Shared → Prop}
noncomputable def LEnd (w : World) (g : Heap) (L' x dx xi di pb fs : Nat) (ts : Nat → Tok) (t1 t2 t3 t4 tb : Tok) (buf : Str) (rest : List (Addr × Obj)) (s : Shared) (res : Option (List Nat) × List Nat) (QF : Flow → Shared → Prop) : Prop :=
  ∀ s', LE w g L' x dx xi di pb fs ts t1 t2 t3 t4 tb buf rest s res s' → QF .next s'
theorem rt_while {n : Nat} {res : Option (List Nat) × List Nat} {esc : Str} {te tp tst tt tl : Tok} {nc : Option Value} {pos k : Nat} {pi line : Int} {ps pp : Pos} (Y : Tx w p loose mean mg mb dp un gd cn cs L a ccd cl outer base g x dx xi di rest buf) (hpi : pi = pos) (hpl : pos ≤ buf.length) (hrt : rt n .sp (buf.cps.toList.drop pos) [] = some res)
    (F : Fr g L' s.heap (mpx (.ref x) (.bool false) (.str esc te) nc)) (N : News g L' s.heap (led w.params ts x dx xi di pb fs t1 t2 t3 t4 tb buf (.str (Str.ofString " ") tst) (.str (Str.ofString "") tt) (.int line tl) (.int pi tp) rest))
    (hend : LEnd w g L' x dx xi di pb fs ts t1 t2 t3 t4 tb buf rest s res QF) :
    wpAny (model prog w) ((ktrTop dp un gd cn cs L a ccd cl outer).deeper (rtEnv L')) (exec (.While (.Constant (.bool true) k ps) rtBody [] pp) (rtEnv L')) QF E s := by
  refine while_true (LI w g L' x dx xi di pb fs ts t1 t2 t3 t4 tb buf rest s res) (fun n s' hI => wpAny_mono (rt_turn Y n s' hI) (fun f s₃ h => ?_) fun _ _ x => x) n ?_
  · cases f with
    | next => exact h
    | cont => exact h
    | brk => exact hend _ h
    | ret v => exact h.elim
  · rw [emp_is] at N
    exact ⟨.sp, [], false, esc, te, nc, pos, pi, tp, tst, tt, line, tl, s.heap, s.toks, F, N, hpi, hpl, Nat.zero_le _, hrt, fun _ => ⟨rfl, rfl⟩, (fun e => nomatch e)⟩
theorem mpx_start (v q e : Value) (y : Str) : (if y = Str.ofString "escapedstate" then some e else if y = Str.ofString "quoted" then some q else List.lookup y [(Str.ofString "self", v)]) = mpx v q e none y := by
  unfold mpx
  by_cases h1 : y = Str.ofString "self"
  · subst h1; rfl
  · by_cases h2 : y = Str.ofString "quoted"
    · subst h2; rfl
    · by_cases h3 : y = Str.ofString "escapedstate"
      · subst h3; rfl
      · have : (y == Str.ofString "self") = false := beq_eq_false_iff_ne.mpr h1
        simp only [if_neg h1, if_neg h2, if_neg h3, List.lookup, this]
        simp
theorem wd_KC6_9 : True := by
  k_with "exec While" => (rename Fr _ _ _ _ => zF8; have zF7 := Fr.cast zF8 (mpx_start _ _ _); clear zF8; k_dflt (refine rt_while (by assumption) (by assumption) (by assumption) (by assumption) zF7 (by assumption) ?_))
  trivial
theorem rt_call {n : Nat} {res : Option (List Nat) × List Nat} {tp tst tt tl : Tok} {pos : Nat} {pi line : Int} (hx : dx < x) (hi : di < xi) (hxi : x < di ∨ xi < dx) (hr1 : ∀ p ∈ rest, p.1 ≠ dx) (hr2 : ∀ p ∈ rest, p.1 ≠ di) (hlen : buf.length ≤ 1000)
    (hpi : pi = pos) (hpl : pos ≤ buf.length) (hrt : rt n .sp (buf.cps.toList.drop pos) [] = some res)
    (C : Cx 7 w p loose mean mg mb dp un cs outer A₀ base h₀ L m s.heap (led w.params ts x dx xi di pb fs t1 t2 t3 t4 tb buf (.str (Str.ofString " ") tst) (.str (Str.ofString "") tt) (.int line tl) (.int pi tp) rest))
    (htok : ∀ t, res.1 = some t → t ≠ [] → t.length ≤ 1000 → ∀ pos' pi' v tp' tst' tt' line' tl' h' tk', pi' = ((pos' : Nat) : Int) → pos' ≤ buf.length → buf.cps.toList.drop pos' = res.2 → Fr h₀ L h' m →
      News h₀ L h' (led w.params ts x dx xi di pb fs t1 t2 t3 t4 tb buf (.str (Str.ofString " ") tst') (.str (Str.ofString "") tt') (.int line' tl') (.int pi' tp') rest) → Q (.str (toS t) v) { s with heap := h', toks := tk' })
    (heof : res.1 = none → ∀ pi' tp' tt' line' tl' h' tk', Fr h₀ L h' m →
      News h₀ L h' (led w.params ts x dx xi di pb fs t1 t2 t3 t4 tb buf .none (.str (Str.ofString "") tt') (.int line' tl') (.int pi' tp') rest) → Q .none { s with heap := h', toks := tk' }) :
    wpAny (model prog w) (ktrTop dp un gd cn cs L a ccd cl outer) (call (.ref 752) [.ref x]) Q E s := by
  obtain ⟨B, F, X, N, T, hk, hd, hu⟩ := C
  walk_at "ENTER"
  rename Fr _ _ _ _ => F1
  have F2 : Fr _ _ _ (fun y => ([(Str.ofString "self", Value.ref x)] : List (Str × Value)).lookup y) := F1
  clear F1
  rename Below _ _ _ _ => B1
  rename Frag.In _ _ => X1
  rename Top _ _ _ _ _ _ => T1
  have Y : Tx w p loose mean mg mb dp un gd cn cs L a ccd cl outer base _ x dx xi di rest buf := ⟨hx, hi, hxi, hr1, hr2, hlen, hk, by (first | lia | omega), by (first | lia | omega), B1, X1, T1⟩
  k_steps
  unfold LEnd
  rintro s' ⟨q, esc, te, nc, pos', pi', tp', tst', tt', line', tl', h', tk', F3, e1, e2, e3, hm⟩
  obtain ⟨r1, r2⟩ := res
  cases r1 with
  | none =>
    obtain ⟨rfl, N3⟩ := hm
    (try dsimp only)
    k_steps
    exact heof rfl _ _ _ _ _ _ _ (by assumption) (by assumption)
  | some t =>
    obtain ⟨hne, ht, N3⟩ := hm
    have hse : (toS t == Str.ofString "") = false := by
      rw [beq_eq_false_iff_ne]
      intro e
      rw [emp_is] at e
      have : (toS t).cps.toList = (toS []).cps.toList := by rw [e]
      exact hne (by simpa [toS] using this)
    (try dsimp only)
    k_steps
    all_goals exact htok _ rfl hne ht _ _ _ _ _ _ _ _ _ _ e1 e2 e3 (by assumption) (by assumption)
end
end
end
section
open PySem PySem.W PySem.Calls PyProof.Rows PySem.Builtin
set_option maxRecDepth 1000000
set_option maxHeartbeats 4000000
set_option tactic.hygienic false
noncomputable abbrev DQ : String := "collections.deque"
noncomputable abbrev dequeObj : Obj := { cls := .type "collections.deque", data := .fields #[.none, rawInt 0] }
theorem mro_dq : mroOf (.type DQ) = pure [.type DQ, .type "object"] := by rw [mroOf_type]; kernel_rfl
theorem lookup_dq_new : typeLookup (.type DQ) "__new__" = pure (some (.builtin "collections.deque.__new__")) := by rw [typeLookup_type, builtinLookup_eq_fast]; kernel_rfl
theorem slot_dq_init : Slot DQ "__init__" "collections.deque.__init__" :=
  .of (owner := DQ) (n := "__init__") (by rw [typeLookup_type, builtinLookup_eq_fast]; kernel_rfl) (by decide +kernel) (by decide +kernel) (by decide +kernel)
    (by first | exact .inl (by decide +kernel) | exact .inr (by decide +kernel)) (by rw [isSubtype_type]; kernel_rfl)
theorem slot_dq_len : Slot DQ "__len__" "collections.deque.__len__" :=
  .of (owner := DQ) (n := "__len__") (by rw [typeLookup_type, builtinLookup_eq_fast]; kernel_rfl) (by decide +kernel) (by decide +kernel) (by decide +kernel)
    (by first | exact .inl (by decide +kernel) | exact .inr (by decide +kernel)) (by rw [isSubtype_type]; kernel_rfl)
theorem entry_dq_len : entryFor table "collections.deque.__len__" = some Builtin.«collections.deque.__len__» := entryFor_of_tree (by kernel_rfl)
theorem args_dq_len (a : Value) : argsOk "collections.deque.__len__" ⟨[a], []⟩ := by unfold argsOk; kernel_rfl
theorem noBool_dq : typeLookup (.type DQ) "__bool__" = pure none := by rw [typeLookup_type, builtinLookup_eq_fast]; kernel_rfl
theorem entry_dq_new : entryFor table "collections.deque.__new__" = some Builtin.«collections.deque.__new__» := entryFor_of_tree (by kernel_rfl)
theorem entry_dq_init : entryFor table "collections.deque.__init__" = some Builtin.«collections.deque.__init__» := entryFor_of_tree (by kernel_rfl)
theorem called_dq : TypeCalled DQ "collections.deque.__new__" "collections.deque.__init__" :=
  ⟨by decide +kernel, by decide +kernel, ⟨_, _, mro_dq⟩, madeBy_type mro_dq lookup_dq_new (by decide +kernel), by decide +kernel, by rw [isSubtype_type]; kernel_rfl, slot_dq_init⟩
theorem typeCall_dq : checkTypeCall DQ ⟨[], []⟩ = pure () := by kernel_rfl
theorem newCall_dq : checkBuiltinCall "collections.deque.__new__" ⟨[.type DQ], []⟩ = pure () := by kernel_rfl
theorem args_dq_init (a : Value) : argsOk "collections.deque.__init__" ⟨[a], []⟩ := by unfold argsOk; kernel_rfl
theorem dq_new_is : Builtin.«collections.deque.__new__» ⟨[.type DQ], []⟩ = (do ret (.ref (← alloc dequeObj))) := by kernel_rfl
theorem dq_init_is (a : Addr) : Builtin.«collections.deque.__init__» ⟨[.ref a], []⟩ = (do setField (.ref a) 0 .none; Deque.clear (.ref a); ret .none) := by kernel_rfl
theorem dq_len_is (a : Addr) : Builtin.«collections.deque.__len__» ⟨[.ref a], []⟩ = (do retInt (← Deque.size (.ref a))) := by kernel_rfl
theorem dq_set0 : Obj.mapFields (·.setIfInBounds 0 Value.none) dequeObj = dequeObj := by rfl
section
variable {prog : Program} {w : World} {A : Around} {E : Value → Shared → Prop} {s : Shared}
theorem call_deque {Q : Value → Shared → Prop} (h : ∀ h', (∀ b o, s.heap.get? b = some o → h'.get? b = some o) → h'.get? s.heap.objs.size = some dequeObj → h'.objs.size = s.heap.objs.size + 1 → Q (.ref s.heap.objs.size) { s with heap := h' }) :
    wpAny (model prog w) A (call (.type DQ) []) Q E s := by
  refine callType_meets called_dq typeCall_dq newCall_dq entry_dq_new entry_dq_init (S := fun _ R s => R (.ok (.ret (.ref s.heap.objs.size))) { s with heap := s.heap.push dequeObj })
    (Q₁ := fun v s₁ => v = .ref s.heap.objs.size ∧ s₁ = { s with heap := s.heap.push dequeObj }) (Meets.of_wp fun prog w A R s hs => ?_) ⟨rfl, rfl⟩ fun obj s₁ hq => ?_
  · rw [dq_new_is]
    exact wpAny_bind (wpAny_alloc (wpAny_pure ⟨_, rfl, hs⟩))
  · obtain ⟨rfl, rfl⟩ := hq
    have hg : (s.heap.push dequeObj).get? s.heap.objs.size = some dequeObj := Heap.get?_push_size _ rfl
    refine ⟨⟨_, hg, rfl⟩, args_dq_init _, fun _ R s' => s' = { s with heap := s.heap.push dequeObj } ∧ R (.ok (.ret .none)) { s with heap := (s.heap.push dequeObj).update s.heap.objs.size (Obj.mapFields (·.setIfInBounds 0 .none)) }, Meets.of_wp fun prog w A R s' hs => ?_, rfl, rfl, ?_⟩
    · obtain ⟨rfl, hs⟩ := hs
      rw [dq_init_is]
      refine wpAny_bind (wpAny_setField hg rfl (by decide) (wpAny_bind ?_))
      have hg2 : ((s.heap.push dequeObj).update s.heap.objs.size (Obj.mapFields (·.setIfInBounds 0 .none))).get? s.heap.objs.size = some dequeObj := by
        rw [Heap.get?_update_self _ hg (by rw [dq_set0]; rfl), dq_set0]
      unfold Deque.clear Deque.items
      refine wpAny_bind (wpAny_bind (wpAny_fieldsOf hg2 rfl (wpAny_pure ?_)))
      exact wpAny_pure (wpAny_pure ⟨_, rfl, hs⟩)
    · refine h _ (fun b o e => ?_) ?_ ?_
      · have hb : b ≠ s.heap.objs.size := Nat.ne_of_lt (Heap.lt_size e)
        rw [Heap.get?_update_ne _ _ _ _ hb]
        exact Heap.get?_push_of_some _ e
      · rw [Heap.get?_update_self _ hg (by rw [dq_set0]; rfl), dq_set0]
      · have := (Heap.SameBut.update (s.heap.push dequeObj) s.heap.objs.size (Obj.mapFields (·.setIfInBounds 0 .none))).1
        rw [this, Heap.size_push]
theorem deque_K {Q : Value → Shared → Prop} {h₀ : Heap} {L : Addr} {m : Str → Option Value} {news : List (Addr × Obj)} (F : Fr h₀ L s.heap m) (N : News h₀ L s.heap news)
    (h : ∀ d h', Fr h₀ L h' m → News h₀ L h' ((d, dequeObj) :: news) → (∀ p ∈ news, p.1 < d) → Q (.ref d) { s with heap := h' }) : wpAny (model prog w) A (call (.type DQ) []) Q E s := by
  refine call_deque fun h' hk hd hs => h _ h' ?_ ?_ fun p hp => Heap.lt_size (N p hp).1
  · obtain ⟨oL, a1, a2, hL, a3⟩ := F.ns
    exact ⟨⟨oL, a1, a2, hk _ _ hL, a3⟩, fun b o e => hk _ _ (F.keep b o e), F.above⟩
  · intro p hp
    rcases List.mem_cons.mp hp with rfl | hp
    · obtain ⟨oL, _, _, hL, _⟩ := F.ns
      refine ⟨hd, Nat.ne_of_gt (Heap.lt_size hL), ?_⟩
      cases hq : h₀.get? s.heap.objs.size with
      | none => rfl
      | some o' => exact absurd (Heap.lt_size (F.keep _ _ hq)) (Nat.lt_irrefl _)
    · exact ⟨hk _ _ (N p hp).1, (N p hp).2.1, (N p hp).2.2⟩
theorem truthy_deque {l : Addr} {Q : Bool → Shared → Prop} (hl : s.heap.get? l = some dequeObj) (h : Q false { s with toks := s.toks + 1 + 1 }) : wpAny (model prog w) A (truthy (.ref l)) Q E s := by
  have hT : s.TypeIs (.ref l) DQ := ⟨_, hl, rfl⟩
  have body : wpAny (model prog w) A.in1 (Builtin.«len» ⟨[.ref l], []⟩) (fun fin s' => ∃ r, fin = .done (.ret r) ∧ r = .int 0 (s.toks + 1) ∧ Q false s') E s := by
    unfold Builtin.«len»
    refine wpAny_bind (m := oneArg "len" _) (wpAny_pure ?_)
    refine wpAny_bind (m := callSpecial? (.ref l) (Str.ofString "__len__")) (wpAny_callSpecial?_slot (name := Str.ofString "__len__") hT slot_dq_len
      (wpAny_call_entry slot_dq_len hT entry_dq_len ?_ (args_dq_len _)))
    rw [dq_len_is]
    unfold Deque.size
    refine wpAny_bind (wpAny_bind (wpAny_fieldsOf hl rfl (wpAny_pure ?_)))
    refine wpAny_bind (wpAny_mkInt (wpAny_pure ⟨_, rfl, ?_⟩))
    refine wpAny_bind (wpAny_holding (wpAny_pure ?_))
    refine wpAny_bind (wpAny_letGo ?_)
    show wpAny _ _ (if ((0 : Nat) : Int) < 0 then _ else _) _ _ _
    rw [if_neg (by (first | lia | omega))]
    show wpAny _ _ (if ((0 : Nat) : Int) ≥ 2 ^ 63 then _ else _) _ _ _
    rw [if_neg (by (first | lia | omega))]
    exact wpAny_bind (wpAny_mkInt (wpAny_pure ⟨_, rfl, rfl, h⟩))
  have key : wpAny (model prog w) A (runValue (.builtin "len" ⟨[.ref l], []⟩)) (fun r s' => r = .int 0 (s.toks + 1) ∧ Q false s') E s := by
    refine wpAny_runValue (codeAny_builtin entry_len ?_)
    rw [Around.under_plainId plain_len _]
    exact wpAny_mono body (fun fin s' h' => by obtain ⟨r, rfl, hq⟩ := h'; exact hq) fun _ _ e => e
  unfold truthy
  first
    | refine wpAny_bind (wpAny_callSpecial?_none (name := Str.ofString "__bool__") hT noBool_dq ?_)
    | refine wpAny_bind (wpAny_pure (wpAny_bind (wpAny_callSpecial?_none (name := Str.ofString "__bool__") hT noBool_dq ?_)))
  first
    | refine wpAny_bind (wpAny_specialOf (name := Str.ofString "__len__") hT slot_dq_len.lookup ?_)
    | refine wpAny_bind (wpAny_pure (wpAny_bind (wpAny_specialOf (name := Str.ofString "__len__") hT slot_dq_len.lookup ?_)))
  first
    | exact wpAny_bind (wpAny_mono key (fun r s' h' => by obtain ⟨rfl, hq⟩ := h'; exact wpAny_pure hq) fun _ _ e => e)
    | exact wpAny_bind (wpAny_pure (wpAny_bind (wpAny_mono key (fun r s' h' => by obtain ⟨rfl, hq⟩ := h'; exact wpAny_pure hq) fun _ _ e => e)))
end
end
section
set_option tactic.hygienic false
section
variable {prog : Program} {w : World} {p : Program} {loose : List Str} {mean : ExcName → Option Value} {mg mb : Str → Option Value} {dp un : Nat} {gd : Option (List Code)} {cn : Str} {cs : Scope} {a : Addr} {ccd : Value} {cl : List (Str × Addr)} {outer : List Env} {A₀ : Around} {base h₀ : Heap} {L : Addr} {m : Str → Option Value} {news rest : List (Addr × Obj)} {s : Shared} {Q E : Value → Shared → Prop}
theorem wd_KD2_10 : True := by
  k_with "truthy str" => first | refine truthy_one ?_ | (refine truthy_full (by assumption) (by assumption) ?_)
  trivial
theorem truthy_dqK {Q : Bool → Shared → Prop} {A : Around} {l : Addr} (N : News h₀ L s.heap news) (hm : (l, dequeObj) ∈ news) (h : Q false { s with toks := s.toks + 1 + 1 }) : wpAny (model prog w) A (truthy (.ref l)) Q E s := truthy_deque (N _ hm).1 h
theorem wd_KD2_11 : True := by
  k_with "truthy ref" => (k_here; (with_reducible show wpAny _ _ (truthy (Value.ref _)) _ _ _); k_dflt (refine truthy_dqK (by assumption) (by k_mem) ?_))
  k_with "compareOp Eq none none" => (refine eq_nn ?_)
  trivial
section
variable {x dx xi di pb fs : Nat} {ts : Nat → Tok} {t1 t2 t3 t4 tb : Tok} {buf : Str}
theorem wd_KD2_12 : True := by
  k_with "call ref" => (k_here; k_dflt (refine' rt_call ?hx ?hi ?hxi ?hr1 ?hr2 ?hlen ?hpi ?hpl ?hrt ?C ?htok ?heof; (case C => walk_at "CX"); (case hx => assumption); (case hi => assumption); (case hxi => assumption); (case hr1 => assumption); (case hr2 => assumption); (case hlen => assumption); (case hpi => assumption); (case hpl => assumption); (case hrt => assumption)); (all_goals intros))
  trivial
theorem get_call {n : Nat} {res : Option (List Nat) × List Nat} {tp tst tt tl : Tok} {pos : Nat} {pi line : Int} (hx : dx < x) (hi : di < xi) (hxi : x < di ∨ xi < dx) (hr1 : ∀ p ∈ ((pb, dequeObj) :: (fs, dequeObj) :: rest : List (Addr × Obj)), p.1 ≠ dx) (hr2 : ∀ p ∈ ((pb, dequeObj) :: (fs, dequeObj) :: rest : List (Addr × Obj)), p.1 ≠ di) (hlen : buf.length ≤ 1000)
    (hpi : pi = pos) (hpl : pos ≤ buf.length) (hrt : rt n .sp (buf.cps.toList.drop pos) [] = some res)
    (C : Cx 8 w p loose mean mg mb dp un cs outer A₀ base h₀ L m s.heap (led w.params ts x dx xi di pb fs t1 t2 t3 t4 tb buf (.str (Str.ofString " ") tst) (.str (Str.ofString "") tt) (.int line tl) (.int pi tp) ((pb, dequeObj) :: (fs, dequeObj) :: rest)))
    (htok : ∀ t, res.1 = some t → t ≠ [] → t.length ≤ 1000 → ∀ pos' pi' v tp' tst' tt' line' tl' h' tk', pi' = ((pos' : Nat) : Int) → pos' ≤ buf.length → buf.cps.toList.drop pos' = res.2 → Fr h₀ L h' m →
      News h₀ L h' (led w.params ts x dx xi di pb fs t1 t2 t3 t4 tb buf (.str (Str.ofString " ") tst') (.str (Str.ofString "") tt') (.int line' tl') (.int pi' tp') ((pb, dequeObj) :: (fs, dequeObj) :: rest)) → Q (.str (toS t) v) { s with heap := h', toks := tk' })
    (heof : res.1 = none → ∀ pi' tp' tt' line' tl' h' tk', Fr h₀ L h' m →
      News h₀ L h' (led w.params ts x dx xi di pb fs t1 t2 t3 t4 tb buf .none (.str (Str.ofString "") tt') (.int line' tl') (.int pi' tp') ((pb, dequeObj) :: (fs, dequeObj) :: rest)) → Q .none { s with heap := h', toks := tk' }) :
    wpAny (model prog w) (ktrTop dp un gd cn cs L a ccd cl outer) (call (.ref 745) [.ref x]) Q E s := by
  obtain ⟨B, F, X, N, T, hk, hd, hu⟩ := C
  walk_at "ENTER"
  k_steps
  · exact htok _ (by assumption) (by assumption) (by assumption) _ _ _ _ _ _ _ _ _ _ (by assumption) (by assumption) (by assumption) (by assumption) (by assumption)
  · exact heof (by assumption) _ _ _ _ _ _ _ (by assumption) (by assumption)
end
end
end
section
set_option tactic.hygienic false
section
variable {prog : Program} {w : World} {p : Program} {loose : List Str} {mean : ExcName → Option Value} {mg mb : Str → Option Value} {dp un : Nat} {gd : Option (List Code)} {cn : Str} {cs : Scope} {a : Addr} {ccd : Value} {cl : List (Str × Addr)} {outer : List Env} {A₀ : Around} {base h₀ : Heap} {L : Addr} {m : Str → Option Value} {news rest : List (Addr × Obj)} {s : Shared} {Q E : Value → Shared → Prop}
theorem wd_KD3_13 : True := by
  k_with "truthy str" => first | refine truthy_one ?_ | (refine truthy_full (by assumption) (by assumption) ?_)
  k_with "truthy ref" => (k_here; (with_reducible show wpAny _ _ (truthy (Value.ref _)) _ _ _); k_dflt (refine truthy_dqK (by assumption) (by k_mem) ?_))
  trivial
theorem owit_stopS {M : Model} {A : Around} {Q : Option Value → Shared → Prop} {e t : Addr} {g G : Heap} {vs : List Value} {X : String}
    (R : RaisedS base G (envX cn cs L a ccd cl :: outer) e (.type X) t vs news s.heap) (F : Fr g L G m) (K : Below A₀ base outer g) (hsm : G.UpToSlots s.heap) (hsub : isSubtype (.type X) (.type "StopIteration") = pure true)
    (k : ∀ g', KtsTurn (outer.filterMap (·.frame)) g g' → Fr g' L s.heap m → Below A₀ base outer g' → News g' L s.heap news → Q none s) : OwitStop M A Q E (.ref e) s := by
  obtain ⟨⟨B, hB, hBG, hl, hfl, hnew⟩, htup⟩ := R
  have hL : B.get? L = none := by
    obtain ⟨_, ⟨L', _, hf, hn', _⟩, _⟩ := hfl.2.2.1
    obtain rfl : L = L' := Option.some.inj hf
    exact hn'
  obtain ⟨ob, hob, hobc⟩ := hfl.there
  have hT : s.TypeIs (.ref e) X := (show ∃ o, s.heap.get? e = some o ∧ o.cls = .type X from ⟨ob, hob, hobc⟩)
  unfold OwitStop
  refine wpAny_isInstance hT hsub ?_
  show (if true = true then Q none s else E (.ref e) s)
  rw [if_pos rfl]
  obtain ⟨g', T', F', K'⟩ := kts_ground (name := cn) (scope := cs) (a := a) (cd := ccd) K F hBG hfl.1 hsm
  exact k g' T' F' K' fun q hq => ⟨hfl.1 _ _ (hl q hq).1, (fun z => by have := (hl q hq).1; rw [z, hL] at this; cases this), T'.none_ _ (kts_none F.keep (hl q hq).2.1)⟩
section
variable {x dx xi di pb fs : Nat} {ts : Nat → Tok} {t1 t2 t3 t4 tb : Tok} {buf : Str}
theorem wd_KD3_14 : True := by
  k_with "call ref" => (k_here; k_dflt (refine' get_call ?hx ?hi ?hxi ?hr1 ?hr2 ?hlen ?hpi ?hpl ?hrt ?C ?htok ?heof; (case C => walk_at "CX"); (case hx => assumption); (case hi => assumption); (case hxi => assumption); (case hr1 => assumption); (case hr2 => assumption); (case hlen => assumption); (case hpi => assumption); (case hpl => assumption); (case hrt => assumption)); (all_goals intros))
  k_with "leaving ref" => (k_here; (refine' leave_raiseS ?k1 ?k0 ?k2 ?k3 ?_; (case k0 => first | assumption | exact Heap.MadeExc.of (by assumption)); (case k2 => assumption); (case k1 => assumption); (case k3 => k_asm); k_whole; intro _ _ zS' zR' zU'; (try dsimp only at zS' zR' zU' ⊢)))
  trivial
theorem next_step {n : Nat} {res : Option (List Nat) × List Nat} {tp tst tt tl : Tok} {pos : Nat} {pi line : Int} {Q : Option Value → Shared → Prop} (hx : dx < x) (hi : di < xi) (hxi : x < di ∨ xi < dx) (hr1 : ∀ p ∈ ((pb, dequeObj) :: (fs, dequeObj) :: rest : List (Addr × Obj)), p.1 ≠ dx) (hr2 : ∀ p ∈ ((pb, dequeObj) :: (fs, dequeObj) :: rest : List (Addr × Obj)), p.1 ≠ di) (hlen : buf.length ≤ 1000)
    (hpi : pi = pos) (hpl : pos ≤ buf.length) (hrt : rt n .sp (buf.cps.toList.drop pos) [] = some res)
    (C : Cx 9 w p loose mean mg mb dp un cs outer A₀ base h₀ L m s.heap (led w.params ts x dx xi di pb fs t1 t2 t3 t4 tb buf (.str (Str.ofString " ") tst) (.str (Str.ofString "") tt) (.int line tl) (.int pi tp) ((pb, dequeObj) :: (fs, dequeObj) :: rest)))
    (htok : ∀ t, res.1 = some t → t ≠ [] → t.length ≤ 1000 → ∀ pos' pi' v tp' tst' tt' line' tl' h' tk', pi' = ((pos' : Nat) : Int) → pos' ≤ buf.length → buf.cps.toList.drop pos' = res.2 → Fr h₀ L h' m →
      News h₀ L h' (led w.params ts x dx xi di pb fs t1 t2 t3 t4 tb buf (.str (Str.ofString " ") tst') (.str (Str.ofString "") tt') (.int line' tl') (.int pi' tp') ((pb, dequeObj) :: (fs, dequeObj) :: rest)) → Q (some (.str (toS t) v)) { s with heap := h', toks := tk' })
    (heof : res.1 = none → ∀ pi' tp' tt' line' tl' h' tk' g', KtsTurn (outer.filterMap (·.frame)) h₀ g' → Fr g' L h' m → Below A₀ base outer g' →
      News g' L h' (led w.params ts x dx xi di pb fs t1 t2 t3 t4 tb buf .none (.str (Str.ofString "") tt') (.int line' tl') (.int pi' tp') ((pb, dequeObj) :: (fs, dequeObj) :: rest)) → Q none { s with heap := h', toks := tk' }) :
    wpAny (model prog w) (ktrTop dp un gd cn cs L a ccd cl outer) (pyNext (.ref x)) Q E s := by
  obtain ⟨B, F, X, N, T, hk, hd, hu⟩ := C
  k_here
  k_dflt (refine' owit_next ?F ?X ?I ?hs ?hf ?_; (case F => k_asm); (case X => k_asm); (case I => k_inst); (case hs => k_is); (case hf => k_is); k_whole)
  walk_at "ENTER"
  k_steps
  · exact htok _ (by assumption) (by assumption) (by assumption) _ _ _ _ _ _ _ _ _ _ (by assumption) (by assumption) (by assumption) (by assumption) (by assumption)
  · rename RaisedS _ _ _ _ _ _ _ _ _ => R
    exact owit_stopS R (by assumption) (by assumption) (by assumption) owsi_facts.sub fun g' T' F' K' N' => heof (by assumption) _ _ _ _ _ _ _ g' T' F' K' N'
end
end
end
section
set_option tactic.hygienic false
section
variable {prog : Program} {w : World} {A : Around} {E : Value → Shared → Prop} {s : Shared} {h₀ : Heap} {L : Addr} {m : Str → Option Value} {news : List (Addr × Obj)} {R : Result → Shared → Prop}
theorem list_loop {S x : Addr} {res : Value} {I : Array Value → Nat → Nat → Shared → Prop}
    (turn : ∀ acc c n s, I acc c n s → wpAny (model prog w) A.in1 (pyNext (.ref x)) (fun r s' => match r with
      | none => R (.ok (.ret res)) s'
      | some v => s'.heap.get? S = some (listOf acc c) ∧ acc.size ≤ 1000 ∧ ∃ m, m < n ∧ I (acc.push v) (c + 1) m { s' with heap := s'.heap.update S (Obj.mapSeq (·.push v)) }) (fun e s' => R (.error e) s') s) :
    ∀ n acc c s, I acc c n s → codeAny (model prog w) A (.builtin "list.extend.loop" ⟨[.ref S, .ref x, res], []⟩) R s := by
  intro n
  induction n using Nat.strongRecOn with
  | ind n ih =>
    intro acc c s hI
    refine codeAny_builtin F.entry_extend_loop ?_
    rw [Around.under_plainId F.plain_extend_loop _]
    show wpAny _ A.in1 (pyNext (.ref x) >>= _) _ _ s
    refine wpAny_bind (wpAny_mono (turn acc c n s hI) (fun r s' h => ?_) fun _ _ e => e)
    cases r with
    | none => exact wpAny_pure h
    | some v =>
      obtain ⟨hS, hz, k, hk, hI'⟩ := h
      show wpAny _ A.in1 (updateSeq S (·.push v) >>= _) _ _ _
      refine wpAny_bind ?_
      refine wpAny_updateSeq hS rfl (wpAny_pure ⟨plainId_quiet F.plain_extend_loop _, ih k hk _ _ _ hI'⟩) ?_ ?_
      · exact Nat.le_trans hz (by decide)
      · show (acc.push v).size ≤ sizeLine + 1
        rw [Array.size_push]
        exact Nat.succ_le_succ (Nat.le_trans hz (by decide))
theorem upd_S {S : Addr} {a : Array Value} {c : Nat} {f : Array Value → Array Value} {h : Heap} (F : Fr h₀ L h m) (N : News h₀ L h ((S, listOf a c) :: news)) (hS : ∀ p ∈ news, p.1 ≠ S) :
    Fr h₀ L (h.update S (Obj.mapSeq f)) m ∧ News h₀ L (h.update S (Obj.mapSeq f)) ((S, Obj.mapSeq f (listOf a c)) :: news) := by
  have z := N (S, listOf a c) (.head _)
  have ho : (h.update S (Obj.mapSeq f)).get? S = some (Obj.mapSeq f (listOf a c)) := Heap.get?_update_self (Obj.mapSeq f) z.1 rfl
  refine ⟨F.change (Heap.SameBut.update ..) z.2.1 z.2.2, ?_⟩
  exact news_set (pre := []) N (fun _ q => nomatch q) hS (Heap.SameBut.update ..) ho
theorem list_own {x C f : Addr} {ox : Obj} {od : Option Obj} {KF : Frag} {Q : Value → Shared → Prop} (F : Fr h₀ L s.heap m) (N : News h₀ L s.heap news) (X₀ : KF.In h₀)
    (I : ∀ h, News h₀ L h news → InstAt h x ox C od) (hxm : (x, ox) ∈ news)
    (hl : findIn KF (.ref C) "__len__" = some none) (hh : findIn KF (.ref C) "__length_hint__" = some none)
    (hi : findIn KF (.ref C) "__iter__" = some (some (.ref f))) (hf : isFn KF (.ref f) = true) {gn : Value} (hn : findIn KF (.ref C) "__next__" = some (some gn))
    (iter : ∀ S h' tk' {Q' E' : Value → Shared → Prop}, Fr h₀ L h' m → News h₀ L h' ((S, listOf #[] 0) :: news) → (∀ p ∈ news, p.1 < S) →
      (∀ h'' tk'', Fr h₀ L h'' m → News h₀ L h'' ((S, listOf #[] 0) :: news) → Q' (.ref x) { s with heap := h'', toks := tk'' }) → wpAny (model prog w) A.in1.in1 (call (.ref f) [.ref x]) Q' E' { s with heap := h', toks := tk' })
    (loop : ∀ S h' tk' (R : Result → Shared → Prop), (∀ s', Q (.ref S) s' → R (.ok (.ret .none)) s') → (∀ e s', E e s' → R (.error e) s') → Fr h₀ L h' m → News h₀ L h' ((S, listOf #[] 2) :: news) → (∀ p ∈ news, p.1 < S) →
      codeAny (model prog w) A.in1 (.builtin "list.extend.loop" ⟨[.ref S, .ref x, .none], []⟩) R { s with heap := h', toks := tk' }) :
    wpAny (model prog w) A (call (.type "list") [.ref x]) Q E s := by
  refine callType_codes (Q₁ := fun obj s₁ => obj = .ref s.heap.objs.size ∧ s₁ = { s with heap := s.heap.push { cls := .type "list", data := .seq #[] } }) PySem.F.called_list (PySem.F.typeCall_list_1 _) PySem.F.entry_list_init
    (code_list_new _ ⟨rfl, rfl⟩) fun obj s₁ h₁ => ?_
  obtain ⟨rfl, rfl⟩ := h₁
  have hlt : ∀ p ∈ news, p.1 < s.heap.objs.size := fun p hp => Heap.lt_size (N p hp).1
  have hS : (s.heap.push { cls := .type "list", data := .seq #[] }).get? s.heap.objs.size = some { cls := .type "list", data := .seq #[] } := Heap.get?_push_size _ rfl
  have hk : ∀ b o, s.heap.get? b = some o → (s.heap.push { cls := .type "list", data := .seq #[] }).get? b = some o := fun b o e => Heap.get?_push_of_some _ e
  have F1 : Fr h₀ L (s.heap.push { cls := .type "list", data := .seq #[] }) m := by
    obtain ⟨oL, a1, a2, hL, a3⟩ := F.ns
    exact ⟨⟨oL, a1, a2, hk _ _ hL, a3⟩, fun b o e => hk _ _ (F.keep b o e), F.above⟩
  have N1 : News h₀ L (s.heap.push { cls := .type "list", data := .seq #[] }) ((s.heap.objs.size, listOf #[] 0) :: news) := by
    intro p hp
    rcases List.mem_cons.mp hp with rfl | hp
    · obtain ⟨oL, _, _, hL, _⟩ := F.ns
      refine ⟨hS, Nat.ne_of_gt (Heap.lt_size hL), ?_⟩
      cases hq : h₀.get? s.heap.objs.size with
      | none => rfl
      | some o' => exact absurd (Heap.lt_size (F.keep _ _ hq)) (Nat.lt_irrefl _)
    · exact ⟨hk _ _ (N p hp).1, (N p hp).2.1, (N p hp).2.2⟩
  refine ⟨⟨_, hS, rfl⟩, PySem.F.args_list_init_2 _ _, ?_⟩
  generalize s.heap.objs.size = S at *
  generalize s.heap.push { cls := .type "list", data := .seq #[] } = h1 at *
  have hne : ∀ p ∈ news, p.1 ≠ S := fun p hp => Nat.ne_of_lt (hlt p hp)
  show wpAny _ A.in1.in1 (do let old ← Builtin.List.listItems (.ref S); Builtin.List.listUpdate (.ref S) (fun _ => #[]); letGo old.toList.reverse; Builtin.List.listExtendWith (.ref S) (.ref x) .none) _ _ _
  refine wpAny_bind ?_
  unfold Builtin.List.listItems
  refine wpAny_bind (wpAny_seqItems hS rfl (wpAny_pure ?_))
  show wpAny _ A.in1.in1 (updateSeq S (fun _ => #[]) >>= fun _ => letGo (#[] : Array Value).toList.reverse >>= fun _ => Builtin.List.listExtendWith (.ref S) (.ref x) .none) _ _ _
  refine wpAny_bind (wpAny_updateSeq hS rfl ?_)
  obtain ⟨F2, N2⟩ := upd_S (f := fun _ => #[]) F1 N1 hne
  refine wpAny_bind (wpAny_letGo ?_)
  have e0 : Obj.mapSeq (fun _ => (#[] : Array Value)) (listOf #[] 0) = listOf #[] 0 := by rfl
  rw [e0] at N2
  generalize h1.update S (Obj.mapSeq fun _ => (#[] : Array Value)) = h2 at *
  unfold Builtin.List.listExtendWith
  have I2 := I h2 (fun p hp => N2 p (.tail _ hp))
  refine wpAny_bind (I2.type.here ?_)
  have h1' : Builtin.List.listSameRef (.ref S) (.ref x) = false := by
    have := hne _ hxm
    simp only [Builtin.List.listSameRef, beq_eq_false_iff_ne]
    exact fun e => this e.symm
  have h2' : (Value.ref C == Value.type "list") = false := rfl
  have h3' : (Value.ref C == Value.type "tuple") = false := rfl
  simp only [h1', h2', h3', Bool.or_false, Bool.false_eq_true, if_false]
  refine wpAny_bind ?_
  refine owit_iter F2 X₀ I2 hi hf ?_
  refine iter S h2 s.toks F2 N2 hlt fun h3 tk3 F3 N3 => ?_
  have I3 := I h3 (fun p hp => N3 p (.tail _ hp))
  refine owit_it F3 X₀ I3 hn ?_
  have X3 := X₀.keeps F3.keep
  refine wpAny_bind (wpAny_holding ?_)
  unfold Builtin.List.listLengthHint
  refine wpAny_bind (wpAny_bind (I3.type.here ((looks_findIn X3 hl).here ?_)))
  show wpAny _ A.in1.in1 (specialOf (Value.ref x) (Str.ofString "__length_hint__") >>= _) _ _ _
  refine wpAny_bind (wpAny_bind (I3.type.here ((looks_findIn X3 hh).here ?_)))
  refine wpAny_pure ?_
  show wpAny _ A.in1.in1 (rule "list.extend.makes-room" >>= fun _ => Builtin.List.listTouch (.ref S) >>= fun _ =>
    again (.builtin "list.extend.loop" ⟨[.ref S, .ref x, .none], []⟩)) _ _ _
  refine wpAny_bind (wpAny_rule ?_)
  refine wpAny_bind ?_
  show wpAny _ A.in1.in1 (updateSeq S (·.push .none) >>= fun _ => updateSeq S (·.pop)) _ _ _
  have hS3 := (N3 _ (.head _)).1
  refine wpAny_bind (wpAny_updateSeq hS3 rfl ?_)
  obtain ⟨F4, N4⟩ := upd_S (f := (·.push Value.none)) F3 N3 hne
  generalize h3.update S (Obj.mapSeq (·.push Value.none)) = h4 at *
  have e1 : Obj.mapSeq (·.push Value.none) (listOf #[] 0) = listOf #[Value.none] 1 := by rfl
  rw [e1] at N4
  have hS4 := (N4 _ (.head _)).1
  refine wpAny_updateSeq (hz := by seq_fits) hS4 rfl ?_
  obtain ⟨F5, N5⟩ := upd_S (f := (·.pop)) F4 N4 hne
  generalize h4.update S (Obj.mapSeq (·.pop)) = h5 at *
  have e2 : Obj.mapSeq (·.pop) (listOf #[Value.none] 1) = listOf #[] 2 := by rfl
  rw [e2] at N5
  refine wpAny_pure ⟨plainId_quiet PySem.F.plain_extend_loop _, ?_⟩
  exact loop S h5 tk3 _ (fun s' hq => ⟨rfl, hq⟩) (fun e s' he => he) F5 N5 hlt
end
end
section
set_option tactic.hygienic false
section
variable {prog : Program} {w : World} {p : Program} {loose : List Str} {mean : ExcName → Option Value} {mg mb : Str → Option Value} {dp un : Nat} {gd : Option (List Code)} {cn : Str} {cs : Scope} {a : Addr} {ccd : Value} {cl : List (Str × Addr)} {outer : List Env} {A₀ : Around} {base h₀ : Heap} {L : Addr} {m : Str → Option Value} {news rest : List (Addr × Obj)} {s : Shared} {Q E : Value → Shared → Prop}
theorem iter_call {x : Nat} (C : Cx 1 w p loose mean mg mb dp un cs outer A₀ base h₀ L m s.heap news)
    (hret : ∀ h' tk', Fr h₀ L h' m → News h₀ L h' news → Q (.ref x) { s with heap := h', toks := tk' }) :
    wpAny (model prog w) (ktrTop dp un gd cn cs L a ccd cl outer) (call (.ref 774) [.ref x]) Q E s := by
  obtain ⟨B, F, X, N, T, hk, hd, hu⟩ := C
  walk_at "ENTER"
  k_steps
  all_goals exact hret _ _ (by assumption) (by assumption)
noncomputable def lexs (n : Nat) : Nat → List Nat → Option (List (List Nat))
  | 0, _ => none
  | k + 1, cs => match rt n .sp cs [] with
    | some (some t, r) => (lexs n k r).map (t :: ·)
    | some (none, _) => some []
    | none => none
noncomputable abbrev Strs (ws : List Str) (a : Array Value) : Prop := StrsAre a.toList ws
theorem strs_snoc {y : Str} {t : Tok} : ∀ {vs : List Value} {ys : List Str}, StrsAre vs ys → StrsAre (vs ++ [.str y t]) (ys ++ [y])
  | _, _, .nil => .cons _ _ .nil
  | _, _, .cons _ _ h => .cons _ _ (strs_snoc h)
theorem Strs.nil : Strs [] #[] := StrsAre.nil
theorem Strs.push {ws : List Str} {a : Array Value} {x : Str} {t : Tok} (h : Strs ws a) : Strs (ws ++ [x]) (a.push (.str x t)) := by
  unfold Strs
  rw [Array.toList_push]
  exact strs_snoc h
theorem Strs.size {ws : List Str} {a : Array Value} (h : Strs ws a) : a.size = ws.length := by
  rw [← Array.length_toList]
  exact StrsAre.length h
theorem news_sub {h : Heap} {l₁ l₂ : List (Addr × Obj)} (N : News h₀ L h l₁) (hs : ∀ p ∈ l₂, p ∈ l₁) : News h₀ L h l₂ := fun p hp => N p (hs p hp)
section
variable {x dx xi di pb fs : Nat} {ts : Nat → Tok} {t1 t2 t3 t4 tb : Tok} {buf : Str}
inductive LxInv (w : World) (h₀ : Heap) (L : Addr) (m : Str → Option Value) (s : Shared) (x dx xi di pb fs n S : Nat) (ts : Nat → Tok) (t1 t2 t3 t4 tb : Tok) (buf : Str) (rest : List (Addr × Obj)) (ws : List (List Nat)) (acc : Array Value) (c k : Nat) : Shared → Prop
  | mk (pos : Nat) (pi : Int) (tp tst tt : Tok) (line : Int) (tl : Tok) (h : Heap) (tk : Nat) (done todo : List (List Nat)) (F1 : Fr h₀ L h m)
    (N1 : News h₀ L h (led w.params ts x dx xi di pb fs t1 t2 t3 t4 tb buf (.str (Str.ofString " ") tst) (.str (Str.ofString "") tt) (.int line tl) (.int pi tp) ((pb, dequeObj) :: (fs, dequeObj) :: (S, listOf acc c) :: rest)))
    (hpi : pi = pos) (hpl : pos ≤ buf.length) (hlx : lexs n k (buf.cps.toList.drop pos) = some todo) (hw : ws = done ++ todo) (hst : Strs (done.map toS) acc) : LxInv w h₀ L m s x dx xi di pb fs n S ts t1 t2 t3 t4 tb buf rest ws acc c k { s with heap := h, toks := tk }
theorem list_lex {n k : Nat} {ws : List (List Nat)} {tp tst tt tl : Tok} {pos : Nat} {pi line : Int} (hx : dx < x) (hi : di < xi) (hxi : x < di ∨ xi < dx) (hr1 : ∀ p ∈ ((pb, dequeObj) :: (fs, dequeObj) :: rest : List (Addr × Obj)), p.1 ≠ dx) (hr2 : ∀ p ∈ ((pb, dequeObj) :: (fs, dequeObj) :: rest : List (Addr × Obj)), p.1 ≠ di) (hlen : buf.length ≤ 1000)
    (hpi : pi = pos) (hpl : pos ≤ buf.length) (hlx : lexs n k (buf.cps.toList.drop pos) = some ws) (hws : ws.length ≤ 1000)
    (C : Cx 10 w p loose mean mg mb dp un cs outer A₀ base h₀ L m s.heap (led w.params ts x dx xi di pb fs t1 t2 t3 t4 tb buf (.str (Str.ofString " ") tst) (.str (Str.ofString "") tt) (.int line tl) (.int pi tp) ((pb, dequeObj) :: (fs, dequeObj) :: rest)))
    (hret : ∀ (S : Nat) vs c g' h' tk', (∀ p ∈ rest, p.1 < S) → Strs (ws.map toS) vs → KtsTurn (outer.filterMap (·.frame)) h₀ g' → Fr g' L h' m → Below A₀ base outer g' → News g' L h' ((S, listOf vs c) :: rest) → Q (.ref S) { s with heap := h', toks := tk' }) :
    wpAny (model prog w) (ktrTop dp un gd cn cs L a ccd cl outer) (call (.type "list") [.ref x]) Q E s := by
  obtain ⟨B, F, X, N, T, hk, hd, hu⟩ := C
  refine list_own (x := x) (C := 784) (f := 774) (od := some (dictOf (shE w.params ts xi pb fs (.str (Str.ofString " ") tst) (.str (Str.ofString "") tt) (.int line tl)) 19)) (KF := K w.params) F N X (fun h N' => ?_) (.head _) (by k_is) (by k_is) (by k_is) (by k_is) (by k_is) ?_ ?_
  · k_inst
  · intro S h' tk' Q' E' F' N' hS q
    exact iter_call (dp := dp) (un := un + 2) (s := { s with heap := h', toks := tk' }) ⟨B, F', X, N', T, hk, by (first | lia | omega), by (first | lia | omega)⟩ fun h'' tk'' F'' N'' => q h'' tk'' F'' N''
  · intro S h' tk' R hok herr F' N' hS
    refine list_loop (I := LxInv w h₀ L m s x dx xi di pb fs n S ts t1 t2 t3 t4 tb buf rest ws) ?_ k #[] 2 _ ?_
    · rintro acc c k s' ⟨pos, pi, tp, tst, tt, line, tl, h, tk, done, todo, F1, N1, hpi, hpl, hlx, hw, hst⟩
      have sx : x < S := hS _ (.head _)
      have sdx : dx < S := hS _ (.tail _ (.head _))
      have sxi : xi < S := hS _ (.tail _ (.tail _ (.head _)))
      have sdi : di < S := hS _ (.tail _ (.tail _ (.tail _ (.head _))))
      have sr : ∀ p ∈ ((pb, dequeObj) :: (fs, dequeObj) :: rest : List (Addr × Obj)), p.1 < S := fun p hp => hS p (.tail _ (.tail _ (.tail _ (.tail _ hp))))
      have hacc : acc.size ≤ 1000 := by
        rw [hst.size, List.length_map]
        have : ws.length = done.length + todo.length := by rw [hw, List.length_append]
        first | k_extra "OM" | (first | lia | omega)
      cases k with
      | zero => cases hlx
      | succ k =>
      unfold lexs at hlx
      cases hr : rt n .sp (buf.cps.toList.drop pos) [] with
      | none => rw [hr] at hlx; cases hlx
      | some res =>
        have hb1 : ∀ p ∈ ((pb, dequeObj) :: (fs, dequeObj) :: (S, listOf acc c) :: rest : List (Addr × Obj)), p.1 ≠ dx := by
          intro p hp
          revert p hp
          refine allP_cons ?_ (allP_cons ?_ (allP_cons ?_ (fun p hp => ?_)))
          · exact hr1 _ (.head _)
          · exact hr1 _ (.tail _ (.head _))
          · exact Nat.ne_of_gt sdx
          · exact hr1 _ (.tail _ (.tail _ hp))
        have hb2 : ∀ p ∈ ((pb, dequeObj) :: (fs, dequeObj) :: (S, listOf acc c) :: rest : List (Addr × Obj)), p.1 ≠ di := by
          intro p hp
          revert p hp
          refine allP_cons ?_ (allP_cons ?_ (allP_cons ?_ (fun p hp => ?_)))
          · exact hr2 _ (.head _)
          · exact hr2 _ (.tail _ (.head _))
          · exact Nat.ne_of_gt sdi
          · exact hr2 _ (.tail _ (.tail _ hp))
        refine next_step (dp := dp) (un := un + 2) (gd := gd) (cn := cn) (a := a) (ccd := ccd) (cl := cl) (s := { s with heap := h, toks := tk }) hx hi hxi hb1 hb2 hlen hpi hpl hr ⟨B, F1, X, N1, T, hk, by (first | lia | omega), by (first | lia | omega)⟩ ?_ ?_
        · intro t ht hne htl pos' pi' v tp' tst' tt' line' tl' h' tk' e1 e2 e3 F2 N2
          obtain ⟨r1, r2⟩ := res
          dsimp only at ht e3
          subst ht
          rw [hr] at hlx
          dsimp only at hlx
          cases hlr : lexs n k r2 with
          | none => rw [hlr] at hlx; cases hlx
          | some todo' =>
            rw [hlr] at hlx
            obtain rfl : t :: todo' = todo := Option.some.inj hlx
            have N3 : News h₀ L h' ((S, listOf acc c) :: (led w.params ts x dx xi di pb fs t1 t2 t3 t4 tb buf (.str (Str.ofString " ") tst') (.str (Str.ofString "") tt') (.int line' tl') (.int pi' tp') ((pb, dequeObj) :: (fs, dequeObj) :: rest))) := news_sub N2 fun p hp => by
              first | (refine sub_use ?_ hp; k_extra "SUB") | (simp only [List.mem_cons, List.mem_append, List.cons_append, List.nil_append] at hp ⊢; grind)
            have hne' : ∀ p ∈ (led w.params ts x dx xi di pb fs t1 t2 t3 t4 tb buf (.str (Str.ofString " ") tst') (.str (Str.ofString "") tt') (.int line' tl') (.int pi' tp') ((pb, dequeObj) :: (fs, dequeObj) :: rest)), p.1 ≠ S := by
              intro p hp
              revert p hp
              refine allP_cons ?_ (allP_cons ?_ (allP_cons ?_ (allP_cons ?_ (fun p hp => ?_))))
              · exact Nat.ne_of_lt sx
              · exact Nat.ne_of_lt sdx
              · exact Nat.ne_of_lt sxi
              · exact Nat.ne_of_lt sdi
              · exact Nat.ne_of_lt (sr p hp)
            obtain ⟨F4, N4⟩ := upd_S (f := (·.push (.str (toS t) v))) F2 N3 hne'
            have e4 : Obj.mapSeq (·.push (.str (toS t) v)) (listOf acc c) = listOf (acc.push (.str (toS t) v)) (c + 1) := mapSeq_push _ _ _ _ _
            rw [e4] at N4
            refine ⟨(N3 _ (.head _)).1, hacc, k, Nat.lt_succ_self k, pos', pi', tp', tst', tt', line', tl', _, tk', done ++ [t], todo', F4, ?_, e1, e2, by rw [e3]; exact hlr, by rw [hw, List.append_assoc]; rfl, ?_⟩
            · exact news_sub N4 fun p hp => by
                first | (refine sub_use ?_ hp; k_extra "SUB") | (simp only [List.mem_cons, List.mem_append, List.cons_append, List.nil_append] at hp ⊢; grind)
            · rw [List.map_append]
              exact hst.push
        · intro hnone pi' tp' tt' line' tl' h' tk' g' T' F2 B2 N2
          obtain ⟨r1, r2⟩ := res
          dsimp only at hnone
          subst hnone
          rw [hr] at hlx
          obtain rfl : [] = todo := Option.some.inj hlx
          rw [List.append_nil] at hw
          subst hw
          exact hok _ (hret S acc c g' h' tk' (fun p hp => sr p (.tail _ (.tail _ hp))) hst T' F2 B2 (news_sub N2 fun p hp => by
            first | (refine sub_use ?_ hp; k_extra "SUB") | (simp only [List.mem_cons, List.mem_append, List.cons_append, List.nil_append] at hp ⊢; grind)))
    · refine ⟨pos, pi, tp, tst, tt, line, tl, _, _, [], ws, F', ?_, hpi, hpl, hlx, rfl, .nil⟩
      exact news_sub N' fun p hp => by
        first | (refine sub_use ?_ hp; k_extra "SUB") | (simp only [List.mem_cons, List.mem_append, List.cons_append, List.nil_append] at hp ⊢; grind)
end
end
end
section
open PySem PySem.W PySem.Calls PyProof.Rows Builtin Builtin.ObjectAttr Builtin.Getset_descriptor
set_option maxRecDepth 1000000
set_option tactic.hygienic false
section
variable {prog : Program} {w : World} {A : Around} {C : Addr} {R : Result → Shared → Prop} {h : Heap} {g : Array GenState} {d : Drawn} {t : Nat} {os : OsState}
theorem madeBy691 (X : (K w.params).In h) : Looks (model prog w) h (Bind.madeBy (.ref 691)) none := Looks.of_peek X (by kernel_rfl)
theorem mro691 (X : (K w.params).In h) : Looks (model prog w) h (mroOf (.ref 691)) [.ref 691, .ref 214, .ref 187, .type "object"] := Looks.of_peek X (by kernel_rfl)
theorem here691 (X : (K w.params).In h) : Looks (model prog w) h (Bind.madeHere "object.__new__" (.ref 691)) () := Looks.of_peek X (by kernel_rfl)
theorem self691 (X : (K w.params).In h) : Looks (model prog w) h (isSubtype (.ref 691) (.ref 691)) true := Looks.of_peek X (by kernel_rfl)
theorem typ691 (X : (K w.params).In h) : Looks (model prog w) h (isInstance (.ref 691) (.type "type")) true := looks_instIn X (by kernel_rfl)
theorem istype691 (X : (K w.params).In h) : Looks (model prog w) h (isType (.ref 691)) true := Looks.of_peek X (by kernel_rfl)
theorem call691 (X : (K w.params).In h) : Looks (model prog w) h (specialOf (.ref 691) "__call__") (some (.builtin "type.__call__")) := looks_specialIn X (by kernel_rfl)
theorem base691 (X : (K w.params).In h) : Looks (model prog w) h (Bind.staticBase (.ref 691)) (.type "object") := Looks.of_peek X (by kernel_rfl)
theorem madeObj (X : (K w.params).In h) : Looks (model prog w) h (Bind.madeBy (.type "object")) (some "object.__new__") := Looks.of_peek X (by kernel_rfl)
theorem top691 (X : (K w.params).In h) : Looks (model prog w) h (isSubtype (.ref 691) (.type "object")) true := Looks.of_peek X (by kernel_rfl)
theorem new691 (X : (K w.params).In h)
    (hq : R (.ok (.ret (.ref (h.objs.size + 1)))) ⟨(h.push emptyDict).push (instObj 691 h.objs.size), g, d, t, os⟩) :
    codeAny (model prog w) A (.call (.builtin "object.__new__") ⟨.ref 691 :: [], []⟩) R ⟨h, g, d, t, os⟩ := by
  obtain ⟨oc, od, cd, sl, hC, e1, e2⟩ : ∃ oc od cd sl, h.get? 691 = some ⟨oc, od, .cls cd, sl⟩ ∧ cd.abstract = false ∧ cd.hasDel = false := ⟨_, _, _, _, X _ _ (by rfl), rfl, rfl⟩
  have here := here691 (prog := prog) X
  have typ := typ691 (prog := prog) X
  have base := base691 (prog := prog) X
  have made := madeObj (prog := prog) X
  have top := top691 (prog := prog) X
  have ist := istype691 (prog := prog) X
  have F := PySem.F.objNew
  refine codeAny_call_builtin_code (Code.quiet_builtin _ F.quiet) ?_
  simp only [checkBuiltinCall, F.kind, F.split, F.row]
  have args : Bind.checkArgs "object.__new__" ⟨.hand, "object.__new__", "__new__", .cls, []⟩ ⟨.ref 691 :: [], []⟩ = pure () := by kernel_rfl
  rw [args]
  repeat (first | simp only [bne_self_eq_false, Bool.false_eq_true, if_false] | lk)
  refine codeAny_builtin F.entry ?_
  unfold Builtin.«object.__new__»
  have fin : ∀ A', wpAny (model prog w) A' (do
      let d ← if typeHasDict (.ref 691) then some <$> alloc { cls := .type "dict", data := .dict #[] } else pure none
      ret (← newObj (.ref 691) .plain d)) (fun fin s' => match fin with | .done f => R (.ok f) s' | .again c' => c'.quiet = true ∧ codeAny (model prog w) A c' R s') (fun e s' => R (.error e) s') ⟨h, g, d, t, os⟩ := by
    intro A'
    show wpAny _ _ ((alloc emptyDict >>= fun x => pure (some x)) >>= _) _ _ _
    refine wpAny_bind (wpAny_bind (wpAny_alloc (wpAny_pure (wpAny_bind ?_))))
    show wpAny _ _ (newObjAsIs _ _ _) _ _ _
    unfold newObjAsIs classHasDel
    refine wpAny_bind (wpAny_alloc (wpAny_bind (wpAny_bind (wpAny_load (Heap.get?_push_of_some _ (Heap.get?_push_of_some _ hC)) (wpAny_pure ?_)))))
    rw [e2]
    refine wpAny_pure (wpAny_pure ?_)
    show R _ _
    rw [Heap.size_push]
    exact hq
  repeat (first | simp only [e1, Bool.false_eq_true, if_false] | exact fin _ | lk)
theorem under_make (dp un : Nat) (gd : Option (List Code)) (cn : Str) (cs : Scope) (L a : Addr) (ccd : Value) (cl : List (Str × Addr)) (outer : List Env) (C : Addr) (rest : List Value) (kw : List (Str × Value)) :
    (ktrTop dp un gd cn cs L a ccd cl outer).under (.builtin "type.__call__" ⟨.ref C :: rest, kw⟩) = ktrTop (dp + 1) (un + 1) gd cn cs L a ccd cl outer := by cases gd <;> rfl
end
section
variable {prog : Program} {w : World} {dp un : Nat} {gd : Option (List Code)} {cn : Str} {cs : Scope} {a : Addr} {ccd : Value} {cl : List (Str × Addr)} {outer : List Env} {h₀ : Heap} {L : Addr} {m : Str → Option Value} {news : List (Addr × Obj)} {s : Shared} {Q E : Value → Shared → Prop}
theorem make691 {b : Str} {tb : Tok} (F : Fr h₀ L s.heap m) (X₀ : (K w.params).In h₀)
    (new : ∀ {Q' E' : Value → Shared → Prop}, (∀ (x dx : Nat) h' tk', dx < x → (∀ p ∈ news, p.1 < dx) → Fr h₀ L h' m → News h₀ L h' ((x, instObj 691 dx) :: (dx, emptyDict) :: news) → Q' (.ref x) { s with heap := h', toks := tk' }) →
      wpAny (model prog w) (ktrTop (dp + 1) (un + 1) gd cn cs L a ccd cl outer) (call (.ref 184) [.ref 691, .str b tb]) Q' E' { s with toks := s.toks + 1 })
    (init : ∀ (x dx : Nat) h' tk' {Q' E' : Value → Shared → Prop}, dx < x → (∀ p ∈ news, p.1 < dx) → Fr h₀ L h' m → News h₀ L h' ((x, instObj 691 dx) :: (dx, emptyDict) :: news) → (∀ s', Q (.ref x) s' → Q' .none s') →
      wpAny (model prog w) (ktrTop (dp + 1) (un + 1) gd cn cs L a ccd cl outer) (call (.ref 461) [.ref x, .str b tb]) Q' E' { s with heap := h', toks := tk' }) :
    wpAny (model prog w) (ktrTop dp un gd cn cs L a ccd cl outer) (call (.ref 691) [.str b tb]) Q E s := by
  have X := X₀.keeps F.keep
  have made := madeBy691 (prog := prog) X
  have typ := typ691 (prog := prog) X
  have cal := call691 (prog := prog) X
  have hmro := mro691 (prog := prog) X
  obtain ⟨oc, od, cd, sl, hC, e1, e2⟩ : ∃ oc od cd sl, s.heap.get? 691 = some ⟨oc, od, .cls cd, sl⟩ ∧ cd.abstract = false ∧ cd.hasDel = false := ⟨_, _, _, _, X _ _ (by rfl), rfl, rfl⟩
  refine wpAny_call (codeAny_of_tree ?_)
  show wpAny _ _ (callAny (.ref 691) _) _ _ _
  obtain ⟨h, g, d, t, os⟩ := s
  refine nd_load hC ?_
  show wpAny _ _ (callAny.viaDunder (.ref 691) _) _ _ _
  unfold callAny.viaDunder
  refine wpAny_bind (cal.at ?_)
  try dsimp only
  rw [tc_bind]
  refine wpAny_bind (wpAny_pure (wpAny_bind (wpAny_pure ?_)))
  refine wpAny_pure (a := Fin.again (.call (.builtin "type.__call__") ⟨.ref 691 :: [.str b tb], []⟩)) (And.intro rfl ?_)
  refine codeAny_call_builtin_at (Code.quiet_builtin _ (by decide +kernel)) entry_typeCall (check_slot tc_kind tc_split typ (tc_args _ _ _) ?_)
  rw [under_make]
  unfold Builtin.«type.__call__»
  show wpAny _ _ (mroOf (.ref 691) >>= _) _ _ _
  refine wpAny_bind (hmro.at ?_)
  try dsimp only
  rw [if_neg (by decide)]
  show wpAny _ _ (Bind.madeBy (.ref 691) >>= _) _ _ _
  refine wpAny_bind (made.at ?_)
  show wpAny _ _ (getAttr (.ref 691) (Str.ofString "__new__") >>= _) _ _ _
  refine wpAny_bind (cls_sm (K := K w.params) F X₀ (mc := .type "type") (p := 188) (f := .ref 184) (rest := (recIn (K w.params) 188 "staticmethod").elim [] List.tail) (by kernel_rfl) (by kernel_rfl) (by kernel_rfl) (by kernel_rfl) (by kernel_rfl) ?_)
  refine wpAny_bind (wpAny_holding (new fun x dx h' tk' hdx hlt F' N' => ?_))
  have X' := X₀.keeps F'.keep
  have hx := (N' _ (.head _)).1
  have t1 : Looks (model prog w) h' (typeOf (.ref x)) (.ref 691) := (Looks.ld (part := none) hx).andThen .now
  have i1 : Looks (model prog w) h' (isInstance (.ref x) (.ref 691)) true := t1.andThen (self691 X')
  refine wpAny_bind (i1.at ?_)
  try dsimp only
  rw [if_neg (by decide)]
  refine wpAny_bind (wpAny_holding ?_)
  have I : InstAt h' x (instObj 691 dx) 691 (some emptyDict) := ⟨hx, rfl, rfl, (N' _ (.tail _ (.head _))).1⟩
  refine special_fn (s := { heap := h', gens := g, drawn := d, toks := tk', os := os }) X' I (f := 461) (by kernel_rfl) (by kernel_rfl) ?_
  refine init x dx h' tk' hdx hlt F' N' fun s' hq => ?_
  try dsimp only
  rw [if_neg (by decide)]
  exact wpAny_pure hq
end
end
section
set_option tactic.hygienic false
section
variable {prog : Program} {w : World} {p : Program} {loose : List Str} {mean : ExcName → Option Value} {mg mb : Str → Option Value} {dp un : Nat} {gd : Option (List Code)} {cn : Str} {cs : Scope} {a : Addr} {ccd : Value} {cl : List (Str × Addr)} {outer : List Env} {A₀ : Around} {base h₀ : Heap} {L : Addr} {m : Str → Option Value} {news rest : List (Addr × Obj)} {s : Shared} {Q E : Value → Shared → Prop}
theorem wd_KE1_15 : True := by
  k_with "ENTER2" => (refine wpAny_call ?_; (refine' kp_both ?k1 ?k2 ?k3 ?k4 ?k5 ?kA ?kF ?kK ?k6 ?k7 ?k8 ?kV ?kX ?kQ ?kM ?kN ?kD ?kR ?kP ?kS ?kT ?kB ?_ ?c2 ?c3 ?c4 ?c5; (case kA => exact rfl); (case kF => exact rfl); (case kK => assumption); (case k1 => k_asm); (case k2 => k_asm); (case k3 => k_asm); (case k4 => k_asm); (case k5 => k_asm); (case k6 => k_is); (case k7 => k_is); (case k8 => ktr_room); (case kV => kp_lit); (case kX => kp_lit); (case kQ => exact rfl); (case kM => exact rfl); (case kN => exact rfl); (case kD => kp_flats); (case kR => exact rfl); (case kP => exact rfl); (case kS => exact fun _ => rfl); (case kT => exact fun _ _ => rfl); (case kB => exact fun _ _ => locs rfl); (case c5 => decide); (case c2 => exact rfl); (case c3 => exact rfl); (case c4 => exact rfl); k_whole; intro _ _ _ _ _ _ _ zl1 zl2 _ _ _ _ _ _ zB' _ _; (try k_lt zl1); (try k_lt2 zl2); (try dsimp only); (try k_lift zB'); (try k_fold)))
  trivial
theorem new_at (F : Fr h₀ L s.heap m) (N : News h₀ L s.heap news) (X : (K w.params).In h₀) {A : Around}
    (h : ∀ (x dx : Nat) h', dx < x → (∀ p ∈ news, p.1 < dx) → Fr h₀ L h' m → News h₀ L h' ((x, instObj 691 dx) :: (dx, emptyDict) :: news) → Q (.ref x) { s with heap := h' }) :
    wpAny (model prog w) A (call (.builtin "object.__new__") [.ref 691]) Q E s := by
  obtain ⟨hh, g, d, t, os⟩ := s
  refine wpAny_call (new691 (X.keeps F.keep) (h _ hh.objs.size _ (Nat.lt_succ_self _) (fun p hp => Heap.lt_size (N p hp).1) ((F.push _).push _) ?_))
  have := (N.push F emptyDict).push (F.push _) (instObj 691 hh.objs.size)
  rwa [Heap.size_push] at this
theorem wd_KE1_16 : True := by
  k_with "call builtin:object.__new__" => (k_here; k_dflt (refine new_at (by assumption) (by assumption) (by assumption) ?_); intro _ _ _ _ _ _ _)
  trivial
theorem sio_new {b : Str} {tb : Tok} (C : Cx 2 w p loose mean mg mb dp un cs outer A₀ base h₀ L m s.heap news)
    (hret : ∀ (x dx : Nat) h' tk', dx < x → (∀ p ∈ news, p.1 < dx) → Fr h₀ L h' m → News h₀ L h' ((x, instObj 691 dx) :: (dx, emptyDict) :: news) → Q (.ref x) { s with heap := h', toks := tk' }) :
    wpAny (model prog w) (ktrTop dp un gd cn cs L a ccd cl outer) (call (.ref 184) [.ref 691, .str b tb]) Q E s := by
  obtain ⟨B, F, X, N, T, hk, hd, hu⟩ := C
  walk_at "ENTER2"
  k_steps
  exact hret _ _ _ _ (by assumption) (fun p hp => (by assumption : ∀ p ∈ ((_, _) :: (_, _) :: news : List (Addr × Obj)), p.1 < _) p (.tail _ (.tail _ hp))) (by assumption) (news_sub (by assumption) fun p hp => by simp only [List.mem_cons] at hp ⊢; grind)
theorem tr_call {x dx : Nat} {t1 t2 t3 tb tp tk1 t4 : Tok} {b b0 : Str} {pos : Int} (C : Cx 1 w p loose mean mg mb dp un cs outer A₀ base h₀ L m s.heap ((x, instObj 691 dx) :: (dx, dictOf (ioE w.params t1 t2 t3 (.str (Str.ofString "\n") t4) (.str b0 tb) (.int pos tp)) 3) :: rest)) (hx : dx < x) (hr : ∀ p ∈ rest, p.1 < dx)
    (hret : ∀ t' h' tk', Fr h₀ L h' m → News h₀ L h' ((x, instObj 691 dx) :: (dx, dictOf (ioE w.params t1 t2 t3 (.str (Str.ofString "\n") t4) (.str b0 tb) (.int pos tp)) 3) :: rest) → Q (.str b t') { s with heap := h', toks := tk' }) :
    wpAny (model prog w) (ktrTop dp un gd cn cs L a ccd cl outer) (call (.ref 468) [.ref x, .str b tk1]) Q E s := by
  obtain ⟨B, F, X, N, T, hk, hd, hu⟩ := C
  walk_at "ENTER"
  k_steps
  exact hret _ _ _ (by assumption) (by assumption)
theorem wd_KE1_17 : True := by
  k_with "call ref" => (k_here; k_dflt (refine' tr_call ?C ?h1 ?h2 ?_; (case C => walk_at "CX"); (case h1 => assumption); (case h2 => assumption)); intro _ _ _ _ _)
  trivial
theorem si_call {x dx : Nat} {b : Str} {tb : Tok} (C : Cx 2 w p loose mean mg mb dp un cs outer A₀ base h₀ L m s.heap ((x, instObj 691 dx) :: (dx, emptyDict) :: rest)) (hx : dx < x) (hr : ∀ p ∈ rest, p.1 < dx)
    (hret : ∀ t1 t2 t3 t4 tb' tp h' tk', Fr h₀ L h' m → News h₀ L h' ((x, instObj 691 dx) :: (dx, dictOf (ioE w.params t1 t2 t3 (.str (Str.ofString "\n") t4) (.str b tb') (.int 0 tp)) 3) :: rest) → Q .none { s with heap := h', toks := tk' }) :
    wpAny (model prog w) (ktrTop dp un gd cn cs L a ccd cl outer) (call (.ref 461) [.ref x, .str b tb]) Q E s := by
  obtain ⟨B, F, X, N, T, hk, hd, hu⟩ := C
  walk_at "ENTER"
  k_steps
  exact hret _ _ _ _ _ _ _ _ (by assumption) (by assumption)
theorem sio_make {b : Str} {tb : Tok} (C : Cx 4 w p loose mean mg mb dp un cs outer A₀ base h₀ L m s.heap news)
    (hret : ∀ (x dx : Nat) t1 t2 t3 t4 tb' tp h' tk', dx < x → (∀ p ∈ news, p.1 < dx) → Fr h₀ L h' m → News h₀ L h' ((x, instObj 691 dx) :: (dx, dictOf (ioE w.params t1 t2 t3 (.str (Str.ofString "\n") t4) (.str b tb') (.int 0 tp)) 3) :: news) → Q (.ref x) { s with heap := h', toks := tk' }) :
    wpAny (model prog w) (ktrTop dp un gd cn cs L a ccd cl outer) (call (.ref 691) [.str b tb]) Q E s := by
  obtain ⟨B, F, X, N, T, hk, hd, hu⟩ := C
  refine make691 (news := news) F X (fun {Q' E'} hq => ?_) fun x dx h' tk' {Q' E'} hdx hlt F' N' hq => ?_
  · exact sio_new (s := { s with toks := s.toks + 1 }) ⟨B, F, X, N, T, hk, by (first | lia | omega), by (first | lia | omega)⟩ hq
  · exact si_call (s := { s with heap := h', toks := tk' }) ⟨B, F', X, N', T, hk, by (first | lia | omega), by (first | lia | omega)⟩ hdx hlt fun t1 t2 t3 t4 tb' tp h'' tk'' F'' N'' => hq _ (hret x dx t1 t2 t3 t4 tb' tp h'' tk'' hdx hlt F'' N'')
end
end
section
set_option tactic.hygienic false
section
variable {prog : Program} {w : World} {p : Program} {loose : List Str} {mean : ExcName → Option Value} {mg mb : Str → Option Value} {dp un : Nat} {gd : Option (List Code)} {cn : Str} {cs : Scope} {a : Addr} {ccd : Value} {cl : List (Str × Addr)} {outer : List Env} {A₀ : Around} {base h₀ : Heap} {L : Addr} {m : Str → Option Value} {news rest : List (Addr × Obj)} {s : Shared} {Q E : Value → Shared → Prop}
theorem wd_KE2_18 : True := by
  k_with "truthy str" => first | refine truthy_one ?_ | (refine truthy_full (by assumption) (by assumption) ?_)
  k_with "call ref" => (k_here; k_dflt (refine' sio_make ?C ?_; (case C => walk_at "CX")); intro _ _ _ _ _ _ _ _ _ _ _ zl9 _ _; (try k_lt zl9))
  k_with "call type:collections.deque" => (k_here; k_dflt (refine deque_K (by assumption) (by assumption) ?_); intro _ _ _ _ zl9; (try k_lt zl9))
  trivial
theorem wcs_is : Str.ofString "abcdfeghijklmnopqrstuvwxyzABCDEFGHIJKLMNOPQRSTUVWXYZ0123456789_ßàáâãäåæçèéêëìíîïðñòóôõöøùúûüýþÿÀÁÂÃÄÅÆÇÈÉÊËÌÍÎÏÐÑÒÓÔÕÖØÙÚÛÜÝÞ" = wcs := by decide +kernel
theorem wcs_is2 : Str.ofString "abcdfeghijklmnopqrstuvwxyzABCDEFGHIJKLMNOPQRSTUVWXYZ0123456789_" ++ Str.ofString "ßàáâãäåæçèéêëìíîïðñòóôõöøùúûüýþÿÀÁÂÃÄÅÆÇÈÉÊËÌÍÎÏÐÑÒÓÔÕÖØÙÚÛÜÝÞ" = wcs := by decide +kernel
noncomputable def tsOf (l : List Tok) (i : Nat) : Tok := l.getD i 0
noncomputable def shI (P : Params) (ts : Nat → Tok) (xi pb fs : Addr) (wsp : Bool) (st tok line : Value) : List DictEntry :=
  [en P "instream" (ts 0) (.ref xi), en P "infile" (ts 1) .none, en P "posix" (ts 2) (.bool true), en P "eof" (ts 3) .none, en P "commenters" (ts 4) (.str cHash (ts 5)), en P "wordchars" (ts 6) (.str wcs (ts 7)),
   en P "whitespace" (ts 8) (.str cWs (ts 9)), en P "whitespace_split" (ts 10) (.bool wsp), en P "quotes" (ts 11) (.str cQs (ts 12)), en P "escape" (ts 13) (.str cEsc (ts 14)),
   en P "escapedquotes" (ts 15) (.str cEq (ts 16)), en P "state" (ts 17) st, en P "pushback" (ts 18) (.ref pb), en P "lineno" (ts 19) line, en P "debug" (ts 20) (.int 0 (ts 21)), en P "token" (ts 22) tok,
   en P "filestack" (ts 23) (.ref fs), en P "source" (ts 24) .none, en P "_punctuation_chars" (ts 25) (.str (Str.ofString "") (ts 26))]
theorem wd_KE2_19 : True := by
  k_with "ENTER0" => (k_dflt (refine' code_def ?k1 ?k2 ?k3 ?k4 ?k5 ?kA ?kF ?kK ?k6 ?k7 ?k8 ?k9 ?kB ?_ ?c2 ?c3 ?c4 ?c5; (case kA => exact rfl); (case kF => exact rfl); (case kK => assumption); (case k1 => k_asm); (case k2 => k_asm); (case k3 => k_asm); (case k4 => k_asm); (case k5 => k_asm); (case k6 => k_is); (case k7 => k_is); (case k8 => ktr_room); (case k9 => first | exact BindsTo.of_eq rfl | exact binds_K (by k_in) rfl (by k_is) rfl rfl rfl); (case c5 => decide); (case kB => exact locs rfl); (case c2 => exact rfl); (case c3 => exact rfl); (case c4 => exact rfl); k_whole; intro _ _ _ _ _ _ _ _ _; (try dsimp only); (try k_fold)))
  trivial
theorem sh_init {R : Result → Shared → Prop} {x dx : Nat} {b : Str} {tb : Tok} (C : Cx 6 w p loose mean mg mb dp un cs outer A₀ base h₀ L m s.heap ((x, instObj 784 dx) :: (dx, emptyDict) :: rest)) (hx : dx < x) (hr : ∀ p ∈ rest, p.1 < dx)
    (hret : ∀ (ts : Nat → Tok) (xi di pb fs : Nat) t1 t2 t3 t4 tb' tst tt tl tp h' tk', x < di → di < xi → xi < pb → pb < fs → Fr h₀ L h' m →
      News h₀ L h' ((fs, dequeObj) :: (pb, dequeObj) :: (xi, instObj 691 di) :: (di, dictOf (ioE w.params t1 t2 t3 (.str (Str.ofString "\n") t4) (.str b tb') (.int 0 tp)) 3) :: (x, instObj 784 dx) ::
        (dx, dictOf (shI w.params ts xi pb fs false (.str (Str.ofString " ") tst) (.str (Str.ofString "") tt) (.int 1 tl)) 19) :: rest) → R (.ok (.ret .none)) { s with heap := h', toks := tk' }) :
    codeAny (model prog w) (ktrTop dp un gd cn cs L a ccd cl outer) (.call (.ref 708) ⟨[.ref x, .str b tb], [(Str.ofString "posix", .bool true)]⟩) R s := by
  obtain ⟨B, F, X, N, T, hk, hd, hu⟩ := C
  walk_at "ENTER0"
  k_steps
  rename News h₀ _ _ _ => N9
  first | rw [wcs_is] at N9 | rw [wcs_is2] at N9
  refine hret (tsOf [_, _, _, _, _, _, _, _, _, _, _, _, _, _, _, _, _, _, _, _, _, _, _, _, _, _, _]) _ _ _ _ _ _ _ _ _ _ _ _ _ _ _ ?o1 ?o2 ?o3 ?o4 (by assumption) N9
  all_goals (first | lia | omega)
end
end
section
set_option tactic.hygienic false
section
variable {prog : Program} {w : World} {p : Program} {loose : List Str} {mean : ExcName → Option Value} {mg mb : Str → Option Value} {dp un : Nat} {gd : Option (List Code)} {cn : Str} {cs : Scope} {a : Addr} {ccd : Value} {cl : List (Str × Addr)} {outer : List Env} {A₀ : Around} {base h₀ : Heap} {L : Addr} {m : Str → Option Value} {news rest : List (Addr × Obj)} {s : Shared} {Q E : Value → Shared → Prop}
theorem of_allLt {d : Nat} {l : List (Addr × Obj)} (h : AllLt d l) : ∀ p ∈ l, p.1 < d := by
  induction l with
  | nil => intro p hp; cases hp
  | cons q l ih =>
    intro p hp
    rcases List.mem_cons.mp hp with rfl | hp
    · exact h.1
    · exact ih h.2 p hp
theorem wd_KE3_20 : True := by
  k_with "truthy str" => first | refine truthy_one ?_ | (refine truthy_full (by assumption) (by assumption) ?_)
  trivial
theorem under_make2 (A : Around) (C : Addr) (rest : List Value) (kw : List (Str × Value)) : A.under (.builtin "type.__call__" ⟨.ref C :: rest, kw⟩) = { A with depth := A.depth + 1, units := A.units + 1 } := by cases A; rfl
theorem wd_KE3_21 : True := by
  k_with "ENTERS" => (refine wpAny_call ?_; k_dflt (refine' code_defS ?k1 ?k2 ?k3 ?k4 ?k5 ?XB ?TB ?D ?T0 ?kA ?k6 ?k7 ?k8 ?k9 ?kB ?_ ?cK ?c2 ?c3 ?c4 ?c5; (case kA => exact rfl); (case k2 => k_asm); (case k1 => k_asm); (case XB => assumption); (case TB => assumption); (case D => assumption); (case T0 => first | assumption | exact KtsTurn.refl); (case k3 => k_asm); (case k4 => k_asm); (case k5 => k_asm); (case k6 => k_is); (case k7 => k_is); (case k8 => ktr_room); (case k9 => first | exact binds_K (by k_in) rfl (by k_is) rfl rfl rfl | exact BindsTo.of_eq rfl | fail "kts_go: no rule for these arguments"); (case kB => exact locs rfl); (case cK => assumption); (case c2 => exact rfl); (case c3 => exact rfl); (case c4 => exact rfl); (case c5 => decide); k_whole; intro _ _ _ _ _ _ _ _ _ _; (try dsimp only); (try k_fold)))
  trivial
theorem lex_news {h : Heap} {x dx xi di pb fs : Nat} {ts : Nat → Tok} {t1 t2 t3 t4 tb : Tok} {buf : Str} {st tok line pos : Value} (N : News h₀ L h ((fs, dequeObj) :: (pb, dequeObj) :: (xi, instObj 691 di) :: (di, dictOf (ioE w.params t1 t2 t3 (.str (Str.ofString "\n") t4) (.str buf tb) pos) 3) :: (x, instObj 784 dx) ::
        (dx, dictOf (shI w.params ts xi pb fs true st tok line) 19) :: rest)) : News h₀ L h (led w.params ts x dx xi di pb fs t1 t2 t3 t4 tb buf st tok line pos ((pb, dequeObj) :: (fs, dequeObj) :: rest)) := by
  have e : shE w.params ts xi pb fs st tok line = shI w.params ts xi pb fs true st tok line := rfl
  unfold led
  rw [e]
  exact news_sub N fun p hp => by
    first | (refine sub_use ?_ hp; k_extra "SUB") | (simp only [List.mem_cons, List.mem_append, List.cons_append, List.nil_append] at hp ⊢; grind)
end
end
section
set_option tactic.hygienic false
section
variable {M : Model} {A : Around} {E : Value → Shared → Prop} {s : Shared}
theorem wpAny_choose {src : Source} {n : Nat} {Q : Nat → Shared → Prop} (hn : n ≠ 0) (h : ∀ i, i < n → Q i { s with drawn := s.drawn.bump src }) : wpAny M A (choose src n) Q E s :=
  fun Γ p hΓ => ⟨hn, h _ (Nat.mod_lt _ (Nat.pos_of_ne_zero hn))⟩
theorem erase_perm {α : Type} : ∀ (l : List α) (i : Nat) (h : i < l.length), (l[i] :: l.eraseIdx i).Perm l
  | a :: l, 0, _ => List.Perm.refl _
  | a :: l, i + 1, h => (List.Perm.swap a _ _).trans (List.Perm.cons a (erase_perm l i (Nat.lt_of_succ_lt_succ h)))
theorem drawOrder_perm {α : Type} : ∀ (n : Nat) (xs : List α) (s : Shared) {Q : List α → Shared → Prop}, xs.length = n → (∀ ys d, ys.Perm xs → Q ys { s with drawn := d }) → wpAny M A (drawOrder n xs) Q E s := by
  intro n
  induction n with
  | zero =>
    intro xs s Q hl h
    obtain rfl := List.length_eq_zero_iff.mp hl
    exact wpAny_pure (h [] s.drawn (List.Perm.refl _))
  | succ n ih =>
    intro xs s Q hl h
    cases xs with
    | nil => cases hl
    | cons x xs =>
      show wpAny M A (choose .order (x :: xs).length >>= _) Q E s
      refine wpAny_bind (wpAny_choose (by simp) fun i hi => ?_)
      have he : (x :: xs)[i]? = some ((x :: xs)[i]) := List.getElem?_eq_getElem hi
      rw [he]
      try dsimp only
      refine wpAny_bind (ih _ _ (by rw [List.length_eraseIdx_of_lt hi]; (first | lia | omega)) fun ys d hp => ?_)
      refine wpAny_pure (h _ d ?_)
      exact (List.Perm.cons _ hp).trans (erase_perm _ i hi)
end
end
section
noncomputable def TabOk (L : Bool) (n : Nat) (t : SetTable) : Prop := t.led = L ∧ (n = 0 ∨ t.plain = false)
theorem standIn_led (t : SetTable) (n : Nat) : (t.standIn n).led = t.led := rfl
theorem orStandIn_led (t : SetTable) (n : Nat) : (t.orStandIn n).led = t.led := by
  unfold SetTable.orStandIn
  split <;> rfl
theorem layNew_led (t : SetTable) (es : Array (Int × Value)) (h : Int) (x : Value) : (layNew t es h x).2.1.led = t.led := by
  unfold layNew
  split
  · exact orStandIn_led _ _
  · rfl
theorem laid_led {mask finger moves : Nat} {led plain : Bool} {hs : Array Int} {r : SetTable × Array Nat} (h : SetTable.laid mask finger moves led plain hs = some r) : r.1.led = led := by
  unfold SetTable.laid at h
  obtain ⟨o, _, h⟩ := Option.bind_eq_some_iff.mp h
  cases h
  rfl
theorem laid_plain {mask finger moves : Nat} {led plain : Bool} {hs : Array Int} {r : SetTable × Array Nat} (h : SetTable.laid mask finger moves led plain hs = some r) : r.1.plain = plain := by
  unfold SetTable.laid at h
  obtain ⟨o, _, h⟩ := Option.bind_eq_some_iff.mp h
  cases h
  rfl
theorem relayAll_plain (t : SetTable) (es : Array (Int × Value)) (n : Nat) (hp : t.plain = false) : (relayAll t es n).2.1.plain = false := by
  unfold relayAll
  split
  · rename_i t' order hr
    try dsimp only
    split
    · exact (laid_plain hr).trans hp
    · rfl
  · rfl
theorem relayAll_led (t : SetTable) (es : Array (Int × Value)) (n : Nat) : (relayAll t es n).2.1.led = t.led := by
  unfold relayAll
  split
  · rename_i t' order hr
    try dsimp only
    split
    · exact laid_led hr
    · rfl
  · rfl
section
variable {prog : Program} {w : World} {knd : KeyKind prog w Str} {A : Around} {E : Value → Shared → Prop} {s : Shared}
/-- a set of texts, its table made as L says -/
inductive SetL (knd : KeyKind prog w Str) (L : Bool) (h : Heap) (a : Addr) (S : Str → Bool) (n : Nat) : Prop
  | mk (o : Obj) (es : Array (Int × Value)) (ep : Nat) (t : SetTable) (ho : h.get? a = some o) (hx : o.ExactSet) (hd : o.data = .set es ep t) (he : ElemsOf knd es.toList) (hm : ∀ k, S k = true ↔ ∃ e ∈ es.toList, knd.is k e.2 = true) (hb : es.size < scanBound) (hf : t.fits es.size = true) (hn : es.size = n) (hT : TabOk L n t) : SetL knd L h a S n
theorem SetL.setOf {L : Bool} {h : Heap} {a : Addr} {S : Str → Bool} {n : Nat} (x : SetL knd L h a S n) : h.SetOf knd a S n :=
  let ⟨o, es, ep, t, a1, a2, a3, a4, a5, a6, a7, a8, _⟩ := x
  ⟨o, es, ep, t, a1, a2, a3, a4, a5, a6, a7, a8⟩
theorem storeL {L : Bool} {h : Heap} {a : Addr} {o : Obj} {es : Array (Int × Value)} {ep : Nat} {t : SetTable} (ho : h.get? a = some o) (hex : o.ExactSet) (hd : o.data = .set es ep t)
    {es' : Array (Int × Value)} {t' : SetTable} {S' : Str → Bool} (hel : ElemsOf knd es'.toList) (hmem : ∀ k, S' k = true ↔ ∃ e ∈ es'.toList, knd.is k e.2 = true) (hb : es'.size < scanBound) (hf : t'.fits es'.size = true) (hl : TabOk L es'.size t') :
    (h.update a (Obj.putSet es' t')).get? a = some { o with data := .set es' (ep + 1) t' } ∧ SetL knd L (h.update a (Obj.putSet es' t')) a S' es'.size := by
  obtain ⟨hg, _⟩ := SetOf_store (knd := knd) ho hex hd hel hmem hb hf
  exact ⟨hg, _, es', ep + 1, t', hg, hex, rfl, hel, hmem, hb, hf, rfl, hl⟩
theorem setAddL {L : Bool} {a : Addr} {S : Str → Bool} {n : Nat} {k : Str} {x : Value} {Q : Bool → Shared → Prop} (hkey : knd.is k x = true) (hsc : x.scannable = true) (hpk : plainKind x = false) (hS : SetL knd L s.heap a S n)
    (hroom : n + 1 < scanBound)
    (h : ∀ h', Heap.SameBut a s.heap h' → SetL knd L h' a (fun k' => S k' || decide (k' = k)) (if S k then n else n + 1) → Q (!S k) { s with heap := h' }) :
    wpAny (model prog w) A (setAddHashed a x (knd.hash k)) Q E s := by
  obtain ⟨o, es, ep, t, ho, hex, hd, hel, hmem, hb, hf, hn, hL⟩ := hS
  have hb1 : es.size + 1 < scanBound := by rw [hn]; exact hroom
  unfold setAddHashed setAddHashedIn
  refine wpAny_holding (wpAny_bind (wpAny_setState_of ho hd hf ?_))
  try dsimp only
  rw [byScan_of hsc hb hel]
  simp only [↓reduceIte]
  unfold setAddByScan
  refine wpAny_bind (wpAny_bind (wpAny_rule (wpAny_bind (wpAny_setScan_of hkey ho hd hf hel ?_))))
  cases hr : List.findIdx? (fun e => knd.is k e.2) es.toList with
  | some j =>
    try dsimp only
    obtain ⟨hj, hpj, _⟩ := List.findIdx?_eq_some_iff_getElem.mp hr
    have hSk : S k = true := (hmem k).mpr ⟨es.toList[j], List.getElem_mem hj, hpj⟩
    refine wpAny_pure (wpAny_pure ?_)
    have q := h s.heap (Heap.SameBut.refl a s.heap) ⟨o, es, ep, t, ho, hex, hd, hel, fun k' => by
      rw [Bool.or_eq_true, decide_eq_true_eq, ← hmem k']
      exact ⟨fun hk => hk.elim id (fun e => e ▸ hSk), .inl⟩, hb, hf, by rw [hSk]; exact hn, by rw [if_pos hSk]; exact hL⟩
    rw [hSk] at q
    exact q
  | none =>
    try dsimp only
    have hSk : S k = false := by
      cases hk : S k with
      | false => rfl
      | true => obtain ⟨e, he, hp⟩ := (hmem k).mp hk; have := List.findIdx?_eq_none_iff.mp hr e he; rw [hp] at this; exact Bool.noConfusion this
    have hgw : ∀ (b : Bool) {s₁ : Shared} {Q' : Unit → Shared → Prop}, Q' () s₁ → wpAny (model prog w) A (match b with | true => rule "set.scan.the-table-gave-way" | false => pure ()) Q' E s₁ :=
      fun b s₁ Q' hq => by cases b <;> first | exact wpAny_pure hq | exact wpAny_rule hq
    have hperm := layNew_perm t es (knd.hash k) x
    have hfits := layNew_fits t es (knd.hash k) x
    have hled := layNew_led t es (knd.hash k) x
    rw [hL.1] at hled
    generalize layNew t es (knd.hash k) x = R at hperm hfits hled ⊢
    obtain ⟨es1, t1, wasDummy, gave⟩ := R
    dsimp only at hperm hfits hled ⊢
    rw [Array.toList_push] at hperm
    have hel1 : ElemsOf knd es1.toList := (hel.push hkey hsc).perm hperm
    have hmem1 : ∀ k', (S k' || decide (k' = k)) = true ↔ ∃ e ∈ es1.toList, knd.is k' e.2 = true := mem_push_iff hkey hmem hperm
    have hsz1 : es1.size = n + 1 := by rw [← Array.length_toList, hperm.length_eq, List.length_append, Array.length_toList, hn]; rfl
    have hb1' : es1.size < scanBound := by (first | lia | omega)
    have hend : ∀ h', Heap.SameBut a s.heap h' → SetL knd L h' a (fun k' => S k' || decide (k' = k)) es1.size → Q true { s with heap := h' } := by
      intro h' hsb hS'
      have q := h h' hsb
      rw [hSk] at q
      rw [hsz1] at hS'
      exact q hS'
    have tail : ∀ t2 : SetTable, t2.fits es1.size = true → t2.led = L → t2.plain = false → wpAny (model prog w) A (do
        storeSet a es1 t2
        if (!wasDummy && t2.tooFull) = true then do
            (match (relayAll t2 es1 (SetTable.grown es1.size)).2.2 with | true => rule "set.scan.the-table-gave-way" | false => pure ())
            storeSet a (relayAll t2 es1 (SetTable.grown es1.size)).1 (relayAll t2 es1 (SetTable.grown es1.size)).2.1
            pure (some true)
          else pure (some true)) (fun r s' => r = some true ∧ Q true s') E s := by
      intro t2 hf2 hl2 hpl2
      refine wpAny_bind (wpAny_storeSet_of ho hd ?_ (fits_of_scanBound hb1'))
      obtain ⟨ho1, hS1⟩ := storeL (knd := knd) ho hex hd hel1 hmem1 hb1' hf2 ⟨hl2, .inr hpl2⟩
      have hsb1 := Heap.SameBut.update s.heap a (Obj.putSet es1 t2)
      split
      · have hp := relayAll_perm t2 es1 (SetTable.grown es1.size)
        have hfr := relayAll_fits t2 es1 (SetTable.grown es1.size)
        have hlr := relayAll_led t2 es1 (SetTable.grown es1.size)
        rw [hl2] at hlr
        have hpr := relayAll_plain t2 es1 (SetTable.grown es1.size) hpl2
        generalize relayAll t2 es1 (SetTable.grown es1.size) = R2 at hp hfr hlr hpr ⊢
        obtain ⟨es2, t3, gave2⟩ := R2
        dsimp only at hp hfr hlr hpr ⊢
        have hel2 : ElemsOf knd es2.toList := hel1.perm hp
        have hmem2 : ∀ k', (S k' || decide (k' = k)) = true ↔ ∃ e ∈ es2.toList, knd.is k' e.2 = true := fun k' => (hmem1 k').trans ⟨fun ⟨e, he, q⟩ => ⟨e, hp.mem_iff.mpr he, q⟩, fun ⟨e, he, q⟩ => ⟨e, hp.mem_iff.mp he, q⟩⟩
        have hsz : es2.size = es1.size := by rw [← Array.length_toList, hp.length_eq, Array.length_toList]
        have hb2 : es2.size < scanBound := by rw [hsz]; exact hb1'
        refine wpAny_bind (hgw _ ?_)
        refine wpAny_bind (wpAny_storeSet_of ho1 rfl ?_ (fits_of_scanBound hb2))
        obtain ⟨_, hS2⟩ := storeL (knd := knd) ho1 hex rfl hel2 hmem2 hb2 hfr ⟨hlr, .inr hpr⟩
        rw [hsz] at hS2
        exact wpAny_pure ⟨rfl, hend _ (hsb1.trans (Heap.SameBut.update _ a _)) hS2⟩
      · exact wpAny_pure ⟨rfl, hend _ hsb1 hS1⟩
    refine wpAny_bind (hgw _ ?_)
    split
    · refine wpAny_bind ?_
      rw [hashByValue_scannable 8 hsc]
      refine wpAny_pure ?_
      rw [hpk]
      refine wpAny_mono (tail _ ?_ ?_ rfl) (fun r s' hq => ?_) fun _ _ e => e
      · split
        · exact hfits
        · exact SetTable.fits_plain_off hfits
      · split
        · exact hled
        · exact hled
      · obtain ⟨rfl, hq⟩ := hq
        exact wpAny_pure hq
    · refine wpAny_bind (wpAny_pure ?_)
      simp only [↓reduceIte]
      refine wpAny_mono (tail _ hfits hled (by rename_i hnp; simpa using hnp)) (fun r s' hq => ?_) fun _ _ e => e
      obtain ⟨rfl, hq⟩ := hq
      exact wpAny_pure hq
end
end
section
set_option tactic.hygienic false
section
variable {prog : Program} {w : World} {A : Around} {E : Value → Shared → Prop} {s : Shared}
noncomputable abbrev set0 (led : Bool) : Obj := { cls := .type "set", dict := none, data := .set #[] 0 (.fresh 0 0 led) }
noncomputable abbrev ledOf (w : World) : Bool := !(w.params.followText "set-order")
theorem code_set_newL (a : Value) {Q₁ : Value → Shared → Prop}
    (h : Q₁ (.ref s.heap.objs.size) { s with heap := s.heap.push (set0 (ledOf w)) }) :
    codeAny (model prog w) A (.call (.builtin "set.__new__") ⟨[.type "set", a], []⟩) (wants Q₁ E) s := by
  refine codeAny_of_tree ?_
  show wpAny _ A.in1 (do checkBuiltinCall "set.__new__" ⟨[.type "set", a], []⟩; again (.builtin "set.__new__" ⟨[.type "set", a], []⟩)) _ _ s
  refine wpAny_bind (wpAny_of_eq (PySem.F.newCall_set_1 a) (wpAny_pure ⟨plainId_quiet F.plain_set_new _, codeAny_builtin F.entry_set_new ?_⟩))
  rw [Around.under_plainId F.plain_set_new _]
  unfold Builtin.«set.__new__» Builtin.Frozenset.newClass
  have hsub := sub_set_self
  obtain ⟨hp, g, d, tk, os⟩ := s
  try dsimp only
  wp_walk
  refine wpAny_askSetting (wpAny_pure ?_)
  try dsimp only
  simp only [newObj]
  refine wpAny_bind (wpAny_alloc (wpAny_pure ?_))
  exact wpAny_pure h
theorem call_set1 {v : Value} {Q : Value → Shared → Prop}
    (h : ∀ (R : Result → Shared → Prop), (∀ s', Q (.ref s.heap.objs.size) s' → R (.ok (.ret .none)) s') → (∀ e s', E e s' → R (.error e) s') →
      wpAny (model prog w) A.in1.in1 (Builtin.«set.__init__» ⟨[.ref s.heap.objs.size, v], []⟩)
        (fun fin s' => match fin with | .done f => R (.ok f) s' | .again c' => c'.quiet = true ∧ codeAny (model prog w) A.in1 c' R s') (fun e s' => R (.error e) s') { s with heap := s.heap.push (set0 (ledOf w)) }) :
    wpAny (model prog w) A (call (.type "set") [v]) Q E s := by
  obtain ⟨c, tl, hmro⟩ := F.called_set.mro
  have hmade := F.called_set.made
  have hsub := F.called_set.sub
  refine wpAny_call (codeAny_of_tree ?_)
  show wpAny _ _ (callAny (.type "set") _) _ _ _
  refine wpAny_pure ⟨Code.quiet_builtin _ (by decide +kernel), codeAny_builtin F.entry_type_call ?_⟩
  rw [Around.under_plain (weight_type_call_type "set" [v] []) rfl]
  have h1 := F.called_set.notType
  have h2 := F.called_set.canCreate
  have hct := PySem.F.typeCall_set_1 v
  repeat (any_goals (first | assumption | wp_step))
  refine codeAny_mono (code_set_newL v (E := E) (Q₁ := fun obj s₁ => obj = .ref s.heap.objs.size ∧ s₁ = { s with heap := s.heap.push (set0 (ledOf w)) }) ⟨rfl, rfl⟩) fun r s₁ hr => ?_
  cases r with
  | error e => exact hr
  | ok fl =>
    cases fl with
    | ret obj =>
      obtain ⟨rfl, rfl⟩ := hr
      have hS : (s.heap.push (set0 (ledOf w))).get? s.heap.objs.size = some (set0 (ledOf w)) := Heap.get?_push_size _ rfl
      have hT : Shared.TypeIs { s with heap := s.heap.push (set0 (ledOf w)) } (.ref s.heap.objs.size) "set" := ⟨_, hS, rfl⟩
      have hli := F.called_set.init.lookup
      have hbi := F.called_set.init.bind (.ref s.heap.objs.size)
      repeat (any_goals (first | assumption | wp_step))
      refine codeAny_mono (codeAny_call_builtin (R := wants (fun r s₂ => r = .none ∧ Q (.ref s.heap.objs.size) s₂) E) F.called_set.init.plain F.entry_set_init (check_set_init_1 hT ?_)) fun r₂ s₂ hr₂ => ?_
      · exact h _ (fun s' hq => ⟨rfl, hq⟩) fun e s' he => he
      · cases r₂ with
        | error e => exact hr₂
        | ok fl₂ =>
          cases fl₂ with
          | ret r =>
            obtain ⟨rfl, hq⟩ := hr₂
            repeat (any_goals (first | assumption | wp_step))
          | _ => exact hr₂.elim
    | _ => exact hr.elim
theorem set_loop {Lb : Bool} {S x : Addr} {R : Result → Shared → Prop} {I : Nat → Shared → Prop}
    (turn : ∀ n s, I n s → wpAny (model prog w) A.in1 (pyNext (.ref x)) (fun r s' => match r with
      | none => R (.ok (.ret .none)) s'
      | some v => ∃ k t T n', v = Value.str k t ∧ SetL (strKind prog w) Lb s'.heap S T n' ∧ n' + 1 < scanBound ∧ ∀ h', Heap.SameBut S s'.heap h' → SetL (strKind prog w) Lb h' S (fun k' => T k' || decide (k' = k)) (if T k then n' else n' + 1) → ∃ m, m < n ∧ I m { s' with heap := h', toks := s'.toks + 1 }) (fun e s' => R (.error e) s') s) :
    ∀ n s, I n s → codeAny (model prog w) A (.builtin "set.update.loop" ⟨[.ref S, .ref x], []⟩) R s := by
  intro n
  induction n using Nat.strongRecOn with
  | ind n ih =>
    intro s hI
    refine codeAny_builtin PyProof.Rows.F.entry_set_update_loop ?_
    rw [Around.under_plainId PyProof.Rows.F.plain_set_update_loop _]
    show wpAny _ A.in1 (pyNext (.ref x) >>= _) _ _ s
    refine wpAny_bind (wpAny_mono (turn n s hI) (fun r s' h => ?_) fun _ _ e => e)
    cases r with
    | none => exact wpAny_pure h
    | some v =>
      obtain ⟨k, t, T, n', rfl, hS, hz, hn⟩ := h
      show wpAny _ A.in1 (holding [Value.str k t] (setAdd S (.str k t)) >>= _) _ _ s'
      refine wpAny_bind (wpAny_holding ?_)
      unfold setAdd
      refine wpAny_holding ?_
      have his : (strKind prog w).is k (.str k t) = true := by show Value.isStrOf k (.str k t) = true; simp [Value.isStrOf]
      refine wpAny_bind ((strKind prog w).pyHash (k := k) his ?_)
      refine setAddL (knd := strKind prog w) (s := { s' with toks := s'.toks + 1 }) his rfl rfl hS hz fun h' hsb hS2 => ?_
      obtain ⟨m, hm, hI'⟩ := hn h' hsb hS2
      exact wpAny_pure ⟨plainId_quiet PyProof.Rows.F.plain_set_update_loop _, ih m hm _ hI'⟩
end
end
section
set_option tactic.hygienic false
section
variable {prog : Program} {w : World} {A : Around} {E : Value → Shared → Prop} {s : Shared} {h₀ : Heap} {L : Addr} {m : Str → Option Value} {news : List (Addr × Obj)}
theorem take_mem (ws : List Str) (i : Nat) (x k : Str) (h : ws[i]? = some x) : (decide (k ∈ ws.take i) || decide (k = x)) = decide (k ∈ ws.take (i + 1)) := by
  rw [List.take_add_one, h]
  simp [List.mem_append]
theorem push_facts {o : Obj} {h : Heap} (F : Fr h₀ L h m) (N : News h₀ L h news) : Fr h₀ L (h.push o) m := by
  have hk : ∀ b o', h.get? b = some o' → (h.push o).get? b = some o' := fun b o' e => Heap.get?_push_of_some _ e
  obtain ⟨oL, a1, a2, hL, a3⟩ := F.ns
  exact ⟨⟨oL, a1, a2, hk _ _ hL, a3⟩, fun b o' e => hk _ _ (F.keep b o' e), F.above⟩
/-- a set object of texts -/
inductive SetO (w : World) (knd : KeyKind prog w Str) (o : Obj) (S : Str → Bool) (n : Nat) : Prop
  | mk (es : Array (Int × Value)) (ep : Nat) (t : SetTable) (hx : o.ExactSet) (hd : o.data = .set es ep t) (he : ElemsOf knd es.toList) (hm : ∀ k, S k = true ↔ ∃ e ∈ es.toList, knd.is k e.2 = true) (hb : es.size < scanBound) (hf : t.fits es.size = true) (hn : es.size = n) (hT : n = 0 ∨ (t.led = ledOf w ∧ t.plain = false)) : SetO w knd o S n
theorem SetL.objOf {knd : KeyKind prog w Str} {h : Heap} {a : Addr} {S : Str → Bool} {n : Nat} (x : SetL knd (ledOf w) h a S n) : ∃ o, h.get? a = some o ∧ SetO w knd o S n :=
  let ⟨o, es, ep, t, a1, a2, a3, a4, a5, a6, a7, a8, a9⟩ := x
  ⟨o, a1, es, ep, t, a2, a3, a4, a5, a6, a7, a8, a9.2.elim .inl fun h => .inr ⟨a9.1, h⟩⟩
theorem SetL_congr {knd : KeyKind prog w Str} {L : Bool} {h : Heap} {a : Addr} {S S' : Str → Bool} {n n' : Nat} (x : SetL knd L h a S n) (e : ∀ k, S k = S' k) (en : n = n') : SetL knd L h a S' n' := by
  obtain rfl : S = S' := funext e
  subst en
  exact x
theorem SetL_fresh {knd : KeyKind prog w Str} {h : Heap} {a : Addr} (led : Bool) (e : h.get? a = some (set0 led)) : SetL knd led h a (fun _ => false) 0 :=
  ⟨_, #[], 0, _, e, ⟨rfl, rfl, rfl⟩, rfl, fun e he => by simp at he, fun k => by simp, by unfold scanBound; decide, by rfl, rfl, rfl, .inl rfl⟩
inductive SsInv (prog : Program) (w : World) (l : Addr) (vs : Array Value) (ws : List Str) (s : Shared) (k : Nat) (s' : Shared) : Prop
  | mk (i n' : Nat) (hik : i + k = vs.size) (st : s'.heap.IsListIter (s.heap.push (set0 (ledOf w))).objs.size l i ∧ s'.heap.IsList l vs) (hset : SetL (strKind prog w) (ledOf w) s'.heap s.heap.objs.size (fun x => decide (x ∈ ws.take i)) n') (hn' : n' ≤ i)
      (eg : s'.gens = s.gens) (ed : s'.drawn = s.drawn) (eo : s'.os = s.os) (hkeep : ∀ b o, b < s.heap.objs.size → s.heap.get? b = some o → s'.heap.get? b = some o) : SsInv prog w l vs ws s k s'
theorem set_strs {l : Addr} {vs : Array Value} {c : Nat} {ws : List Str} {Q : Value → Shared → Prop} (F : Fr h₀ L s.heap m) (N : News h₀ L s.heap news) (hm : (l, listOf vs c) ∈ news) (hst : Strs ws vs) (hz : ws.length + 2 < scanBound) (hh : A.handled = none)
    (h : ∀ (S : Nat) o n h' tk', Fr h₀ L h' m → News h₀ L h' ((S, o) :: news) → (∀ p ∈ news, p.1 < S) → SetO w (strKind prog w) o (fun k => decide (k ∈ ws)) n → n ≤ ws.length → Q (.ref S) { s with heap := h', toks := tk' }) :
    wpAny (model prog w) A (call (.type "set") [.ref l]) Q E s := by
  refine call_set1 fun R hok herr => ?_
  have hlt : ∀ p ∈ news, p.1 < s.heap.objs.size := fun p hp => Heap.lt_size (N p hp).1
  have hll : l < s.heap.objs.size := hlt _ hm
  have hS : (s.heap.push (set0 (ledOf w))).get? s.heap.objs.size = some (set0 (ledOf w)) := Heap.get?_push_size _ rfl
  have hol : (s.heap.push (set0 (ledOf w))).get? l = some (listOf vs c) := Heap.get?_push_of_some _ (N _ hm).1
  have hl1 : (s.heap.push (set0 (ledOf w))).IsList l vs := ⟨_, hol, rfl, c, rfl⟩
  have hsls := PySem.F.sub_list_set
  have hslf := PySem.F.sub_list_frozenset
  have hne : (Value.type "list" == Value.type "dict") = false := by decide
  unfold Builtin.«set.__init__» noKeywords Builtin.Frozenset.updateFrom
  generalize hPI : pyIter = PI
  wp_walk
  subst hPI
  refine wpAny_pyIter_list hl1 ?_
  refine wpAny_bind (wpAny_runValue ?_)
  have hh3 : A.in1.in1.in1.handled = none := by simp [hh]
  have hneI : l ≠ (s.heap.push (set0 (ledOf w))).objs.size := by
    rw [Heap.size_push]; exact Nat.ne_of_lt (Nat.lt_succ_of_lt hll)
  have W := (Walks.list (prog := prog) (w := w) (A := A.in1.in1.in1) hh3 _ l hneI vs).toS
  have hsz : vs.size = ws.length := hst.size
  have hIS : (s.heap.push (set0 (ledOf w))).objs.size ≠ s.heap.objs.size := by rw [Heap.size_push]; exact Nat.succ_ne_self _
  refine set_loop (Lb := ledOf w) (I := SsInv prog w l vs ws s) ?_ vs.size _ ?_
  · rintro k s' ⟨i, n', hik, st, hset, hn', eg, ed, eo, hkeep⟩
    cases k with
    | zero =>
      obtain rfl : i = vs.size := by (first | lia | omega)
      refine W.done s' _ _ st fun s'' mv => ?_
      refine wpAny_pure ?_
      show wpAny _ _ (ret Value.none) _ _ _
      refine wpAny_pure ?_
      have hS2 : SetL (strKind prog w) (ledOf w) s''.heap s.heap.objs.size (fun x => decide (x ∈ ws.take vs.size)) n' := by
        obtain ⟨o, es, ep, tb, ho, b2, b3, b4, b5, b6, b7, b8, b9⟩ := hset
        exact ⟨o, es, ep, tb, mv.heap _ _ (by simp only [List.mem_singleton]; exact hIS.symm) ho, b2, b3, b4, b5, b6, b7, b8, b9⟩
      obtain ⟨o, ho, hso⟩ := hS2.objOf
      obtain ⟨hp, g, d, tk, os⟩ := s''
      have eg2 : g = s.gens := Eq.trans mv.gens eg
      have ed2 : d = s.drawn := Eq.trans mv.drawn ed
      have eo2 : os = s.os := Eq.trans mv.os eo
      subst eg2; subst ed2; subst eo2
      have hkp : ∀ b o, b < s.heap.objs.size → s.heap.get? b = some o → hp.get? b = some o := fun b o hb e => by
        refine mv.heap b o ?_ (hkeep b o hb e)
        simp only [List.mem_singleton]
        rw [Heap.size_push]
        exact Nat.ne_of_lt (Nat.lt_succ_of_lt hb)
      have F' : Fr h₀ L hp m := by
        obtain ⟨oL, a1, a2, hL, a3⟩ := F.ns
        exact ⟨⟨oL, a1, a2, hkp _ _ (Heap.lt_size hL) hL, a3⟩, fun b o' e => hkp _ _ (Heap.lt_size (F.keep b o' e)) (F.keep b o' e), F.above⟩
      have N' : News h₀ L hp ((s.heap.objs.size, o) :: news) := by
        intro p hp'
        rcases List.mem_cons.mp hp' with rfl | hp'
        · obtain ⟨oL, _, _, hL, _⟩ := F.ns
          refine ⟨ho, Nat.ne_of_gt (Heap.lt_size hL), ?_⟩
          cases hq : h₀.get? s.heap.objs.size with
          | none => rfl
          | some o' => exact absurd (Heap.lt_size (F.keep _ _ hq)) (Nat.lt_irrefl _)
        · exact ⟨hkp _ _ (hlt p hp') (N p hp').1, (N p hp').2.1, (N p hp').2.2⟩
      have hw : ws.take vs.size = ws := by rw [hsz]; exact List.take_length
      rw [hw] at hso
      exact hok _ (h _ o n' hp tk F' N' hlt hso (by (first | lia | omega)))
    | succ k =>
      refine W.item i s' _ _ (by (first | lia | omega)) st fun v s'' hv st' mv => ?_
      obtain ⟨y, t, rfl, hy⟩ := StrsAre.item hst i v (by rw [Array.getElem?_toList]; exact hv)
      have hS2 : SetL (strKind prog w) (ledOf w) s''.heap s.heap.objs.size (fun x => decide (x ∈ ws.take i)) n' := by
        obtain ⟨o, es, ep, tb, ho, b2, b3, b4, b5, b6, b7, b8, b9⟩ := hset
        exact ⟨o, es, ep, tb, mv.heap _ _ (by simp only [List.mem_singleton]; exact hIS.symm) ho, b2, b3, b4, b5, b6, b7, b8, b9⟩
      refine ⟨y, t, _, n', rfl, hS2, by (first | lia | omega), fun h' hsb hS3 => ⟨k, Nat.lt_succ_self k, i + 1, _, by (first | lia | omega), ?_, SetL_congr hS3 (fun x => take_mem ws i y x hy) rfl, ?_, Eq.trans mv.gens eg, Eq.trans mv.drawn ed, Eq.trans mv.os eo, fun b o hb e => ?_⟩⟩
      · refine W.frame (i + 1) s'' h' _ st' (Nat.le_succ _) fun b hb o e => ?_
        rw [hsb.2 b (fun z : b = s.heap.objs.size => ?_)]
        · exact e
        · simp only [List.mem_cons, List.not_mem_nil, or_false] at hb
          rcases hb with rfl | rfl
          · exact hIS z
          · exact Nat.ne_of_lt hll z
      · split <;> (first | lia | omega)
      · have e2 := mv.heap b o (by
          simp only [List.mem_singleton]
          rw [Heap.size_push]
          exact Nat.ne_of_lt (Nat.lt_succ_of_lt hb)) (hkeep b o hb e)
        show h'.get? b = some o
        rw [hsb.2 b (Nat.ne_of_lt hb)]
        exact e2
  · refine ⟨0, 0, Nat.zero_add _, ⟨?_, hl1.push _⟩, ?_, Nat.le_refl _, rfl, rfl, rfl, fun b o hb e => Heap.get?_push_of_some _ (Heap.get?_push_of_some _ e)⟩
    · exact ⟨_, Heap.get?_push_size _ rfl, rfl, rfl⟩
    · exact SetL_congr (SetL_fresh (knd := strKind prog w) (ledOf w) (Heap.get?_push_of_some _ hS)) (fun k => by simp) rfl
end
end
section
set_option tactic.hygienic false
section
variable {prog : Program} {w : World} {p : Program} {loose : List Str} {mean : ExcName → Option Value} {mg mb : Str → Option Value} {dp un : Nat} {gd : Option (List Code)} {cn : Str} {cs : Scope} {a : Addr} {ccd : Value} {cl : List (Str × Addr)} {outer : List Env} {A₀ : Around} {base h₀ : Heap} {L : Addr} {m : Str → Option Value} {news rest : List (Addr × Obj)} {s : Shared} {Q E : Value → Shared → Prop}
theorem set_strs1 {A : Around} {l : Addr} {vs : Array Value} {c : Nat} {ws : List Str} (F : Fr h₀ L s.heap m) (N : News h₀ L s.heap news) (hm : (l, listOf vs c) ∈ news) (hst : Strs ws vs) (hz : ws.length ≤ 1000) (hh : A.handled = none)
    (h : ∀ (S : Nat) o n h' tk', Fr h₀ L h' m → News h₀ L h' ((S, o) :: news) → (∀ p ∈ news, p.1 < S) → SetO w (strKind prog w) o (fun k => decide (k ∈ ws)) n → n ≤ ws.length → Q (.ref S) { s with heap := h', toks := tk' }) :
    wpAny (model prog w) A (call (.type "set") [.ref l]) Q E s := set_strs F N hm hst (by unfold scanBound; (first | lia | omega)) hh h
theorem wd_KF3_22 : True := by
  k_with "call type:set" => (k_here; k_dflt (refine set_strs1 (by assumption) (by assumption) (by k_mem) (by assumption) (by assumption) rfl ?_); intro _ _ _ _ _ _ _ zl9 _ _; (try k_lt zl9))
  trivial
theorem truthy_lK {A : Around} {Q : Bool → Shared → Prop} {l : Addr} {vs : Array Value} {c : Nat} {b : Bool} (N : News h₀ L s.heap news) (hm : (l, listOf vs c) ∈ news) (hz : vs.size ≤ 1000) (hb : vs.isEmpty = b) (h : Q (!b) { s with toks := s.toks + 1 + 1 }) :
    wpAny (model prog w) A (truthy (.ref l)) Q E s := wpAny_truthy_list ⟨_, (N _ hm).1, rfl, c, rfl⟩ (by first | k_extra "OM" | (first | lia | omega)) (by rw [hb]; exact h)
theorem wd_KF3_23 : True := by
  k_with "truthy ref" => (k_here; (with_reducible show wpAny _ _ (truthy (Value.ref _)) _ _ _); k_dflt (refine truthy_lK (by assumption) (by k_mem) (by assumption) (by assumption) ?_))
  trivial
theorem SetO_fresh (led : Bool) : SetO w (strKind prog w) (set0 led) (fun k => decide (k ∈ ([] : List Str))) 0 :=
  ⟨#[], 0, _, ⟨rfl, rfl, rfl⟩, rfl, fun e he => by simp at he, fun k => by simp, by unfold scanBound; decide, by rfl, rfl, .inl rfl⟩
theorem set0_K {A : Around} {Q : Value → Shared → Prop} (F : Fr h₀ L s.heap m) (N : News h₀ L s.heap news)
    (h : ∀ (S : Nat) o h', Fr h₀ L h' m → News h₀ L h' ((S, o) :: news) → (∀ p ∈ news, p.1 < S) → SetO w (strKind prog w) o (fun k => decide (k ∈ ([] : List Str))) 0 → Q (.ref S) { s with heap := h' }) :
    wpAny (model prog w) A (call (.type "set") []) Q E s := by
  refine call_set_0 fun led => h _ (set0 led) _ (F.push _) (N.push F _) (fun p hp => Heap.lt_size (N p hp).1) ?_
  exact ⟨#[], 0, _, ⟨rfl, rfl, rfl⟩, rfl, fun e he => by simp at he, fun k => by simp, by unfold scanBound; decide, by rfl, rfl, .inl rfl⟩
theorem wd_KF3_24 : True := by
  k_with "call type:set" => (k_here; (with_reducible show wpAny _ _ (call (Value.type "set") [] _) _ _ _); k_dflt (refine set0_K (by assumption) (by assumption) ?_); intro _ _ _ _ _ zl9 _; (try k_lt zl9))
  trivial
noncomputable def igE (P : Params) (k1 k2 k3 : Tok) (S D G : Addr) : List DictEntry := [en P "_mods" k1 (.ref S), en P "_dirs" k2 (.ref D), en P "_ignore" k3 (.ref G)]
theorem wd_KF3_25 : True := by
  k_with "ENTER0" => (k_dflt (refine' code_def ?k1 ?k2 ?k3 ?k4 ?k5 ?kA ?kF ?kK ?k6 ?k7 ?k8 ?k9 ?kB ?_ ?c2 ?c3 ?c4 ?c5; (case kA => exact rfl); (case kF => exact rfl); (case kK => assumption); (case k1 => k_asm); (case k2 => k_asm); (case k3 => k_asm); (case k4 => k_asm); (case k5 => k_asm); (case k6 => k_is); (case k7 => k_is); (case k8 => ktr_room); (case k9 => first | exact BindsTo.of_eq rfl | exact binds_K (by k_in) rfl (by k_is) rfl rfl rfl); (case c5 => decide); (case kB => exact locs rfl); (case c2 => exact rfl); (case c3 => exact rfl); (case c4 => exact rfl); k_whole; intro _ _ _ _ _ _ _ _ _; (try dsimp only); (try k_fold)))
  trivial
theorem ig_init {R : Result → Shared → Prop} {x dx l : Nat} {vs : Array Value} {c : Nat} {ws : List Str} {b : Bool} (hst : Strs ws vs) (hb : vs.isEmpty = b) (hz : ws.length ≤ 1000) (hvz : vs.size ≤ 1000)
    (C : Cx 4 w p loose mean mg mb dp un cs outer A₀ base h₀ L m s.heap ((x, instObj 139 dx) :: (dx, emptyDict) :: (l, listOf vs c) :: rest)) (hx : dx < x) (hl : l < dx) (hr : ∀ p ∈ rest, p.1 < dx)
    (hret : ∀ (S D G : Nat) oS oG n k1 k2 k3 t1 h' tk', x < S → S < D → D < G → Fr h₀ L h' m →
      News h₀ L h' ((G, oG) :: (D, listOf #[] 0) :: (S, oS) :: (x, instObj 139 dx) :: (dx, dictOf (igE w.params k1 k2 k3 S D G) 3) :: (l, listOf vs c) :: rest) →
      SetO w (strKind prog w) oS (fun k => decide (k ∈ ws)) n → n ≤ ws.length → oG.IsDictOf (strKind prog w) [(Str.ofString "<string>", .int 1 t1)] → (G == sysModules) = false → R (.ok (.ret .none)) { s with heap := h', toks := tk' }) :
    codeAny (model prog w) (ktrTop dp un gd cn cs L a ccd cl outer) (.call (.ref 129) ⟨[.ref x, .ref l], []⟩) R s := by
  obtain ⟨B, F, X, N, T, hk, hd, hu⟩ := C
  cases b with
  | false =>
    walk_at "ENTER0"
    k_steps
    rename News h₀ _ _ _ => N9
    refine hret _ _ _ _ _ _ _ _ _ _ _ _ ?_ ?_ ?_ (by assumption) N9 (by assumption) ?_ (by assumption) (by assumption)
    all_goals (first | lia | omega)
  | true =>
    have hws : ws = [] := by
      have h1 := hst.size
      have h2 : vs.size = 0 := by simpa [Array.isEmpty] using hb
      exact List.length_eq_zero_iff.mp (by first | k_extra "OM" | (first | lia | omega))
    subst hws
    walk_at "ENTER0"
    k_steps
    rename News h₀ _ _ _ => N9
    refine hret _ _ _ _ _ 0 _ _ _ _ _ _ ?_ ?_ ?_ (by assumption) N9 (SetO_fresh _) (Nat.zero_le _) (by assumption) (by assumption)
    all_goals (first | lia | omega)
end
end
section
set_option tactic.hygienic false
section
variable {prog : Program} {w : World} {p : Program} {loose : List Str} {mean : ExcName → Option Value} {mg mb : Str → Option Value} {dp un : Nat} {gd : Option (List Code)} {cn : Str} {cs : Scope} {a : Addr} {ccd : Value} {cl : List (Str × Addr)} {outer : List Env} {A₀ : Around} {base h₀ : Heap} {L : Addr} {m : Str → Option Value} {news rest : List (Addr × Obj)} {s : Shared} {Q E : Value → Shared → Prop}
theorem isStr (k : Str) (t : Tok) : (strKind prog w).is k (.str k t) = true := by show Value.isStrOf k (.str k t) = true; simp [Value.isStrOf]
theorem SetO.setOf {h : Heap} {a : Addr} {o : Obj} {S : Str → Bool} {n : Nat} (x : SetO w (strKind prog w) o S n) (e : h.get? a = some o) : h.SetOf (strKind prog w) a S n :=
  let ⟨es, ep, t, a2, a3, a4, a5, a6, a7, a8, _⟩ := x
  ⟨o, es, ep, t, e, a2, a3, a4, a5, a6, a7, a8⟩
theorem in_setK {A : Around} {Q : Value → Shared → Prop} {S : Addr} {o : Obj} {T : Str → Bool} {n : Nat} {k : Str} {t : Tok} (N : News h₀ L s.heap news) (hm : (S, o) ∈ news) (hso : SetO w (strKind prog w) o T n)
    (h : ∀ tk, Q (.bool (T k)) { s with toks := tk }) : wpAny (model prog w) A (compareOp .In (.str k t) (.ref S)) Q E s := by
  refine wpAny_inSet_of (isStr k t) rfl (hso.setOf (N _ hm).1) ?_
  exact h _
end
end
section
set_option tactic.hygienic false
theorem setDrawn_eq (a : Addr) : setDrawn a = (do
    let (es, _, t) ← setState a
    let byText ← setsByText
    return !byText && (!t.plain && decide (es.size > 1))) := rfl
theorem setNext_eq (a : Addr) (slot given epochThen : Nat) : setNext a slot given epochThen = (do
    let (es, epoch, t) ← setState a
    if ← setsByText then
      if epoch != epochThen then unsupported "set_iterator.__next__:elements-changed"
      return ((← setWalk a)[given]?).map fun e => (e.2, slot)
    if !t.plain && decide (es.size > 1) then unsupported "set_iterator.__next__:the-table-is-plain-no-more"
    (if !t.led && !es.isEmpty then unsupported "set:maker-not-led" else pure () : Sem Unit) >>= fun _ => do
      let i := SetTable.below t.place slot
      return match es[i]?, t.place[i]? with
        | some (_, x), some j => some (x, j + 1)
        | _, _ => none) := rfl
section
variable {prog : Program} {w : World} {A : Around} {E : Value → Shared → Prop} {s : Shared}
theorem setDrawn_to {a : Addr} {o : Obj} {es : Array (Int × Value)} {ep : Nat} {t : SetTable} {Q : Bool → Shared → Prop} (ho : s.heap.get? a = some o) (hd : o.data = .set es ep t) (hf : t.fits es.size = true)
    (h : Q (!(w.params.followText "set-order") && (!t.plain && decide (es.size > 1))) s) : wpAny (model prog w) A (setDrawn a) Q E s := by
  rw [setDrawn_eq]
  refine wpAny_bind (wpAny_setState_of ho hd hf ?_)
  try dsimp only
  unfold setsByText
  refine wpAny_bind (wpAny_bind (wpAny_askSetting (wpAny_pure ?_)))
  exact wpAny_pure h
end
end
section
set_option maxRecDepth 1000000
set_option maxHeartbeats 4000000
set_option tactic.hygienic false
theorem slot_si_next : Slot "set_iterator" "__next__" "set_iterator.__next__" :=
  .of (owner := "set_iterator") (n := "__next__") (by rw [typeLookup_type, builtinLookup_eq_fast]; kernel_rfl) (by decide +kernel) (by decide +kernel) (by decide +kernel)
    (by first | exact .inl (by decide +kernel) | exact .inr (by decide +kernel)) (by rw [isSubtype_type]; kernel_rfl)
theorem entry_si_next : entryFor table "set_iterator.__next__" = some Builtin.«set_iterator.__next__» := entryFor_of_tree (by kernel_rfl)
theorem args_si_next (a : Value) : argsOk "set_iterator.__next__" ⟨[a], []⟩ := by unfold argsOk; kernel_rfl
theorem entry_set_iter : entryFor table "set.__iter__" = some Builtin.«frozenset.__iter__» :=
  entryFor_alias (id' := "frozenset.__iter__") (by kernel_rfl) (by first | rfl | decide +kernel) (by decide +kernel) (by kernel_rfl)
theorem args_set_iter (a : Value) : argsOk "set.__iter__" ⟨[a], []⟩ := by unfold argsOk; kernel_rfl
end
section
set_option tactic.hygienic false
section
variable {prog : Program} {w : World} {A : Around} {E : Value → Shared → Prop} {s : Shared}
noncomputable abbrev siObj (first : Value) (i : Nat) (a : Addr) (n ep : Nat) : Obj := { cls := .type "set_iterator", data := .fields #[first, .int i 0, .ref a, .int n 0, .int ep 0] }
theorem iter_set {a : Addr} {o : Obj} {es : Array (Int × Value)} {ep : Nat} {t : SetTable} {Q : Value → Shared → Prop} (ho : s.heap.get? a = some o) (hex : o.ExactSet) (hd : o.data = .set es ep t) (hf : t.fits es.size = true) (hz : es.size ≤ 1000)
    (h1 : (!(w.params.followText "set-order") && (!t.plain && decide (es.size > 1))) = false → Q (.ref s.heap.objs.size) { s with heap := s.heap.push (siObj (.int 0 0) 0 a es.size ep) })
    (h2 : (!(w.params.followText "set-order") && (!t.plain && decide (es.size > 1))) = true → ∀ (ys : List Nat) d, ys.Perm (List.range es.size) →
      Q (.ref (s.heap.objs.size + 1)) { s with heap := (s.heap.push { cls := .type "tuple", data := .seq (ys.map fun i => Value.int ((i : Nat) : Int) 0).toArray }).push (siObj (.ref s.heap.objs.size) 0 a es.size ep), drawn := d }) :
    wpAny (model prog w) A (pyIter (.ref a)) Q E s := by
  have hT : s.TypeIs (.ref a) "set" := ⟨o, ho, hex.1⟩
  refine wpAny_pyIter_slot hT PySem.F.slot_set_iter (wpAny_call_entry PySem.F.slot_set_iter hT entry_set_iter ?_ (args_set_iter _))
  unfold Builtin.«frozenset.__iter__»
  refine wpAny_bind (wpAny_of_eq (a := a) (by rfl) ?_)
  unfold Builtin.Frozenset.sizeOf setEntries
  refine wpAny_bind (wpAny_bind (wpAny_bind (wpAny_setState_of ho hd hf (wpAny_pure (wpAny_pure ?_)))))
  refine wpAny_bind (setDrawn_to ho hd hf ?_)
  cases hc : (!(w.params.followText "set-order") && (!t.plain && decide (es.size > 1))) with
  | false =>
    try dsimp only
    rw [if_neg (by decide)]
    refine wpAny_bind (wpAny_pure ?_)
    refine wpAny_bind (wpAny_setEpoch_of ho hd hf ?_)
    exact wpAny_bind (wpAny_newObj_type (wpAny_pure ⟨_, rfl, "set_iterator", _, ⟨_, Heap.get?_push_size _ rfl, rfl⟩, slot_si_next.lookup, h1 hc⟩))
  | true =>
    try dsimp only
    rw [if_pos rfl]
    refine wpAny_bind (drawOrder_perm _ _ _ (List.length_range) fun ys d hp => ?_)
    have hl : ys.length = es.size := by rw [hp.length_eq, List.length_range]
    have hz9 : ((ys.map fun i => rawInt ((i : Nat) : Int)) : List Value).length ≤ sizeLine := by
      rw [List.length_map, sizeLine_eq]; (first | lia | omega)
    refine wpAny_bind (wpAny_newObj_type ?_ (by first | exact hz9 | simpa using hz9))
    have ho' : (s.heap.push { cls := .type "tuple", data := .seq (ys.map fun i => rawInt ((i : Nat) : Int)).toArray }).get? a = some o := Heap.get?_push_of_some _ ho
    refine wpAny_bind (wpAny_setEpoch_of ho' hd hf ?_)
    refine wpAny_bind (wpAny_newObj_type (wpAny_pure ⟨_, rfl, "set_iterator", _, ⟨_, Heap.get?_push_size _ rfl, rfl⟩, slot_si_next.lookup, ?_⟩))
    have q := h2 hc ys d hp
    have e : (s.heap.push { cls := .type "tuple", data := .seq (ys.map fun i => Value.int ((i : Nat) : Int) 0).toArray }).objs.size = s.heap.objs.size + 1 := Heap.size_push _ _
    rw [← e] at q
    exact q
end
end
section
set_option tactic.hygienic false
section
variable {prog : Program} {w : World} {A : Around} {E : Value → Shared → Prop} {s : Shared}
theorem siEnd_upd {fs : Array Value} {it : Addr} {h : Heap} {k : Nat} {x : Value} (hit : h.get? it = some { cls := .type "set_iterator", data := .fields fs }) :
    (h.update it (Obj.mapFields (·.setIfInBounds k x))).get? it = some { cls := .type "set_iterator", data := .fields (fs.setIfInBounds k x) } :=
  Heap.get?_update_self _ hit rfl
theorem siRaise {it : Addr} {fs : Array Value} {Q : Option Value → Shared → Prop} {Qf : Fin → Shared → Prop} (hh : A.handled = none) (hit : s.heap.get? it = some { cls := .type "set_iterator", data := .fields fs }) (hz : 2 < fs.size)
    (hQ : ∀ h', Heap.ExtBut it s.heap h' → Q none { s with heap := h' }) :
    wpAny (model prog w) A.in1 (do setField (.ref it) 2 .none; raiseNew (← newExc (.type "StopIteration") [])) Qf (fun e s' =>
      wpAny (model prog w) A
        (do
          let __do_lift ← isInstance e (Value.type "StopIteration")
          if __do_lift = true then pure none else throw e)
        Q E s') s := by
  refine wpAny_bind (wpAny_setField hit rfl hz ?_)
  refine wpAny_bind ?_
  simp only [newExc, newTuple]
  refine wpAny_bind (wpAny_newObj_type ?_ (by size_fits))
  refine wpAny_bind (m := firstArgMember _ _) (wpAny_of_eq (a := Value.none) (by first | rfl | (simp only [firstArgMember]; rfl)) ?_)
  refine wpAny_newObj_type ?_ (by size_fits)
  simp only [raiseNew]
  refine wpAny_bind (wpAny_handled ?_)
  rw [show A.in1.handled = none from hh]
  refine wpAny_bind (wpAny_pure (wpAny_throw ?_))
  refine wpAny_bind (wpAny_isInstance (T := "StopIteration") (b := true) ⟨_, Heap.get?_push_size _ rfl, rfl⟩ isSubtype_stop ?_)
  exact wpAny_pure (hQ _ (((Heap.SameBut.update ..).extBut.push _).push _))
theorem si_int {i slot : Nat} {a it : Addr} {ep : Nat} {o : Obj} {es : Array (Int × Value)} {t : SetTable} {Q : Option Value → Shared → Prop} (hh : A.handled = none)
    (hit : s.heap.get? it = some (siObj (.int slot 0) i a es.size ep)) (ho : s.heap.get? a = some o) (hd : o.data = .set es ep t) (hf : t.fits es.size = true)
    (r : Option (Value × Nat)) (hr : ∀ {E' : Value → Shared → Prop} {Q' : Option (Value × Nat) → Shared → Prop}, Q' r s → wpAny (model prog w) A.in1 (setNext a slot i ep) Q' E' s)
    (hQ : ∀ x nx, r = some (x, nx) → ∀ h', h'.get? it = some (siObj (.int nx 0) (i + 1) a es.size ep) → Heap.SameBut it s.heap h' → Q (some x) { s with heap := h' })
    (hE : r = none → ∀ h', Heap.ExtBut it s.heap h' → Q none { s with heap := h' }) :
    wpAny (model prog w) A (pyNext (.ref it)) Q E s := by
  have hT : s.TypeIs (.ref it) "set_iterator" := ⟨_, hit, rfl⟩
  unfold pyNext
  refine wpAny_bind (wpAny_attempt (wpAny_callSpecial?_slot (name := Str.ofString "__next__") hT slot_si_next
    (wpAny_call_entry slot_si_next hT entry_si_next ?_ (args_si_next _))))
  unfold Builtin.«set_iterator.__next__»
  refine wpAny_bind (wpAny_of_eq (a := (Value.ref it, [])) (by rfl) ?_)
  refine wpAny_bind (wpAny_fieldsOf hit rfl ?_)
  try dsimp only
  unfold setEntries
  refine wpAny_bind (wpAny_bind (wpAny_setState_of ho hd hf (wpAny_pure ?_)))
  try dsimp only
  rw [if_neg (by simp)]
  refine wpAny_bind (hr ?_)
  cases r with
  | none => exact siRaise hh hit (by simp) fun h' he => hE rfl h' he
  | some r =>
    obtain ⟨x, nx⟩ := r
    try dsimp only
    refine wpAny_bind (wpAny_setField hit rfl (by simp) ?_)
    have h1 := siEnd_upd (k := 0) (x := rawInt nx) hit
    refine wpAny_bind (wpAny_setField h1 rfl (by simp) ?_)
    have h2 := siEnd_upd (k := 1) (x := rawInt ((i : Int) + 1)) h1
    refine wpAny_pure ⟨x, rfl, wpAny_pure (hQ x nx rfl _ ?_ ((Heap.SameBut.update ..).trans (Heap.SameBut.update ..)))⟩
    rw [h2]
    rfl
theorem si_ref {i : Nat} {a it T : Addr} {ep : Nat} {o oT : Obj} {es : Array (Int × Value)} {t : SetTable} {js : List Nat} {c : Nat} {Q : Option Value → Shared → Prop} (hh : A.handled = none)
    (hit : s.heap.get? it = some (siObj (.ref T) i a es.size ep)) (ho : s.heap.get? a = some o) (hd : o.data = .set es ep t) (hf : t.fits es.size = true)
    (hT9 : s.heap.get? T = some oT) (hTd : oT.data = .seq (js.map fun i => Value.int ((i : Nat) : Int) 0).toArray c)
    (hQ : ∀ j h x, js[i]? = some j → es[j]? = some (h, x) → ∀ h', h'.get? it = some (siObj (.ref T) (i + 1) a es.size ep) → Heap.SameBut it s.heap h' → Q (some x) { s with heap := h' })
    (hj : ∀ j, js[i]? = some j → j < es.size)
    (hE : js[i]? = none → ∀ h', Heap.ExtBut it s.heap h' → Q none { s with heap := h' }) :
    wpAny (model prog w) A (pyNext (.ref it)) Q E s := by
  have hT : s.TypeIs (.ref it) "set_iterator" := ⟨_, hit, rfl⟩
  unfold pyNext
  refine wpAny_bind (wpAny_attempt (wpAny_callSpecial?_slot (name := Str.ofString "__next__") hT slot_si_next
    (wpAny_call_entry slot_si_next hT entry_si_next ?_ (args_si_next _))))
  unfold Builtin.«set_iterator.__next__»
  refine wpAny_bind (wpAny_of_eq (a := (Value.ref it, [])) (by rfl) ?_)
  refine wpAny_bind (wpAny_fieldsOf hit rfl ?_)
  try dsimp only
  unfold setEntries
  refine wpAny_bind (wpAny_bind (wpAny_setState_of ho hd hf (wpAny_pure ?_)))
  try dsimp only
  rw [if_neg (by simp)]
  refine wpAny_bind (wpAny_seqItems hT9 hTd ?_)
  try dsimp only
  have hget : ((js.map fun i => Value.int ((i : Nat) : Int) 0).toArray)[(i : Int).toNat]? = (js[i]?).map fun i => Value.int ((i : Nat) : Int) 0 := by simp
  rw [hget]
  cases hji : js[i]? with
  | none =>
    refine wpAny_bind (wpAny_setField hit rfl (by simp) ?_)
    have h1 := siEnd_upd (k := 0) (x := rawInt 0) hit
    refine siRaise hh h1 (by simp) fun h' he => hE hji h' ?_
    exact fun b o' hb e => he b o' hb ((Heap.SameBut.update s.heap it _).extBut b o' hb e)
  | some j =>
    try dsimp only [Option.map]
    refine wpAny_bind ?_
    unfold setNextDrawn
    refine wpAny_bind (wpAny_setState_of ho hd hf ?_)
    try dsimp only
    rw [if_neg (by simp)]
    have hlt := hj j hji
    have e2 : es[(j : Int).toNat]? = some es[j] := by simp [hlt]
    rw [e2]
    refine wpAny_pure ?_
    refine wpAny_bind (wpAny_setField hit rfl (by simp) ?_)
    have h1 := siEnd_upd (k := 1) (x := rawInt ((i : Int) + 1)) hit
    refine wpAny_pure ⟨_, rfl, wpAny_pure (hQ j es[j].1 es[j].2 hji (by simp [hlt]) _ ?_ (Heap.SameBut.update ..))⟩
    rw [h1]
    rfl
theorem setNext_text {a slot : Nat} {i ep : Nat} {o : Obj} {es : Array (Int × Value)} {t : SetTable} (hb : w.params.followText "set-order" = true) (ho : s.heap.get? a = some o) (hd : o.data = .set es ep t) (hf : t.fits es.size = true)
    {Q' : Option (Value × Nat) → Shared → Prop} (h : Q' (((pickOrder (w.params.setOrder a ep) es)[i]?).map fun e => (e.2, slot)) s) : wpAny (model prog w) A (setNext a slot i ep) Q' E s := by
  rw [setNext_eq]
  have hb' : ({ program := (model prog w).prog, params := (model prog w).w.params } : Setting).params.followText "set-order" = w.params.followText "set-order" := rfl
  rw [hb] at hb'
  refine wpAny_bind (wpAny_setState_of ho hd hf ?_)
  try dsimp only
  unfold setsByText
  refine wpAny_bind (wpAny_bind (wpAny_askSetting (wpAny_pure ?_)))
  rw [if_pos hb', if_neg (by simp)]
  unfold setWalk
  refine wpAny_bind (wpAny_bind (wpAny_setState_of ho hd hf ?_))
  try dsimp only
  unfold setsByText
  refine wpAny_bind (wpAny_bind (wpAny_askSetting (wpAny_pure ?_)))
  rw [if_pos hb']
  refine wpAny_bind (wpAny_askSetting ?_)
  exact wpAny_pure (wpAny_pure h)
theorem setNext_plain {a slot : Nat} {i ep : Nat} {o : Obj} {es : Array (Int × Value)} {t : SetTable} (hb : w.params.followText "set-order" = false) (ho : s.heap.get? a = some o) (hd : o.data = .set es ep t) (hf : t.fits es.size = true)
    (hp : (!t.plain && decide (es.size > 1)) = false) (hl : (!t.led && !es.isEmpty) = false)
    {Q' : Option (Value × Nat) → Shared → Prop} (h : Q' (match es[SetTable.below t.place slot]?, t.place[SetTable.below t.place slot]? with
        | some (_, x), some j => some (x, j + 1)
        | _, _ => none) s) : wpAny (model prog w) A (setNext a slot i ep) Q' E s := by
  rw [setNext_eq]
  have hb' : ({ program := (model prog w).prog, params := (model prog w).w.params } : Setting).params.followText "set-order" = w.params.followText "set-order" := rfl
  rw [hb] at hb'
  refine wpAny_bind (wpAny_setState_of ho hd hf ?_)
  try dsimp only
  unfold setsByText
  refine wpAny_bind (wpAny_bind (wpAny_askSetting (wpAny_pure ?_)))
  rw [if_neg (by rw [hb']; decide), hp]
  simp only [Bool.false_eq_true, if_false]
  rw [hl]
  simp only [Bool.false_eq_true, if_false]
  refine wpAny_bind (wpAny_pure ?_)
  exact wpAny_pure h
end
end
section
set_option tactic.hygienic false
theorem slot_si_iter : Slot "set_iterator" "__iter__" "set_iterator.__iter__" :=
  .of (owner := "set_iterator") (n := "__iter__") (by rw [typeLookup_type, builtinLookup_eq_fast]; kernel_rfl) (by decide +kernel) (by decide +kernel) (by decide +kernel)
    (by first | exact .inl (by decide +kernel) | exact .inr (by decide +kernel)) (by rw [isSubtype_type]; kernel_rfl)
theorem entry_si_iter : entryFor table "set_iterator.__iter__" = some Builtin.«dict_keyiterator.__iter__» :=
  entryFor_alias (id' := "dict_keyiterator.__iter__") (by kernel_rfl) (by first | rfl | decide +kernel) (by decide +kernel) (by kernel_rfl)
theorem args_si_iter (a : Value) : argsOk "set_iterator.__iter__" ⟨[a], []⟩ := by unfold argsOk; kernel_rfl
theorem pickGo_perm {α : Type} (nx : Nat → Nat) : ∀ (n k : Nat) (left : List α) (out : Array α), left.length = n → (pickOrder.go nx n k left out).toList.Perm (out.toList ++ left) := by
  intro n
  induction n with
  | zero =>
    intro k left out h
    obtain rfl := List.length_eq_zero_iff.mp h
    simp [pickOrder.go]
  | succ n ih =>
    intro k left out h
    have hlt : nx k % left.length < left.length := Nat.mod_lt _ (by (first | lia | omega))
    have e : left[nx k % left.length]? = some left[nx k % left.length] := List.getElem?_eq_getElem hlt
    unfold pickOrder.go
    rw [e]
    try dsimp only
    refine (ih _ _ _ (by rw [List.length_eraseIdx_of_lt hlt]; (first | lia | omega))).trans ?_
    rw [Array.toList_push, List.append_assoc]
    exact List.Perm.append_left _ (erase_perm left _ hlt)
theorem pick_perm {α : Type} (nx : Nat → Nat) (es : Array α) : (pickOrder nx es).toList.Perm es.toList := by
  have := pickGo_perm nx es.size 0 es.toList #[] (by simp)
  simpa [pickOrder] using this
noncomputable def sval : Value → Str
  | .str x _ => x
  | _ => Str.ofString ""
section
variable {prog : Program} {w : World} {A : Around} {E : Value → Shared → Prop} {s : Shared} {h₀ : Heap} {L : Addr} {m : Str → Option Value} {news : List (Addr × Obj)}
theorem elem_str {es : List (Int × Value)} (hel : ElemsOf (strKind prog w) es) {e : Int × Value} (he : e ∈ es) : ∃ t, e.2 = .str (sval e.2) t := by
  obtain ⟨⟨k, hk, _⟩, _⟩ := hel e he
  obtain ⟨t, ht⟩ := Value.isStrOf_shape (x := k) (v := e.2) hk
  exact ⟨t, by rw [ht]; rfl⟩
theorem perm_mem {T : Str → Bool} {es : List (Int × Value)} {ls : List (Int × Value)} (hel : ElemsOf (strKind prog w) es) (hmem : ∀ k, T k = true ↔ ∃ e ∈ es, (strKind prog w).is k e.2 = true) (hp : ls.Perm es) (x : Str) :
    x ∈ ls.map (fun e => sval e.2) ↔ T x = true := by
  rw [hmem x, List.mem_map]
  constructor
  · rintro ⟨e, he, rfl⟩
    have he' := hp.mem_iff.mp he
    obtain ⟨t, ht⟩ := elem_str hel he'
    refine ⟨e, he', ?_⟩
    show Value.isStrOf _ e.2 = true
    rw [ht]
    simp [Value.isStrOf, sval]
  · rintro ⟨e, he, hk⟩
    obtain ⟨t, ht⟩ := Value.isStrOf_shape (x := x) (v := e.2) hk
    exact ⟨e, hp.mem_iff.mpr he, by rw [ht]; rfl⟩
theorem si_self {it : Addr} {fs : Array Value} {Q : Value → Shared → Prop} (hit : s.heap.get? it = some { cls := .type "set_iterator", data := .fields fs }) (h : Q (.ref it) s) : wpAny (model prog w) A (pyIter (.ref it)) Q E s := by
  have hT : s.TypeIs (.ref it) "set_iterator" := ⟨_, hit, rfl⟩
  refine wpAny_pyIter_slot hT slot_si_iter (wpAny_call_entry slot_si_iter hT entry_si_iter ?_ (args_si_iter _))
  show wpAny _ _ (ret (.ref it)) _ _ s
  exact wpAny_pure ⟨_, rfl, "set_iterator", _, hT, slot_si_next.lookup, h⟩
theorem iter_setK {S : Nat} {o : Obj} {T : Str → Bool} {n : Nat} {Q : Value → Shared → Prop} (hso : SetO w (strKind prog w) o T n) (hz : n ≤ 1000) (F : Fr h₀ L s.heap m) (N : News h₀ L s.heap news) (hm : (S, o) ∈ news) (hh : A.handled = none)
    (h : ∀ (I : Nat) (items : List Str) fp St d h', Walks prog w A I fp [I] items.length (fun i v => ∃ x t, items[i]? = some x ∧ v = .str x t) St → (∀ x, x ∈ items ↔ T x = true) → St 0 h' → Fr h₀ L h' m → News h₀ L h' news → L ∉ fp → h₀.get? I = none → (∀ p ∈ news, p.1 < I) →
      Q (.ref I) { s with heap := h', drawn := d }) : wpAny (model prog w) A (pyIter (.ref S)) Q E s := by
  obtain ⟨es, ep, t, hex, hd, hel, hmem, hb, hf, hn, hled⟩ := hso
  have ho := (N _ hm).1
  have hlt : ∀ p ∈ news, p.1 < s.heap.objs.size := fun p hp => Heap.lt_size (N p hp).1
  have hS : S < s.heap.objs.size := hlt _ hm
  have hSL : L ≠ S := fun e => (N _ hm).2.1 e.symm
  have hLs : L < s.heap.objs.size := F.ns.lt
  have hz9 : es.size ≤ 1000 := by (first | lia | omega)
  refine iter_set ho hex hd hf hz9 (fun hc => ?_) (fun hc ys d hp => ?_)
  · have ho' : (s.heap.push (siObj (.int 0 0) 0 S es.size ep)).get? S = some o := Heap.get?_push_of_some _ ho
    have hI : (s.heap.push (siObj (.int 0 0) 0 S es.size ep)).get? s.heap.objs.size = some (siObj (.int 0 0) 0 S es.size ep) := Heap.get?_push_size _ rfl
    cases hb' : w.params.followText "set-order" with
    | true =>
      have hpp := pick_perm (w.params.setOrder S ep) es
      refine h s.heap.objs.size ((pickOrder (w.params.setOrder S ep) es).toList.map fun e => sval e.2) [s.heap.objs.size, S]
        (fun i h' => h'.get? s.heap.objs.size = some (siObj (.int 0 0) i S es.size ep) ∧ h'.get? S = some o) s.drawn _ ?_ (perm_mem hel hmem hpp) ⟨hI, ho'⟩ (F.push _) (fun p hp => ⟨Heap.get?_push_of_some _ (N p hp).1, (N p hp).2⟩) ?_ (next_is_new F) hlt
      · refine ⟨fun b hb => by simp at hb; simp [hb], fun i h h' st hk => ⟨hk _ (by simp) _ st.1, hk _ (by simp) _ st.2⟩, fun i s' Q' E' hi st hQ => ?_, fun s' Q' E' st hQ => ?_, fun i s' Q' E' st hQ => si_self st.1 hQ⟩
        · have hi' : i < (pickOrder (w.params.setOrder S ep) es).size := by simpa using hi
          have he9 : (pickOrder (w.params.setOrder S ep) es)[i] ∈ es.toList := hpp.mem_iff.mp (by simp [Array.getElem_mem])
          obtain ⟨t9, ht9⟩ := elem_str hel he9
          refine si_int hh (slot := 0) st.1 st.2 hd hf _ (fun hq => setNext_text hb' st.2 hd hf hq) (fun x nx hr h' hit hsb => ?_) (fun hr => ?_)
          · rw [Array.getElem?_eq_getElem hi'] at hr
            simp only [Option.map_some, Option.some.injEq, Prod.mk.injEq] at hr
            obtain ⟨rfl, rfl⟩ := hr
            exact hQ _ h' s'.toks ⟨_, t9, by simp [hi'], ht9⟩ ⟨hit, by rw [hsb.2 S (Nat.ne_of_lt hS)]; exact st.2⟩ fun b o' hb e => by rw [hsb.2 b (by simpa using hb)]; exact e
          · rw [Array.getElem?_eq_getElem hi'] at hr
            cases hr
        · refine si_int hh (slot := 0) st.1 st.2 hd hf _ (fun hq => setNext_text hb' st.2 hd hf hq) (fun x nx hr h' hit hsb => ?_) (fun hr h' he => hQ h' s'.toks fun b o' hb e => he b o' (by simpa using hb) e)
          have : (pickOrder (w.params.setOrder S ep) es)[((pickOrder (w.params.setOrder S ep) es).toList.map fun e => sval e.2).length]? = none := by simp
          rw [this] at hr
          cases hr
      · simp only [List.mem_cons, List.not_mem_nil, or_false, not_or]
        exact ⟨Nat.ne_of_lt hLs, hSL⟩
    | false =>
      have hc1 : (!t.plain && decide (es.size > 1)) = false := by rw [hb'] at hc; simpa using hc
      have hn1 : es.size ≤ 1 := by
        rcases hled with h0 | ⟨_, hp⟩
        · (first | lia | omega)
        · rw [hp] at hc1; simp at hc1; (first | lia | omega)
      have hl1 : (!t.led && !es.isEmpty) = false := by
        rcases hled with h0 | ⟨hl, _⟩
        · have h00 : es.size = 0 := by (first | lia | omega)
          have : es.isEmpty = true := by simp [Array.isEmpty, h00]
          simp [this]
        · rw [hl]; simp [ledOf, hb']
      have hps : t.place.size = es.size := by
        have := hf
        unfold SetTable.fits at this
        simp at this
        exact this.1
      refine h s.heap.objs.size (es.toList.map fun e => sval e.2) [s.heap.objs.size, S]
        (fun i h' => h'.get? s.heap.objs.size = some (siObj (.int (((if i = 0 then 0 else t.place.getD 0 0 + 1) : Nat) : Int) 0) i S es.size ep) ∧ h'.get? S = some o) s.drawn _ ?_ (perm_mem hel hmem (List.Perm.refl _)) ⟨hI, ho'⟩ (F.push _) (fun p hp => ⟨Heap.get?_push_of_some _ (N p hp).1, (N p hp).2⟩) ?_ (next_is_new F) hlt
      · refine ⟨fun b hb => by simp at hb; simp [hb], fun i h h' st hk => ⟨hk _ (by simp) _ st.1, hk _ (by simp) _ st.2⟩, fun i s' Q' E' hi st hQ => ?_, fun s' Q' E' st hQ => ?_, fun i s' Q' E' st hQ => si_self st.1 hQ⟩
        · have hi' : i < es.size := by simpa using hi
          obtain rfl : i = 0 := by (first | lia | omega)
          have hs1 : es.size = 1 := by (first | lia | omega)
          have he9 : es[0] ∈ es.toList := by simp
          obtain ⟨t9, ht9⟩ := elem_str hel he9
          have hb0 : SetTable.below t.place 0 = 0 := by
            unfold SetTable.below
            rw [hps, hs1]
            rfl
          refine si_int hh (slot := 0) st.1 st.2 hd hf _ (fun hq => setNext_plain hb' st.2 hd hf hc1 hl1 hq) (fun x nx hr h' hit hsb => ?_) (fun hr => ?_)
          · rw [hb0, Array.getElem?_eq_getElem hi', Array.getElem?_eq_getElem (by (first | lia | omega))] at hr
            simp only [Option.some.injEq, Prod.mk.injEq] at hr
            obtain ⟨rfl, rfl⟩ := hr
            refine hQ _ h' s'.toks ⟨_, t9, by simp [hi'], ht9⟩ ⟨?_, by rw [hsb.2 S (Nat.ne_of_lt hS)]; exact st.2⟩ fun b o' hb e => by rw [hsb.2 b (by simpa using hb)]; exact e
            rw [hit]
            simp [Array.getD, hps, hs1]
          · rw [hb0, Array.getElem?_eq_getElem hi', Array.getElem?_eq_getElem (by (first | lia | omega))] at hr
            cases hr
        · refine si_int hh st.1 st.2 hd hf _ (fun hq => setNext_plain hb' st.2 hd hf hc1 hl1 hq) (fun x nx hr h' hit hsb => ?_) (fun hr h' he => hQ h' s'.toks fun b o' hb e => he b o' (by simpa using hb) e)
          exfalso
          simp only [List.length_map, Array.length_toList] at hr
          by_cases hs0 : es.size = 0
          · have : es[SetTable.below t.place (if es.size = 0 then 0 else t.place.getD 0 0 + 1)]? = none := by simp; (first | lia | omega)
            rw [this] at hr
            cases hr
          · have hs1 : es.size = 1 := by (first | lia | omega)
            have hb0 : SetTable.below t.place (if es.size = 0 then 0 else t.place.getD 0 0 + 1) = 1 := by
              rw [if_neg hs0]
              unfold SetTable.below
              rw [hps, hs1]
              simp [SetTable.below.go, Array.getD, hps, hs1]
            rw [hb0] at hr
            have : es[1]? = none := by simp; (first | lia | omega)
            rw [this] at hr
            cases hr
      · simp only [List.mem_cons, List.not_mem_nil, or_false, not_or]
        exact ⟨Nat.ne_of_lt hLs, hSL⟩
  · have hys : ys.length = es.size := by rw [hp.length_eq, List.length_range]
    have hcov : (ys.filterMap fun j => es.toList[j]?).Perm es.toList := by
      refine (hp.filterMap _).trans ?_
      have : (List.range es.size).filterMap (fun j => es.toList[j]?) = es.toList := by
        apply List.ext_getElem?
        intro k
        rw [← Array.length_toList]
        generalize es.toList = l
        induction l generalizing k with
        | nil => simp
        | cons a l ih =>
          rw [List.length_cons, List.range_succ_eq_map, List.filterMap_cons]
          simp only [List.getElem?_cons_zero, List.filterMap_map]
          cases k with
          | zero => simp
          | succ k => simpa [Function.comp_def] using ih k
      rw [this]
    have hget : ∀ (i j : Nat), ys[i]? = some j → j < es.size := fun i j hj => by
      have : j ∈ List.range es.size := hp.mem_iff.mp (List.mem_of_getElem? hj)
      simpa using this
    have hmap : ys.filterMap (fun j => es.toList[j]?) = ys.map fun j => es.toList.getD j (0, .none) := by
      have : ∀ l : List Nat, (∀ j ∈ l, j < es.size) → l.filterMap (fun j => es.toList[j]?) = l.map fun j => es.toList.getD j (0, .none) := by
        intro l
        induction l with
        | nil => intro _; rfl
        | cons j l ih =>
          intro hl
          have hj := hl j (.head _)
          have e : es.toList[j]? = some (es.toList.getD j (0, .none)) := by simp [hj]
          rw [List.filterMap_cons, e, List.map_cons, ih fun k hk => hl k (.tail _ hk)]
      exact this ys fun j hj => by simpa using hp.mem_iff.mp hj
    rw [hmap] at hcov
    let tup : Obj := { cls := .type "tuple", data := .seq (ys.map fun i => Value.int ((i : Nat) : Int) 0).toArray }
    have hT0 : (s.heap.push tup).get? s.heap.objs.size = some tup := Heap.get?_push_size _ rfl
    have hsz : (s.heap.push tup).objs.size = s.heap.objs.size + 1 := Heap.size_push _ _
    have hI : ((s.heap.push tup).push (siObj (.ref s.heap.objs.size) 0 S es.size ep)).get? (s.heap.objs.size + 1) = some (siObj (.ref s.heap.objs.size) 0 S es.size ep) := by
      rw [← hsz]; exact Heap.get?_push_size _ rfl
    have ho' : ((s.heap.push tup).push (siObj (.ref s.heap.objs.size) 0 S es.size ep)).get? S = some o := Heap.get?_push_of_some _ (Heap.get?_push_of_some _ ho)
    have hT' : ((s.heap.push tup).push (siObj (.ref s.heap.objs.size) 0 S es.size ep)).get? s.heap.objs.size = some tup := Heap.get?_push_of_some _ hT0
    have F1 : Fr h₀ L (s.heap.push tup) m := F.push _
    refine h (s.heap.objs.size + 1) ((ys.map fun j => es.toList.getD j (0, .none)).map fun e => sval e.2) [s.heap.objs.size + 1, S, s.heap.objs.size]
      (fun i h' => h'.get? (s.heap.objs.size + 1) = some (siObj (.ref s.heap.objs.size) i S es.size ep) ∧ h'.get? S = some o ∧ h'.get? s.heap.objs.size = some tup) d _ ?_ (perm_mem hel hmem hcov) ⟨hI, ho', hT'⟩ (F1.push _)
      (fun p hp => ⟨Heap.get?_push_of_some _ (Heap.get?_push_of_some _ (N p hp).1), (N p hp).2⟩) ?_ ?_ (fun p hp => Nat.lt_succ_of_lt (hlt p hp))
    · refine ⟨fun b hb => by simp at hb; simp [hb], fun i h h' st hk => ⟨hk _ (by simp) _ st.1, hk _ (by simp) _ st.2.1, hk _ (by simp) _ st.2.2⟩, fun i s' Q' E' hi st hQ => ?_, fun s' Q' E' st hQ => ?_, fun i s' Q' E' st hQ => si_self st.1 hQ⟩
      · have hi' : i < ys.length := by simpa using hi
        refine si_ref hh st.1 st.2.1 hd hf st.2.2 rfl (fun j hx x hji he h' hit hsb => ?_) (fun j hji => hget i j hji) (fun hn => ?_)
        · have hj := hget i j hji
          have he9 : (hx, x) ∈ es.toList := by
            have := Array.mem_of_getElem? he
            simpa using this
          obtain ⟨t9, ht9⟩ := elem_str hel he9
          have hji' : ys[i] = j := by
            have := List.getElem?_eq_getElem hi'
            rw [hji] at this
            exact (Option.some.inj this).symm
          have hej : es[j] = (hx, x) := by
            have := Array.getElem?_eq_getElem hj
            rw [he] at this
            exact (Option.some.inj this).symm
          refine hQ _ h' s'.toks ⟨sval x, t9, ?_, ht9⟩ ⟨hit, by rw [hsb.2 S (Nat.ne_of_lt (Nat.lt_succ_of_lt hS))]; exact st.2.1, by rw [hsb.2 _ (Nat.ne_of_lt (Nat.lt_succ_self _))]; exact st.2.2⟩ fun b o' hb e => by rw [hsb.2 b (by simpa using hb)]; exact e
          simp [hi', hji', hj, hej]
        · rw [List.getElem?_eq_getElem hi'] at hn
          cases hn
      · refine si_ref hh st.1 st.2.1 hd hf st.2.2 rfl (fun j hx x hji he h' hit hsb => ?_) (fun j hji => hget _ j hji) (fun hn h' he => hQ h' s'.toks fun b o' hb e => he b o' (by simpa using hb) e)
        simp at hji
    · simp only [List.mem_cons, List.not_mem_nil, or_false, not_or]
      exact ⟨Nat.ne_of_lt (Nat.lt_succ_of_lt hLs), hSL, Nat.ne_of_lt hLs⟩
    · rw [← hsz]; exact next_is_new F1
end
end
section
set_option tactic.hygienic false
section
variable {prog : Program} {w : World} {p : Program} {loose : List Str} {mean : ExcName → Option Value} {mg mb : Str → Option Value} {dp un : Nat} {gd : Option (List Code)} {cn : Str} {cs : Scope} {a : Addr} {ccd : Value} {cl : List (Str × Addr)} {outer : List Env} {A₀ : Around} {base h₀ : Heap} {L : Addr} {m : Str → Option Value} {news rest : List (Addr × Obj)} {s : Shared} {Q E : Value → Shared → Prop}
noncomputable def LoopEnd (h₀ : Heap) (L : Addr) (x : Str) (m : Str → Option Value) (need : List (Addr × Obj)) (J : Prop) (s₁ s₂ : Shared) : Prop :=
  ∃ h' tk m', s₂ = { s₁ with heap := h', toks := tk } ∧ Fr h₀ L h' m' ∧ News h₀ L h' need ∧ (∀ y, y ≠ x → m' y = m y) ∧ J
noncomputable def LoopPost (h₀ : Heap) (L : Addr) (x : Str) (m : Str → Option Value) (need : List (Addr × Obj)) (J : Prop) (s₁ : Shared) (Q : Flow → Shared → Prop) (f : Flow) (s₂ : Shared) : Prop :=
  match f with
  | .ret v => Q (.ret v) s₂
  | .brk => Q .next s₂
  | _ => LoopEnd h₀ L x m need J s₁ s₂
theorem loop_at_inv {A : Around} {env : Env} {x : Str} {body : List Stmt} {Q : Flow → Shared → Prop} {E : Value → Shared → Prop} {s : Shared} {I : Addr} {fp : List Addr} {n : Nat} {P : Nat → Value → Prop} {St : Nat → Heap → Prop} {m₀ : Str → Option Value} {news : List (Addr × Obj)} (Jp : Nat → Prop)
    (W : Walks prog w A I fp [I] n P St) (hLf : env.locals ∉ fp) (hI : h₀.get? I = none) (hnw : ∀ p ∈ news, p.1 ≠ I) (hst : St 0 s.heap) (F : Fr h₀ env.locals s.heap m₀) (N : News h₀ env.locals s.heap news) (hJ0 : Jp 0)
    (turn : ∀ i v h tk own, i < n → P i v → Jp i → Fr h₀ env.locals h (fun y => if y = x then some v else m₀ y) → News h₀ env.locals h (own ++ news) →
      wpAny (model prog w) A (execs body env) (LoopPost h₀ env.locals x m₀ (own ++ news) (Jp (i + 1)) { s with heap := h, toks := tk } Q) E { s with heap := h, toks := tk })
    (done : Jp n → ∀ (u : Option Value) h tk, Fr h₀ env.locals h (fun y => if y = x then u else m₀ y) → News h₀ env.locals h news → Q .next { s with heap := h, toks := tk }) :
    LoopAtV prog w A h₀ env x body Q E (.ref I) s := by
  let J : Nat → (Str → Option Value) → List (Addr × Obj) → Prop := fun i m₁ news₁ => news₁ = news ∧ (∀ y, y ≠ x → m₁ y = m₀ y) ∧ Jp i
  refine ⟨I, fp, [I], n, P, St, m₀, news, J, rfl, W, hLf, fun b hb => by rw [List.mem_singleton.mp hb]; exact hI, fun p hp hb => hnw p hp (List.mem_singleton.mp hb), hst, F, N, ⟨rfl, fun _ _ => rfl, hJ0⟩, ?_, ?_⟩
  · rintro i v m₁ news₁ s₁ own ⟨hh', tk', rfl⟩ hin hP ⟨rfl, hJ, hJp⟩ hoff _ _ _ _ F₁ N₁
    have e : (fun y => if y = x then some v else m₁ y) = fun y => if y = x then some v else m₀ y := by
      funext y
      by_cases h1 : y = x
      · simp [h1]
      · simp only [if_neg h1]; exact hJ y h1
    rw [e] at F₁
    refine wpAny_mono (turn i v hh' tk' own hin hP hJp F₁ N₁) (fun f s₂ p => ?_) fun _ _ e => e
    have fin : LoopEnd h₀ env.locals x m₀ (own ++ news₁) (Jp (i + 1)) { s with heap := hh', toks := tk' } s₂ → LoopStepU h₀ env.locals [I] own (J (i + 1)) { s with heap := hh', toks := tk' } .next s₂ := by
      rintro ⟨h', tk, m', e, F', N', hm, hj⟩
      exact ⟨rfl, h', tk, m', news₁, e, F', N', hoff, rfl, hm, hj⟩
    cases f with
    | ret v => exact .ret p
    | brk => exact .brk p
    | next => exact .next (fin p)
    | cont => exact .cont (fin p)
  · rintro h' tk m' news' F' N' _ ⟨rfl, hJ, hJp⟩
    refine done hJp (m' x) h' tk ?_ N'
    have e : (fun y => if y = x then m' x else m₀ y) = m' := by
      funext y
      by_cases h1 : y = x
      · simp [h1]
      · simp only [if_neg h1]; exact (hJ y h1).symm
    rw [e]; exact F'
noncomputable def dotted (x : Str) : Str := x ++ Str.ofString "."
theorem iter_names {A : Around} {env : Env} {x : Str} {body : List Stmt} {Q : Flow → Shared → Prop} {E : Value → Shared → Prop} {s : Shared} {m₀ : Str → Option Value} {news : List (Addr × Obj)} {S : Nat} {o : Obj} {T : Str → Bool} {n : Nat} {name : Str} {kvs : List (Str × Value)} (_hnot : valueAt kvs name = none)
    (hso : SetO w (strKind prog w) o T n) (hz : n ≤ 1000) (F : Fr h₀ env.locals s.heap m₀) (N : News h₀ env.locals s.heap news) (hm : (S, o) ∈ news) (hh : A.handled = none)
    (hTl : ∀ k, T k = true → k.length ≤ 1000)
    (turn : ∀ k t d h tk own, T k = true → k.length ≤ 1000 → Fr h₀ env.locals h (fun y => if y = x then some (.str k t) else m₀ y) → News h₀ env.locals h (own ++ news) → News h₀ env.locals h news →
      wpAny (model prog w) A (execs body env) (LoopPost h₀ env.locals x m₀ (own ++ news) (PySem.Txt.startswith name (dotted k) = false) { s with heap := h, toks := tk, drawn := d } Q) E { s with heap := h, toks := tk, drawn := d })
    (done : (∀ k, T k = true → PySem.Txt.startswith name (dotted k) = false) → ∀ (u : Option Value) d h tk, Fr h₀ env.locals h (fun y => if y = x then u else m₀ y) → News h₀ env.locals h news → Q .next { s with heap := h, toks := tk, drawn := d }) :
    wpAny (model prog w) A (pyIter (.ref S)) (fun it s₂ => LoopAtV prog w A h₀ env x body Q E it s₂) E s := by
  refine iter_setK hso hz F N hm hh fun I items fp St d h' W hit hst F' N' hL hI hnw => ?_
  refine loop_at_inv (s := { s with heap := h', drawn := d }) (fun i => ∀ j k, j < i → items[j]? = some k → PySem.Txt.startswith name (dotted k) = false) W hL hI (fun p hp => Nat.ne_of_lt (hnw p hp)) hst F' N' (fun j k hj => absurd hj (Nat.not_lt_zero _)) (fun i v h tk own hi hP hJ F1 N1 => ?_) (fun hJ u h tk F1 N1 => done (fun k hk => ?_) u d h tk F1 N1)
  · obtain ⟨k, t, hk, rfl⟩ := hP
    refine wpAny_mono (turn k t d h tk own ((hit k).mp (List.mem_of_getElem? hk)) (hTl _ ((hit k).mp (List.mem_of_getElem? hk))) F1 N1 fun p hp => N1 p (List.mem_append_right _ hp)) (fun f s₂ p => ?_) fun _ _ e => e
    have fin : LoopEnd h₀ env.locals x m₀ (own ++ news) (PySem.Txt.startswith name (dotted k) = false) { s with heap := h, toks := tk, drawn := d } s₂ → LoopEnd h₀ env.locals x m₀ (own ++ news) (∀ j k, j < i + 1 → items[j]? = some k → PySem.Txt.startswith name (dotted k) = false) { s with heap := h, toks := tk, drawn := d } s₂ := by
      rintro ⟨h', tk, m', e, F', N', hm, hj⟩
      refine ⟨h', tk, m', e, F', N', hm, fun j k' hj' hk' => ?_⟩
      rcases Nat.lt_succ_iff_lt_or_eq.mp hj' with h1 | rfl
      · exact hJ j k' h1 hk'
      · rw [hk] at hk'
        obtain rfl := Option.some.inj hk'
        exact hj
    cases f with
    | ret v => exact p
    | brk => exact p
    | next => exact fin p
    | cont => exact fin p
  · obtain ⟨j, hj, e⟩ := List.mem_iff_getElem.mp ((hit k).mpr hk)
    exact hJ j k hj (by rw [List.getElem?_eq_getElem hj, e])
theorem iter_nil {A : Around} {env : Env} {x : Str} {body : List Stmt} {Q : Flow → Shared → Prop} {E : Value → Shared → Prop} {s : Shared} {m₀ : Str → Option Value} {news : List (Addr × Obj)} {D : Nat} {c : Nat}
    (F : Fr h₀ env.locals s.heap m₀) (N : News h₀ env.locals s.heap news) (hm : (D, listOf #[] c) ∈ news) (hh : A.handled = none)
    (done : ∀ (u : Option Value) h tk, Fr h₀ env.locals h (fun y => if y = x then u else m₀ y) → News h₀ env.locals h news → Q .next { s with heap := h, toks := tk }) :
    wpAny (model prog w) A (pyIter (.ref D)) (fun it s₂ => LoopAtV prog w A h₀ env x body Q E it s₂) E s := by
  have hl : s.heap.IsList D #[] := ⟨_, (N _ hm).1, rfl, c, rfl⟩
  have hlt : ∀ p ∈ news, p.1 < s.heap.objs.size := fun p hp => Heap.lt_size (N p hp).1
  refine wpAny_pyIter_list hl ?_
  have hne : D ≠ s.heap.objs.size := Nat.ne_of_lt (hlt _ hm)
  have W := Walks.list (prog := prog) (w := w) hh s.heap.objs.size D hne #[]
  refine loop_at_inv (n := 0) (fun _ => True) W ?_ (next_is_new F) (fun p hp => Nat.ne_of_lt (hlt p hp)) ⟨⟨_, Heap.get?_push_size _ rfl, rfl, rfl⟩, hl.at fun o e => Heap.get?_push_of_some _ e⟩ (F.push _) (fun p hp => ⟨Heap.get?_push_of_some _ (N p hp).1, (N p hp).2⟩) trivial
    (fun i v h tk own hi => absurd hi (Nat.not_lt_zero _)) (fun _ => done)
  simp only [List.mem_cons, List.not_mem_nil, or_false, not_or]
  exact ⟨Nat.ne_of_lt F.ns.lt, fun e => (N _ hm).2.1 e.symm⟩
end
end
section
set_option tactic.hygienic false
section
variable {prog : Program} {w : World} {p : Program} {loose : List Str} {mean : ExcName → Option Value} {mg mb : Str → Option Value} {dp un : Nat} {gd : Option (List Code)} {cn : Str} {cs : Scope} {a : Addr} {ccd : Value} {cl : List (Str × Addr)} {outer : List Env} {A₀ : Around} {base h₀ : Heap} {L : Addr} {m : Str → Option Value} {news rest : List (Addr × Obj)} {s : Shared} {Q E : Value → Shared → Prop}
theorem wd_KG4_e : True := by
  k_with "compareOp In str ref" => (k_here; k_dflt (first | refine kda_in (knd := PySem.strKind _ _) (by k_asm) (by k_mem) (by k_asm) (by k_asm) (isStr _ _) false (by assumption) ?_ | (refine in_setK (by k_asm) (by k_mem) (by assumption) ?_; intro _)))
  trivial
theorem wd_KG4_26 : True := by
  k_with "pyIter ref" => (k_here; (with_reducible show wpAny _ _ (pyIter (Value.ref _)) (fun it s₂ => LoopAtV _ _ _ _ _ _ _ _ _ it s₂) _ _); k_dflt (refine' iter_names ?zF0 ?zF1 ?zF2 ?zF3 ?zF4 ?zF5 ?zF6 ?zFl ?zF7 ?zF8; (case zF0 => assumption); (case zF1 => assumption); (case zF2 => (first | lia | omega)); (case zF3 => k_asm); (case zF4 => k_asm); (case zF5 => k_mem); (case zF6 => rfl); (case zFl => assumption)); intros)
  k_with "pyIter ref" => (k_here; (with_reducible show wpAny _ _ (pyIter (Value.ref _)) (fun it s₂ => LoopAtV _ _ _ _ _ _ _ _ _ it s₂) _ _); k_dflt (refine' iter_nil ?zF3 ?zF4 ?zF5 ?zF6 ?zF8; (case zF3 => k_asm); (case zF4 => k_asm); (case zF5 => k_mem); (case zF6 => rfl)); intros)
  k_with "setItem ref str" => (k_here; k_dflt (refine' kda_set (knd := PySem.strKind _ _) ?F ?N ?U ?d (isStr _ _) ?z ?_; (case F => k_asm); (case N => k_asm); (case U => k_updF); (case d => k_asm); (case z => rw [sizeLine_eq]; (first | lia | omega))); intro _ _ _ zN' _; (try dsimp only at zN'))
  trivial
theorem startsK {A : Around} {X d : Str} {t u : Tok} {Q : Value → Shared → Prop} (hT : PySem.Txt.startswith X d = true → Q (.bool true) s) (hF : PySem.Txt.startswith X d = false → Q (.bool false) s) : wpAny (model prog w) A (call (.builtin "str.startswith") [.str X t, .str d u]) Q E s := by
  refine SC.startswith ?_
  cases h : PySem.Txt.startswith X d
  · exact hF h
  · exact hT h
theorem wd_KG4_27 : True := by
  k_with "call builtin:str.startswith" => (k_here; refine startsK (fun st9 => ?_) (fun st9 => ?_))
  trivial
theorem names_call {x dx S D G : Nat} {oS oG : Obj} {n : Nat} {k1 k2 k3 ty t2 : Tok} {T : Str → Bool} {kvs : List (Str × Value)} {name : Str} (hso : SetO w (strKind prog w) oS T n) (hn : n ≤ 1000) (hd : oG.IsDictOf (strKind prog w) kvs) (hnot : valueAt kvs name = none) (hk : kvs.length ≤ 1000) (hGm : (G == sysModules) = false) (hTl : ∀ k, T k = true → k.length ≤ 1000)
    (C : Cx 4 w p loose mean mg mb dp un cs outer A₀ base h₀ L m s.heap ((G, oG) :: (D, listOf #[] 0) :: (S, oS) :: (x, instObj 139 dx) :: (dx, dictOf (igE w.params k1 k2 k3 S D G) 3) :: rest)) (h1 : x < S) (h2 : S < D) (h3 : D < G) (h4 : dx < x) (hrG : ∀ p ∈ rest, p.1 ≠ G)
    (hret : ∀ b oG' r t1 h' tk' d, (b = true ↔ (T name = true ∨ ∃ k, T k = true ∧ PySem.Txt.startswith name (dotted k) = true)) → oG'.IsDictOf (strKind prog w) (stored kvs name r) → Fr h₀ L h' m →
      News h₀ L h' ((G, oG') :: (D, listOf #[] 0) :: (S, oS) :: (x, instObj 139 dx) :: (dx, dictOf (igE w.params k1 k2 k3 S D G) 3) :: rest) → Q (.int (if b then 1 else 0) t1) { s with heap := h', toks := tk', drawn := d }) :
    wpAny (model prog w) (ktrTop dp un gd cn cs L a ccd cl outer) (call (.ref 136) [.ref x, .str (Str.ofString "f") t2, .str name ty]) Q E s := by
  obtain ⟨B, F, X, N, T0, hk0, hd0, hu⟩ := C
  have hin : (valueAt kvs name).isSome = false := by rw [hnot]; rfl
  walk_at "ENTER"
  k_steps
  · rename Obj.IsDictOf _ _ _ => hd9
    refine hret true _ _ _ _ _ _ ⟨fun _ => .inl ?_, fun _ => rfl⟩ hd9 ?_ ?_ <;> assumption
  · try dsimp only
    k_steps
    try dsimp only [LoopPost]
    k_steps
    rename Obj.IsDictOf _ _ _ => hd9
    refine hret true _ _ _ _ _ _ ⟨fun _ => .inr ⟨_, by assumption, by assumption⟩, fun _ => rfl⟩ hd9 ?_ ?_ <;> assumption
  · refine ⟨_, _, _, rfl, by assumption, by assumption, ?_, by assumption⟩
    intro y hy
    try dsimp only
    rw [if_neg hy]
  · refine' iter_nil ?yF3 ?yF4 ?yF5 ?yF6 ?yF8
    case yF3 => k_asm
    case yF4 => k_asm
    case yF5 => k_mem
    case yF6 => rfl
    case yF8 =>
      intro u9 h9 tk9 F9 N9
      k_steps
      rename Obj.IsDictOf _ _ _ => hd9
      refine hret false _ _ _ _ _ _ ⟨fun e => absurd e (by decide), fun e => ?_⟩ hd9 ?_ ?_
      · rcases e with e | ⟨k, e1, e2⟩
        · simp_all
        · rename ∀ k, T k = true → PySem.Txt.startswith name (dotted k) = false => hno
          rw [hno k e1] at e2
          cases e2
      all_goals assumption
end
end
section
open PySem PySem.W PySem.Calls PyProof.Rows Builtin Builtin.ObjectAttr Builtin.Getset_descriptor
set_option maxRecDepth 1000000
set_option tactic.hygienic false
section
variable {prog : Program} {w : World} {A : Around} {C : Addr} {R : Result → Shared → Prop} {h : Heap} {g : Array GenState} {d : Drawn} {t : Nat} {os : OsState}
theorem madeBy910 (X : (K w.params).In h) : Looks (model prog w) h (Bind.madeBy (.ref 910)) none := Looks.of_peek X (by kernel_rfl)
theorem mro910 (X : (K w.params).In h) : Looks (model prog w) h (mroOf (.ref 910)) [.ref 910, .type "tuple", .type "object"] := Looks.of_peek X (by kernel_rfl)
theorem here910 (X : (K w.params).In h) : Looks (model prog w) h (Bind.madeHere "tuple.__new__" (.ref 910)) () := Looks.of_peek X (by kernel_rfl)
theorem self910 (X : (K w.params).In h) : Looks (model prog w) h (isSubtype (.ref 910) (.ref 910)) true := Looks.of_peek X (by kernel_rfl)
theorem typ910 (X : (K w.params).In h) : Looks (model prog w) h (isInstance (.ref 910) (.type "type")) true := looks_instIn X (by kernel_rfl)
theorem istype910 (X : (K w.params).In h) : Looks (model prog w) h (isType (.ref 910)) true := Looks.of_peek X (by kernel_rfl)
theorem call910 (X : (K w.params).In h) : Looks (model prog w) h (specialOf (.ref 910) "__call__") (some (.builtin "type.__call__")) := looks_specialIn X (by kernel_rfl)
theorem top910 (X : (K w.params).In h) : Looks (model prog w) h (isSubtype (.ref 910) (.type "tuple")) true := Looks.of_peek X (by kernel_rfl)
theorem obj910 (X : (K w.params).In h) : Looks (model prog w) h (isSubtype (.ref 910) (.type "object")) true := Looks.of_peek X (by kernel_rfl)
theorem init910 (X : (K w.params).In h) : Looks (model prog w) h (typeLookup (.ref 910) "__init__") (some (.builtin "object.__init__")) := Looks.of_peek X (by kernel_rfl)
theorem iter910 (X : (K w.params).In h) : Looks (model prog w) h (typeLookup (.ref 910) "__iter__") (some (.builtin "tuple.__iter__")) := Looks.of_peek X (by kernel_rfl)
theorem len910 (X : (K w.params).In h) : Looks (model prog w) h (typeLookup (.ref 910) "__len__") (some (.builtin "tuple.__len__")) := Looks.of_peek X (by kernel_rfl)
theorem cls910 (X : (K w.params).In h) : ∃ oc od cd sl, h.get? 910 = some ⟨oc, od, .cls cd, sl⟩ ∧ cd.abstract = false ∧ cd.hasDel = false := ⟨_, _, _, _, X _ _ (by rfl), rfl, rfl⟩
noncomputable abbrev misObj (dx : Addr) (vs : Array Value) (c : Nat) : Obj := { cls := .ref 910, dict := some dx, data := .seq vs c }
theorem chk910 (X : (K w.params).In h) (tp : Addr) : Looks (model prog w) h (checkBuiltinCall "tuple.__new__" ⟨[.ref 910, .ref tp], []⟩) () := Looks.of_peek X (by kernel_rfl)
end
end
section
open PySem PySem.W PySem.Calls PyProof.Rows Builtin Builtin.ObjectAttr Builtin.Getset_descriptor
set_option maxRecDepth 1000000
set_option tactic.hygienic false
section
variable {prog : Program} {w : World} {A : Around} {C : Addr} {R : Result → Shared → Prop} {h : Heap} {g : Array GenState} {d : Drawn} {t : Nat} {os : OsState}
theorem new910 {tp : Addr} {o : Obj} {vs : Array Value} {c : Nat} (X : (K w.params).In h) (ht : h.get? tp = some o) (hc : o.cls = .type "tuple") (hd : o.data = .seq vs c) (hz : vs.size ≤ 1000)
    (hq : ∀ h' : Heap, (∀ b o', h.get? b = some o' → h'.get? b = some o') → R (.ok (.ret (.ref (h'.objs.size + 1)))) ⟨(h'.push emptyDict).push (misObj h'.objs.size vs 0), g, d, t, os⟩) :
    codeAny (model prog w) A (.call (.builtin "tuple.__new__") ⟨[.ref 910, .ref tp], []⟩) R ⟨h, g, d, t, os⟩ := by
  have here := here910 (prog := prog) X
  have typ := typ910 (prog := prog) X
  have top := top910 (prog := prog) X
  have ist := istype910 (prog := prog) X
  have ini := init910 (prog := prog) X
  refine codeAny_call_builtin_code (Code.quiet_builtin _ (by decide +kernel)) ?_
  refine (chk910 X tp).at ?_
  refine codeAny_builtin PySem.F.entry_tuple_new ?_
  unfold Builtin.«tuple.__new__»
  generalize A.under _ = A'
  refine wpAny_bind (ist.at ?_)
  rw [if_neg (by decide)]
  refine wpAny_bind (top.at ?_)
  rw [if_neg (by decide)]
  try dsimp only
  refine wpAny_bind (here.at ?_)
  refine wpAny_bind (ini.at ?_)
  rw [if_pos (by decide)]
  refine wpAny_bind (wpAny_pure ?_)
  refine wpAny_bind (wpAny_pure ?_)
  rw [if_neg (by decide)]
  have hz9 : vs.size ≤ sizeLine := by rw [sizeLine_eq]; (first | lia | omega)
  refine wpAny_bind (wpAny_collect_seq (hsz := hz9) tp (T := "tuple") (.inr rfl) ht hc hd fun h' hk => ?_)
  refine wpAny_bind (wpAny_pure ?_)
  refine wpAny_bind (wpAny_alloc ?_)
  refine wpAny_bind ?_
  have hz8 : ¬ (vs.size > sizeLine) := by (first | lia | omega)
  obtain ⟨oc, od, cd, sl, hC, e1, e2⟩ := cls910 (X.keeps hk)
  have e9 : vs.toList.toArray = vs := by simp
  rw [e9]
  simp only [newObj, if_neg hz8]
  unfold newObjAsIs classHasDel
  refine wpAny_bind (wpAny_alloc (wpAny_bind (wpAny_bind (wpAny_load (Heap.get?_push_of_some _ (Heap.get?_push_of_some _ hC)) (wpAny_pure ?_)))))
  rw [e2]
  refine wpAny_pure (wpAny_pure ?_)
  show R _ _
  rw [Heap.size_push]
  exact hq h' hk
end
end
section
open PySem PySem.W PySem.Calls PyProof.Rows Builtin Builtin.ObjectAttr Builtin.Getset_descriptor
set_option maxRecDepth 1000000
set_option tactic.hygienic false
theorem oi_args4 (x a b c : Value) : argsOk "object.__init__" ⟨[x, a, b, c], []⟩ := by unfold argsOk; kernel_rfl
section
variable {prog : Program} {w : World} {A : Around} {E : Value → Shared → Prop} {s : Shared} {h₀ : Heap} {L : Addr} {m : Str → Option Value} {news : List (Addr × Obj)}
theorem oi910 {x : Addr} {o : Obj} {a b c : Value} {Q : Value → Shared → Prop} (X : (K w.params).In s.heap) (hx : s.heap.get? x = some o) (hc : o.cls = .ref 910) (h : Q .none s) :
    wpAny (model prog w) A (call (.builtin "object.__init__") [.ref x, a, b, c]) Q E s := by
  have t1 : Looks (model prog w) s.heap (typeOf (.ref x)) (.ref 910) := by rw [← hc]; exact (Looks.ld (part := none) hx).andThen .now
  have i1 : Looks (model prog w) s.heap (isInstance (.ref x) (.type "object")) true := t1.andThen (obj910 X)
  have ini := init910 (prog := prog) X
  have made := madeBy910 (prog := prog) X
  have hq : (Code.builtin "object.__init__" ⟨[.ref x, a, b, c], []⟩).quiet = true := Code.quiet_builtin _ (by decide +kernel)
  refine wpAny_call ?_
  refine codeAny_call_builtin_at hq PySem.F.entry_object_init ?_
  refine check_slot (i := "object.__init__") (self := .ref x) (rest := [a, b, c]) (kw := []) (owner := "object") (n := "__init__") oi_kind oi_split i1 (oi_args4 (.ref x) a b c) ?_
  unfold Builtin.«object.__init__»
  generalize A.under _ = A'
  try dsimp only
  rw [if_pos (by simp)]
  refine wpAny_bind (t1.at ?_)
  refine wpAny_bind (ini.at ?_)
  refine wpAny_bind (made.at ?_)
  try dsimp only
  rw [if_neg (by decide), if_neg (by decide)]
  exact wpAny_pure h
theorem tn_K {tp : Addr} {vs : Array Value} {c : Nat} {Q : Value → Shared → Prop} (F : Fr h₀ L s.heap m) (N : News h₀ L s.heap news) (X₀ : (K w.params).In h₀) (hm : (tp, { cls := .type "tuple", data := .seq vs c }) ∈ news) (hz : vs.size ≤ 1000)
    (h : ∀ (x dx : Nat) h', dx < x → (∀ p ∈ news, p.1 < dx) → Fr h₀ L h' m → News h₀ L h' ((x, misObj dx vs 0) :: (dx, emptyDict) :: news) → Q (.ref x) { s with heap := h' }) :
    wpAny (model prog w) A (call (.builtin "tuple.__new__") [.ref 910, .ref tp]) Q E s := by
  obtain ⟨hh, g, d, t, os⟩ := s
  refine wpAny_call (new910 (X₀.keeps F.keep) (N _ hm).1 rfl rfl hz fun h' hk => ?_)
  have F1 : Fr h₀ L h' m := by
    obtain ⟨oL, a1, a2, hL, a3⟩ := F.ns
    exact ⟨⟨oL, a1, a2, hk _ _ hL, a3⟩, fun b o e => hk _ _ (F.keep b o e), F.above⟩
  have N1 : News h₀ L h' news := fun p hp => ⟨hk _ _ (N p hp).1, (N p hp).2⟩
  have N2 := N1.push (o := emptyDict) F1
  have F2 := F1.push emptyDict
  have N3 := N2.push (o := misObj h'.objs.size vs 0) F2
  have F3 := F2.push (misObj h'.objs.size vs 0)
  have hsz : (h'.push emptyDict).objs.size = h'.objs.size + 1 := Heap.size_push _ _
  rw [hsz] at N3
  exact h _ _ _ (Nat.lt_succ_self _) (fun p hp => Heap.lt_size (N1 p hp).1) F3 N3
end
section
variable {prog : Program} {w : World} {dp un : Nat} {gd : Option (List Code)} {cn : Str} {cs : Scope} {a : Addr} {ccd : Value} {cl : List (Str × Addr)} {outer : List Env} {h₀ : Heap} {L : Addr} {m : Str → Option Value} {news : List (Addr × Obj)} {s : Shared} {Q E : Value → Shared → Prop}
theorem make910 {b c e : Value} {vs : Array Value} (F : Fr h₀ L s.heap m) (X₀ : (K w.params).In h₀)
    (new : ∀ {Q' E' : Value → Shared → Prop}, (∀ (x dx : Nat) h' tk', dx < x → (∀ p ∈ news, p.1 < dx) → Fr h₀ L h' m → News h₀ L h' ((x, misObj dx vs 0) :: (dx, emptyDict) :: news) → Q' (.ref x) { s with heap := h', toks := tk' }) →
      wpAny (model prog w) (ktrTop (dp + 1) (un + 1) gd cn cs L a ccd cl outer) (call (.ref 857) [.ref 910, b, c, e]) Q' E' { s with toks := s.toks + 1 })
    (h : ∀ (x dx : Nat) h' tk', dx < x → (∀ p ∈ news, p.1 < dx) → Fr h₀ L h' m → News h₀ L h' ((x, misObj dx vs 0) :: (dx, emptyDict) :: news) → Q (.ref x) { s with heap := h', toks := tk' }) :
    wpAny (model prog w) (ktrTop dp un gd cn cs L a ccd cl outer) (call (.ref 910) [b, c, e]) Q E s := by
  have X := X₀.keeps F.keep
  have made := madeBy910 (prog := prog) X
  have typ := typ910 (prog := prog) X
  have cal := call910 (prog := prog) X
  have hmro := mro910 (prog := prog) X
  obtain ⟨oc, od, cd, sl, hC, e1, e2⟩ := cls910 X
  refine wpAny_call (codeAny_of_tree ?_)
  show wpAny _ _ (callAny (.ref 910) _) _ _ _
  obtain ⟨hh, g, d, t, os⟩ := s
  refine nd_load hC ?_
  show wpAny _ _ (callAny.viaDunder (.ref 910) _) _ _ _
  unfold callAny.viaDunder
  refine wpAny_bind (cal.at ?_)
  try dsimp only
  rw [tc_bind]
  refine wpAny_bind (wpAny_pure (wpAny_bind (wpAny_pure ?_)))
  refine wpAny_pure (a := Fin.again (.call (.builtin "type.__call__") ⟨.ref 910 :: [b, c, e], []⟩)) (And.intro rfl ?_)
  have hq : (Code.builtin "type.__call__" ⟨.ref 910 :: [b, c, e], []⟩).quiet = true := Code.quiet_builtin _ (by decide +kernel)
  refine codeAny_call_builtin_at hq entry_typeCall ?_
  refine check_slot tc_kind tc_split typ (tc_args _ _ _) ?_
  rw [under_make]
  unfold Builtin.«type.__call__»
  show wpAny _ _ (mroOf (.ref 910) >>= _) _ _ _
  refine wpAny_bind (hmro.at ?_)
  try dsimp only
  rw [if_neg (by decide)]
  show wpAny _ _ (Bind.madeBy (.ref 910) >>= _) _ _ _
  refine wpAny_bind (made.at ?_)
  show wpAny _ _ (getAttr (.ref 910) (Str.ofString "__new__") >>= _) _ _ _
  refine wpAny_bind (cls_sm (K := K w.params) F X₀ (mc := .type "type") (p := 911) (f := .ref 857) (rest := (recIn (K w.params) 911 "staticmethod").elim [] List.tail) (by kernel_rfl) (by kernel_rfl) (by kernel_rfl) (by kernel_rfl) (by kernel_rfl) ?_)
  refine wpAny_bind (wpAny_holding (new fun x dx h' tk' hdx hlt F' N' => ?_))
  have X' := X₀.keeps F'.keep
  have hx := (N' _ (.head _)).1
  have t1 : Looks (model prog w) h' (typeOf (.ref x)) (.ref 910) := (Looks.ld (part := none) hx).andThen .now
  have i1 : Looks (model prog w) h' (isInstance (.ref x) (.ref 910)) true := t1.andThen (self910 X')
  refine wpAny_bind (i1.at ?_)
  try dsimp only
  rw [if_neg (by decide)]
  refine wpAny_bind (wpAny_holding ?_)
  have ini : Looks (model prog w) h' (specialOf (.ref x) (Str.ofString "__init__")) (some (.builtin "object.__init__")) := t1.andThen (init910 X')
  simp only [callSpecial?]
  refine wpAny_bind (ini.at ?_)
  try dsimp only
  rw [oi_bind]
  refine wpAny_holding (wpAny_bind (wpAny_pure ?_))
  refine wpAny_bind (oi910 (s := { heap := h', gens := g, drawn := d, toks := tk', os := os }) X' hx rfl ?_)
  refine wpAny_pure ?_
  try dsimp only
  rw [if_neg (by decide)]
  exact wpAny_pure (h x dx h' tk' hdx hlt F' N')
end
end
section
set_option tactic.hygienic false
section
variable {prog : Program} {w : World} {p : Program} {loose : List Str} {mean : ExcName → Option Value} {mg mb : Str → Option Value} {dp un : Nat} {gd : Option (List Code)} {cn : Str} {cs : Scope} {a : Addr} {ccd : Value} {cl : List (Str × Addr)} {outer : List Env} {A₀ : Around} {base h₀ : Heap} {L : Addr} {m : Str → Option Value} {news rest : List (Addr × Obj)} {s : Shared} {Q E : Value → Shared → Prop}
theorem wd_KI3_28 : True := by
  k_with "call builtin:tuple.__new__" => (k_here; k_dflt (refine' tn_K ?zF ?zN ?zX ?zm ?zz ?_; (case zF => k_asm); (case zN => k_asm); (case zX => k_asm); (case zm => k_mem); (case zz => exact Nat.le_of_ble_eq_true rfl)); intro _ _ _ _ _ _ _)
  trivial
theorem drop3 {h₀ h : Heap} {L : Addr} {a b c : Addr × Obj} {l : List (Addr × Obj)} (N : News h₀ L h (a :: b :: c :: l)) : News h₀ L h (a :: b :: l) := fun p hp => N p (by
  rcases List.mem_cons.mp hp with rfl | hp
  · exact .head _
  · rcases List.mem_cons.mp hp with rfl | hp
    · exact .tail _ (.head _)
    · exact .tail _ (.tail _ (.tail _ hp)))
theorem meta_tuple : typeOf (.type "tuple") = pure (.type "type") := by first | rfl | kernel_rfl
theorem wd_KI3_29 : True := by
  k_with "getMethod type:tuple" => (k_here; refine' method_type ?F ?X ?m (by decide +kernel) ?e ?h ?_; (case F => k_asm); (case X => k_asm); (case m => exact meta_tuple); (case e => k_dflt k_is); (case h => k_handed))
  trivial
theorem mis_new {b c : Int} {tb tc : Tok} {e : Addr}
    (C : Cx 3 w p loose mean mg mb dp un cs outer A₀ base h₀ L m s.heap news)
    (hret : ∀ (x dx : Nat) h' tk', dx < x → (∀ p ∈ news, p.1 < dx) → Fr h₀ L h' m → News h₀ L h' ((x, misObj dx #[.int b tb, .int c tc, .ref e] 0) :: (dx, emptyDict) :: news) → Q (.ref x) { s with heap := h', toks := tk' }) :
    wpAny (model prog w) (ktrTop dp un gd cn cs L a ccd cl outer) (call (.ref 857) [.ref 910, .int b tb, .int c tc, .ref e]) Q E s := by
  obtain ⟨B, F, X, N, T0, hk0, hd0, hu⟩ := C
  walk_at "ENTER"
  k_steps
  rename News _ _ _ _ => N9
  have N8 := drop3 N9
  refine hret _ _ _ _ ?_ ?_ ?_ N8
  · assumption
  · rename ∀ p ∈ (_ :: news), p.1 < _ => l8
    exact fun p hp => l8 p (.tail _ hp)
  · assumption
theorem mis_call {b c : Int} {tb tc : Tok} {e : Addr}
    (C : Cx 4 w p loose mean mg mb dp un cs outer A₀ base h₀ L m s.heap news)
    (hret : ∀ (x dx : Nat) h' tk', dx < x → (∀ p ∈ news, p.1 < dx) → Fr h₀ L h' m → News h₀ L h' ((x, misObj dx #[.int b tb, .int c tc, .ref e] 0) :: (dx, emptyDict) :: news) → Q (.ref x) { s with heap := h', toks := tk' }) :
    wpAny (model prog w) (ktrTop dp un gd cn cs L a ccd cl outer) (call (.ref 910) [.int b tb, .int c tc, .ref e]) Q E s := by
  obtain ⟨B, F, X, N, T0, hk0, hd0, hu⟩ := C
  refine make910 F X (fun {Q' E'} hq => ?_) hret
  exact mis_new (s := { s with toks := s.toks + 1 }) ⟨B, F, X, N, T0, hk0, by (first | lia | omega), by (first | lia | omega)⟩ hq
end
end
section
set_option maxRecDepth 1000000
set_option tactic.hygienic false
theorem kind_ti : builtinKind "tuple.__iter__" = some .slot := by decide +kernel
theorem split_ti : splitId "tuple.__iter__" = some ("tuple", "__iter__") := by decide +kernel
theorem kind_tl : builtinKind "tuple.__len__" = some .slot := by decide +kernel
theorem split_tl : splitId "tuple.__len__" = some ("tuple", "__len__") := by decide +kernel
section
variable {prog : Program} {w : World} {A : Around} {E : Value → Shared → Prop} {s : Shared}
noncomputable abbrev tiObj (x : Addr) (i : Nat) : Obj := { cls := .type "tuple_iterator", data := .fields #[.ref x, .int i 0] }
theorem ti_item {I x : Addr} {i : Nat} {o : Obj} {vs : Array Value} {c : Nat} {v : Value} {Q : Option Value → Shared → Prop} (hit : s.heap.get? I = some (tiObj x i)) (ho : s.heap.get? x = some o) (hd : o.data = .seq vs c) (hv : vs[i]? = some v)
    (hQ : ∀ h', h'.get? I = some (tiObj x (i + 1)) → Heap.SameBut I s.heap h' → Q (some v) { s with heap := h' }) : wpAny (model prog w) A (pyNext (.ref I)) Q E s := by
  have hT : s.TypeIs (.ref I) "tuple_iterator" := ⟨_, hit, rfl⟩
  unfold pyNext
  refine wpAny_bind (wpAny_attempt (wpAny_callSpecial?_slot (name := Str.ofString "__next__") hT PySem.F.slot_tuple_iterator_next
    (wpAny_call_entry PySem.F.slot_tuple_iterator_next hT PySem.F.entry_tuple_iterator_next ?_ (PySem.F.args_tuple_iterator_next_1 _))))
  show wpAny _ _ (field (.ref I) 0 >>= _) _ _ s
  refine wpAny_bind (wpAny_field hit rfl (x := .ref x) rfl ?_)
  show wpAny _ _ (if (Value.ref x == Value.none) = true then _ else _) _ _ s
  rw [if_neg (show ¬ ((Value.ref x == Value.none) = true) from Bool.false_ne_true)]
  show wpAny _ _ (field (.ref I) 1 >>= _) _ _ s
  refine wpAny_bind (wpAny_field hit rfl (x := .int i 0) rfl ?_)
  show wpAny _ _ (seqItems? (.ref x) >>= _) _ _ s
  refine wpAny_bind (wpAny_seqItems ho hd ?_)
  simp only [Int.toNat_natCast, hv]
  refine wpAny_bind (wpAny_setField hit rfl (by simp) (wpAny_pure ⟨v, rfl, wpAny_pure (hQ _ ?_ (Heap.SameBut.update ..))⟩))
  rw [Heap.get?_update_self _ hit rfl]
  rfl
theorem ti_end {I x : Addr} {i : Nat} {o : Obj} {vs : Array Value} {c : Nat} {Q : Option Value → Shared → Prop} (hh : A.handled = none) (hit : s.heap.get? I = some (tiObj x i)) (ho : s.heap.get? x = some o) (hd : o.data = .seq vs c) (hv : vs[i]? = none)
    (hQ : ∀ h', Heap.ExtBut I s.heap h' → Q none { s with heap := h' }) : wpAny (model prog w) A (pyNext (.ref I)) Q E s := by
  have hT : s.TypeIs (.ref I) "tuple_iterator" := ⟨_, hit, rfl⟩
  unfold pyNext
  refine wpAny_bind (wpAny_attempt (wpAny_callSpecial?_slot (name := Str.ofString "__next__") hT PySem.F.slot_tuple_iterator_next
    (wpAny_call_entry PySem.F.slot_tuple_iterator_next hT PySem.F.entry_tuple_iterator_next ?_ (PySem.F.args_tuple_iterator_next_1 _))))
  show wpAny _ _ (field (.ref I) 0 >>= _) _ _ s
  refine wpAny_bind (wpAny_field hit rfl (x := .ref x) rfl ?_)
  show wpAny _ _ (if (Value.ref x == Value.none) = true then _ else _) _ _ s
  rw [if_neg (show ¬ ((Value.ref x == Value.none) = true) from Bool.false_ne_true)]
  show wpAny _ _ (field (.ref I) 1 >>= _) _ _ s
  refine wpAny_bind (wpAny_field hit rfl (x := .int i 0) rfl ?_)
  show wpAny _ _ (seqItems? (.ref x) >>= _) _ _ s
  refine wpAny_bind (wpAny_seqItems ho hd ?_)
  simp only [Int.toNat_natCast, hv]
  refine wpAny_bind (wpAny_rule (wpAny_bind (wpAny_setField hit rfl (by simp) ?_)))
  show wpAny _ _ (newExc (.type "StopIteration") [] >>= _) _ _ _
  refine wpAny_bind ?_
  simp only [newExc, newTuple]
  refine wpAny_bind (wpAny_newObj_type ?_ (by size_fits))
  refine wpAny_bind (m := firstArgMember _ _) (wpAny_of_eq (a := Value.none) (by first | rfl | (simp only [firstArgMember]; rfl)) ?_)
  refine wpAny_newObj_type ?_ (by size_fits)
  simp only [raiseNew]
  refine wpAny_bind (wpAny_handled ?_)
  rw [show A.in1.handled = none from hh]
  refine wpAny_bind (wpAny_pure (wpAny_throw ?_))
  refine wpAny_bind (wpAny_isInstance (T := "StopIteration") (b := true) ⟨_, Heap.get?_push_size _ rfl, rfl⟩ isSubtype_stop ?_)
  exact wpAny_pure (hQ _ (((Heap.SameBut.update ..).extBut.push _).push _))
theorem walks_ti (hh : A.handled = none) (I x : Addr) (hne : x ≠ I) (o : Obj) (vs : Array Value) (c : Nat) (hd : o.data = .seq vs c) :
    Walks prog w A I [I, x] [I] vs.size (fun i v => vs[i]? = some v) (fun i h => h.get? I = some (tiObj x i) ∧ h.get? x = some o) where
  sub := fun b hb => by simp at hb; simp [hb]
  frame := fun _ _ _ st hk => ⟨hk I (by simp) _ st.1, hk x (by simp) _ st.2⟩
  item := fun i s Q E hi st hQ => by
    refine ti_item st.1 st.2 hd (v := vs[i]) (by simp [hi]) fun h' hit' hs' => ?_
    exact hQ _ h' s.toks (by simp [hi]) ⟨hit', by rw [hs'.2 x hne]; exact st.2⟩ fun b o hb e => hs'.extBut b o (fun h => hb (by simp [h])) e
  done := fun s Q E st hQ => ti_end hh st.1 st.2 hd (by simp) fun h' he' => hQ h' s.toks fun b o hb e => he' b o (fun h => hb (by simp [h])) e
  self := fun i s Q E st hQ => wpAny_pyIter_tupleiter ⟨_, st.1, rfl, rfl⟩ hQ
variable {x dx : Addr} {vs : Array Value} {c : Nat}
theorem typ_mis (hx : s.heap.get? x = some (misObj dx vs c)) : Looks (model prog w) s.heap (typeOf (.ref x)) (.ref 910) := (Looks.ld (part := none) hx).andThen .now
theorem inst_mis (X : (K w.params).In s.heap) (hx : s.heap.get? x = some (misObj dx vs c)) : Looks (model prog w) s.heap (isInstance (.ref x) (.type "tuple")) true := (typ_mis hx).andThen (top910 X)
theorem iter_mis {Q : Value → Shared → Prop} (X : (K w.params).In s.heap) (hx : s.heap.get? x = some (misObj dx vs c))
    (h : Q (.ref s.heap.objs.size) { s with heap := s.heap.push (tiObj x 0) }) : wpAny (model prog w) A (pyIter (.ref x)) Q E s := by
  have sp : Looks (model prog w) s.heap (specialOf (.ref x) (Str.ofString "__iter__")) (some (.builtin "tuple.__iter__")) := (typ_mis hx).andThen (iter910 X)
  have bd := PySem.F.slot_tuple_iter.bind (.ref x)
  have cl : wpAny (model prog w) A (call (.builtin "tuple.__iter__") [.ref x]) (fun v s' => v = .ref s.heap.objs.size ∧ s' = { s with heap := s.heap.push (tiObj x 0) }) E s := by
    have hq : (Code.builtin "tuple.__iter__" ⟨[.ref x], []⟩).quiet = true := Code.quiet_builtin _ (by decide +kernel)
    refine wpAny_call ?_
    refine codeAny_call_builtin_at hq PySem.F.entry_tuple_iter ?_
    refine check_slot (i := "tuple.__iter__") (self := .ref x) (rest := []) (kw := []) (owner := "tuple") (n := "__iter__") kind_ti split_ti (inst_mis X hx) (PySem.F.args_tuple_iter_1 _) ?_
    generalize A.under _ = A'
    show wpAny _ _ (newFields "tuple_iterator" [.ref x, rawInt 0] >>= _) _ _ _
    unfold newFields
    refine wpAny_bind (wpAny_newObj_type (wpAny_pure ⟨rfl, rfl⟩) (by size_fits))
  have fin : wpAny (model prog w) A (call (.builtin "tuple.__iter__") [.ref x] >>= fun v => pure (some v)) (fun r s' => r = some (.ref s.heap.objs.size) ∧ s' = { s with heap := s.heap.push (tiObj x 0) }) E s :=
    wpAny_bind (wpAny_mono cl (fun v s' hz => wpAny_pure (by obtain ⟨rfl, rfl⟩ := hz; exact ⟨rfl, rfl⟩)) fun _ _ z => z)
  have one : ∀ refuse : Sem Value, wpAny (model prog w) A (callSpecialIfBoundUnlessNone? (.ref x) "__iter__" refuse) (fun r s' => r = some (.ref s.heap.objs.size) ∧ s' = { s with heap := s.heap.push (tiObj x 0) }) E s := by
    intro refuse
    simp only [callSpecialIfBoundUnlessNone?, bindSpecialIfBound?]
    refine wpAny_holding (wpAny_bind (wpAny_bind (wpAny_bind ((typ_mis hx).here ((iter910 X).here ?_)))))
    refine wpAny_bind (wpAny_askSetting (wpAny_ite ?_))
    try dsimp only
    rw [bd]
    have fin2 : wpAny (model prog w) A (if (Value.builtin "tuple.__iter__" == Value.none) = true then (refuse >>= fun v => pure (some v)) else (call (.builtin "tuple.__iter__") [.ref x] >>= fun v => pure (some v))) (fun r s' => r = some (.ref s.heap.objs.size) ∧ s' = { s with heap := s.heap.push (tiObj x 0) }) E s := by
      rw [if_neg (by decide)]
      exact fin
    split
    · exact wpAny_bind (wpAny_pure (wpAny_pure (by exact fin2)))
    · exact wpAny_tryCatch (wpAny_bind (wpAny_pure (wpAny_pure (by exact fin2))))
  unfold pyIter
  refine wpAny_bind (sp.here ?_)
  try dsimp only
  refine wpAny_bind (wpAny_mono (one _) (fun r s' hz => ?_) fun _ _ z => z)
  obtain ⟨rfl, rfl⟩ := hz
  have hI : (s.heap.push (tiObj x 0)).get? s.heap.objs.size = some (tiObj x 0) := Heap.get?_push_size _ rfl
  refine wpAny_bind (wpAny_specialOf (T := "tuple_iterator") ⟨_, hI, rfl⟩ PySem.F.slot_tuple_iterator_next.lookup ?_)
  exact wpAny_pure h
theorem len_mis {Q : Value → Shared → Prop} (X : (K w.params).In s.heap) (hx : s.heap.get? x = some (misObj dx vs c)) (hz : vs.size ≤ 1000)
    (h : ∀ t tk, Q (.int (vs.size : Int) t) { s with toks := tk }) : wpAny (model prog w) A (call (.builtin "len") [.ref x]) Q E s := by
  have sp : Looks (model prog w) s.heap (specialOf (.ref x) (Str.ofString "__len__")) (some (.builtin "tuple.__len__")) := (typ_mis hx).andThen (len910 X)
  have bd := PySem.F.slot_tuple_len.bind (.ref x)
  have cl : ∀ A' : Around, wpAny (model prog w) A' (call (.builtin "tuple.__len__") [.ref x]) (fun v s' => ∃ t tk, v = .int (vs.size : Int) t ∧ s' = { s with toks := tk }) E s := by
    intro A'
    have hq : (Code.builtin "tuple.__len__" ⟨[.ref x], []⟩).quiet = true := Code.quiet_builtin _ (by decide +kernel)
    refine wpAny_call ?_
    refine codeAny_call_builtin_at hq PySem.F.entry_tuple_len ?_
    refine check_slot (i := "tuple.__len__") (self := .ref x) (rest := []) (kw := []) (owner := "tuple") (n := "__len__") kind_tl split_tl (inst_mis X hx) (PySem.F.args_tuple_len_1 _) ?_
    generalize A'.under _ = A9
    show wpAny _ _ (Builtin.Tuple.tupleItemsOf (.ref x) >>= _) _ _ _
    unfold Builtin.Tuple.tupleItemsOf
    refine wpAny_bind (wpAny_bind (wpAny_seqItems hx rfl ?_))
    try dsimp only
    refine wpAny_pure ?_
    exact wpAny_bind (wpAny_mkInt (wpAny_pure ⟨_, _, rfl, rfl⟩))
  refine call_function_entry kind_len plain_len entry_len (args_len1 _) ?_
  unfold Builtin.«len»
  refine wpAny_bind (m := oneArg "len" _) (wpAny_pure ?_)
  simp only [callSpecial?]
  refine wpAny_bind (wpAny_bind (sp.here ?_))
  try dsimp only
  rw [bd]
  refine wpAny_holding (wpAny_bind (wpAny_pure ?_))
  refine wpAny_bind (wpAny_mono (cl _) (fun v s' hz => ?_) fun _ _ z => z)
  obtain ⟨t, tk, rfl, rfl⟩ := hz
  refine wpAny_pure ?_
  try dsimp only
  refine wpAny_bind (wpAny_holding (wpAny_pure ?_))
  refine wpAny_bind (wpAny_letGo ?_)
  show wpAny _ _ (if ((vs.size : Nat) : Int) < 0 then _ else _) _ _ _
  rw [if_neg (by (first | lia | omega))]
  show wpAny _ _ (if ((vs.size : Nat) : Int) ≥ 2 ^ 63 then _ else _) _ _ _
  rw [if_neg (by (first | lia | omega))]
  exact wpAny_bind (wpAny_mkInt (wpAny_pure ⟨_, rfl, h _ _⟩))
theorem hint_mis {Q : Bool → Shared → Prop} (X : (K w.params).In s.heap) (hx : s.heap.get? x = some (misObj dx vs c)) (hz : vs.size ≤ 1000)
    (h : ∀ b tk, Q b { s with toks := tk }) : wpAny (model prog w) A (Builtin.List.listLengthHint (.ref x)) Q E s := by
  unfold Builtin.List.listLengthHint
  refine wpAny_bind (wpAny_bind ((typ_mis hx).here ((len910 X).here ?_)))
  generalize hid : ("tuple.__len__" : String) = id0
  wp_delta
  rw [show splitId id0 = some ("tuple", "__len__") from by subst hid; decide +kernel]
  subst hid
  refine wpAny_bind ((inst_mis X hx).here ?_)
  refine wpAny_ite_split (fun hab => absurd hab (by decide)) (fun _ => ?_)
  refine wpAny_ite_split (fun hab => ?_) (fun hab => absurd (by decide +kernel) hab)
  refine wpAny_bind ((typ_mis hx).here ?_)
  show wpAny _ _ (call (.builtin "len") [.ref x] >>= _) _ _ _
  refine wpAny_bind (len_mis X hx hz fun t tk => ?_)
  refine wpAny_bind (m := asInt? _) (wpAny_pure ?_)
  exact wpAny_pure (h _ _)
theorem collect_mis {Q : List Value → Shared → Prop} (hh : A.handled = none) (X : (K w.params).In s.heap) (hx : s.heap.get? x = some (misObj dx vs c)) (hz : vs.size ≤ 1000)
    (hQ : ∀ h' tk, (∀ b o', s.heap.get? b = some o' → h'.get? b = some o') → Q vs.toList { s with heap := h', toks := tk }) : wpAny (model prog w) A (collect (.ref x)) Q E s := by
  have hxl : x < s.heap.objs.size := Heap.lt_size hx
  have hSx : s.heap.objs.size ≠ x := Nat.ne_of_gt hxl
  have hz9 : vs.size ≤ sizeLine := by rw [sizeLine_eq]; (first | lia | omega)
  unfold collect
  refine wpAny_bind (wpAny_runValue (codeAny_builtin F.entry_proto_collect ?_))
  rw [Around.under_plainId F.plain_proto_collect _]
  show wpAny _ A.in1 (newList [] >>= fun l => again (.builtin "list.__iadd__" ⟨[l, .ref x], []⟩)) _ _ s
  refine wpAny_bind (wpAny_newObj_type ?_)
  refine wpAny_pure ⟨plainId_quiet F.plain_list_iadd _, codeAny_builtin F.entry_list_iadd ?_⟩
  rw [Around.under_plainId F.plain_list_iadd _]
  have hS₁ : (s.heap.push { cls := .type "list", data := .seq ([] : List Value).toArray }).get? s.heap.objs.size = some { cls := .type "list", data := .seq ([] : List Value).toArray } := Heap.get?_push_size _ rfl
  have hk₁ : ∀ b o', s.heap.get? b = some o' → (s.heap.push { cls := .type "list", data := .seq ([] : List Value).toArray }).get? b = some o' := fun b o' e => Heap.get?_push_of_some _ e
  have hsz₁ : (s.heap.push { cls := .type "list", data := .seq ([] : List Value).toArray }).objs.size = s.heap.objs.size + 1 := Heap.size_push _ _
  have h1 : Builtin.List.listSameRef (.ref s.heap.objs.size) (.ref x) = false := by simp [Builtin.List.listSameRef, hSx]
  show wpAny _ A.in1 (Builtin.List.listExtendWith (.ref s.heap.objs.size) (.ref x) (.ref s.heap.objs.size)) _ _ _
  generalize hh1 : s.heap.push { cls := .type "list", data := .seq ([] : List Value).toArray } = h1' at *
  have X1 : (K w.params).In h1' := X.keeps hk₁
  have hx1 : h1'.get? x = some (misObj dx vs c) := hk₁ _ _ hx
  unfold Builtin.List.listExtendWith
  refine wpAny_bind ((typ_mis (s := { s with heap := h1' }) hx1).here ?_)
  rw [if_neg (by rw [h1]; decide)]
  refine wpAny_bind (iter_mis (s := { s with heap := h1' }) X1 hx1 ?_)
  have hk₂ : ∀ b o', h1'.get? b = some o' → (h1'.push (tiObj x 0)).get? b = some o' := fun b o' e => Heap.get?_push_of_some _ e
  have hI2 : (h1'.push (tiObj x 0)).get? h1'.objs.size = some (tiObj x 0) := Heap.get?_push_size _ rfl
  have X2 := X1.keeps hk₂
  have hx2 := hk₂ _ _ hx1
  have hS2 := hk₂ _ _ hS₁
  try dsimp only
  have hIne : h1'.objs.size ≠ s.heap.objs.size := by rw [hsz₁]; (first | lia | omega)
  have hIx : x ≠ h1'.objs.size := by rw [hsz₁]; exact Nat.ne_of_lt (Nat.lt_succ_of_lt hxl)
  have hIge : s.heap.objs.size < h1'.objs.size := by rw [hsz₁]; (first | lia | omega)
  generalize hh2 : h1'.push (tiObj x 0) = h2' at *
  refine wpAny_bind (wpAny_holding (hint_mis (s := { s with heap := h2' }) X2 hx2 hz fun b tk => ?_))
  have fin : ∀ (R : Result → Shared → Prop), (∀ s' acc c, s'.heap.get? s.heap.objs.size = some { cls := .type "list", dict := none, data := .seq acc c, slots := #[] } → Q acc.toList s' → R (.ok (.ret (.ref s.heap.objs.size))) s') →
      ∀ h3 tk3 c3, h3.get? s.heap.objs.size = some { cls := .type "list", dict := none, data := .seq #[] c3, slots := #[] } → h3.get? h1'.objs.size = some (tiObj x 0) → h3.get? x = some (misObj dx vs c) → (∀ b o', s.heap.get? b = some o' → h3.get? b = some o') →
      codeAny (model prog w) A (.builtin "list.extend.loop" ⟨[.ref s.heap.objs.size, .ref h1'.objs.size, .ref s.heap.objs.size], []⟩) R { s with heap := h3, toks := tk3 } := by
    intro R hR
    intro h3 tk3 c3 g1 g2 g3 gk
    have W := (walks_ti (prog := prog) (w := w) (A := A.in1) (by simp [hh]) h1'.objs.size x hIx (misObj dx vs c) vs c rfl).toS
    refine codeAny_extend_loopS W hz9 s.heap.objs.size (by simp [hIne.symm, hSx]) _ _ 0 _ #[] c3 rfl (Nat.zero_le _) ⟨g2, g3⟩ g1 (ItemsOf.nil _) fun s' acc' c' mv gS hit => ?_
    refine hR s' acc' c' gS ?_
    have he : acc' = vs := by
      apply Array.ext_getElem?
      intro j
      cases hj : acc'[j]? with
      | some v => exact (hit.2 j v hj).symm
      | none =>
        have := hit.1
        simp at hj
        simp
        (first | lia | omega)
    rw [he]
    obtain ⟨hh9, g9, d9, t9, os9⟩ := s'
    obtain ⟨mk, mg, md, mo, _⟩ := mv
    dsimp only at mk mg md mo gS ⊢
    subst mg; subst md; subst mo
    refine hQ hh9 t9 fun b o' e => mk b o' ?_ (gk b o' e)
    have hb : b < s.heap.objs.size := Heap.lt_size e
    simp only [List.mem_cons, List.not_mem_nil, or_false, not_or]
    exact ⟨Nat.ne_of_lt hb, Nat.ne_of_lt (Nat.lt_trans hb hIge)⟩
  have hR9 : ∀ s' acc c, s'.heap.get? s.heap.objs.size = some { cls := .type "list", dict := none, data := .seq acc c, slots := #[] } → Q acc.toList s' → wpAny (model prog w) A (do
      match (← load s.heap.objs.size).data with
        | Data.seq xs _ => pure xs.toList
        | _ => unsupported "internal:collect") Q E s' := fun s' acc c gS hq => wpAny_bind (wpAny_load gS (wpAny_pure hq))
  split
  · refine wpAny_bind (wpAny_rule ?_)
    refine wpAny_bind ?_
    show wpAny _ A.in1 (updateSeq s.heap.objs.size (·.push .none) >>= fun _ => updateSeq s.heap.objs.size (·.pop)) _ _ _
    refine wpAny_bind (wpAny_updateSeq hS2 rfl ?_)
    have hS3 := Heap.get?_update_self (Obj.mapSeq (·.push Value.none)) hS2 rfl
    have ho3 : ∀ b, b ≠ s.heap.objs.size → (h2'.update s.heap.objs.size (Obj.mapSeq (·.push Value.none))).get? b = h2'.get? b := fun b hb => Heap.get?_update_other _ _ hb.symm
    try dsimp only
    generalize h2'.update s.heap.objs.size (Obj.mapSeq (·.push Value.none)) = h3' at *
    refine wpAny_updateSeq (hz := by seq_fits) hS3 rfl ?_
    have hS4 := Heap.get?_update_self (Obj.mapSeq (·.pop)) hS3 rfl
    have ho4 : ∀ b, b ≠ s.heap.objs.size → (h3'.update s.heap.objs.size (Obj.mapSeq (·.pop))).get? b = h3'.get? b := fun b hb => Heap.get?_update_other _ _ hb.symm
    try dsimp only
    generalize h3'.update s.heap.objs.size (Obj.mapSeq (·.pop)) = h4' at *
    refine wpAny_pure ⟨plainId_quiet PySem.F.plain_extend_loop _, ?_⟩
    refine fin _ (fun s' acc c gS hq => hR9 s' acc c gS hq) h4' tk 2 hS4 ?_ ?_ ?_
    · rw [ho4 _ hIne, ho3 _ hIne]; exact hI2
    · rw [ho4 _ hSx.symm, ho3 _ hSx.symm]; exact hx2
    · intro b o' e
      have hb : b ≠ s.heap.objs.size := Nat.ne_of_lt (Heap.lt_size e)
      rw [ho4 _ hb, ho3 _ hb]
      exact hk₂ _ _ (hk₁ _ _ e)
  · refine wpAny_pure ⟨plainId_quiet PySem.F.plain_extend_loop _, ?_⟩
    exact fin _ (fun s' acc c gS hq => hR9 s' acc c gS hq) h2' tk 0 hS2 hI2 hx2 fun b o' e => hk₂ _ _ (hk₁ _ _ e)
end
end
section
set_option maxRecDepth 1000000
set_option tactic.hygienic false
section
variable {prog : Program} {w : World} {A : Around} {E : Value → Shared → Prop} {s : Shared} {x dx : Addr} {vs : Array Value} {c : Nat}
theorem code_tuple_mis {Q₁ : Value → Shared → Prop} (hh : A.handled = none) (X : (K w.params).In s.heap) (hx : s.heap.get? x = some (misObj dx vs c)) (hz : vs.size ≤ 1000)
    (h : ∀ (h' : Heap) tk, (∀ b o', s.heap.get? b = some o' → h'.get? b = some o') → Q₁ (.ref h'.objs.size) { s with heap := h'.push { cls := .type "tuple", data := .seq vs }, toks := tk }) :
    codeAny (model prog w) A (.call (.builtin "tuple.__new__") ⟨[.type "tuple", .ref x], []⟩) (wants Q₁ E) s := by
  refine codeAny_of_tree ?_
  show wpAny _ A.in1 (do checkBuiltinCall "tuple.__new__" ⟨[.type "tuple", .ref x], []⟩; again (.builtin "tuple.__new__" ⟨[.type "tuple", .ref x], []⟩)) _ _ s
  have hp : plainId "tuple.__new__" = true := by decide +kernel
  refine wpAny_bind (wpAny_of_eq (PySem.F.newCall_tuple_1 _) (wpAny_pure ⟨plainId_quiet hp _, codeAny_builtin PySem.F.entry_tuple_new ?_⟩))
  rw [Around.under_plainId hp _]
  unfold Builtin.«tuple.__new__»
  try dsimp only
  refine wpAny_bind (wpAny_of_eq (a := true) (by rfl) ?_)
  rw [if_neg (by decide)]
  refine wpAny_bind (wpAny_of_eq sub_tuple_self ?_)
  rw [if_neg (by decide)]
  rw [if_neg (by decide +kernel)]
  refine wpAny_bind (wpAny_of_eq madeHere_tuple ?_)
  refine wpAny_bind (wpAny_of_eq init_tuple_lookup ?_)
  rw [if_pos (by decide)]
  refine wpAny_bind (wpAny_pure ?_)
  refine wpAny_bind (wpAny_pure ?_)
  rw [if_pos (by decide)]
  unfold Builtin.Tuple.tupleIsExact
  refine wpAny_bind (wpAny_bind ((typ_mis hx).here (wpAny_pure ?_)))
  rw [if_neg (by decide)]
  refine wpAny_bind (collect_mis hh X hx hz fun h' tk hk => ?_)
  refine wpAny_bind (wpAny_pure ?_)
  have e9 : vs.toList.toArray = vs := by simp
  rw [e9]
  unfold Builtin.Tuple.tupleExact
  have hz9 : vs.size ≤ sizeLine := by rw [sizeLine_eq]; (first | lia | omega)
  refine wpAny_bind (wpAny_newObj_type ?_ (by first | exact hz9 | simpa using hz9))
  exact wpAny_pure (h h' tk hk)
theorem tuple_mis {Q : Value → Shared → Prop} (hh : A.handled = none) (X : (K w.params).In s.heap) (hx : s.heap.get? x = some (misObj dx vs c)) (hz : vs.size ≤ 1000)
    (h : ∀ (h' : Heap) tk, (∀ b o', s.heap.get? b = some o' → h'.get? b = some o') → Q (.ref h'.objs.size) { s with heap := h'.push { cls := .type "tuple", data := .seq vs }, toks := tk }) :
    wpAny (model prog w) A (call (.type "tuple") [.ref x]) Q E s := by
  refine callType_codes (Q₁ := fun obj s₁ => s₁.TypeIs obj "tuple" ∧ Q obj s₁) PySem.F.called_tuple (PySem.F.typeCall_tuple_1 _) PySem.F.entry_object_init ?_ fun obj s₁ h₁ => ?_
  · refine code_tuple_mis (by simp [hh]) X hx hz fun h' tk hk => ⟨⟨_, Heap.get?_push_size _ rfl, rfl⟩, h h' tk hk⟩
  · exact ⟨h₁.1, PySem.F.args_object_init_2 obj _, object_init_meets PySem.F.called_tuple.init.lookup PySem.F.called_tuple.made (by decide) prog w A.in1 _ s₁ ⟨h₁.1, rfl, h₁.2⟩⟩
variable {h₀ : Heap} {L : Addr} {m : Str → Option Value} {news : List (Addr × Obj)}
theorem tupleK {x dx : Nat} {Q : Value → Shared → Prop} (hh : A.handled = none) (F : Fr h₀ L s.heap m) (N : News h₀ L s.heap news) (X₀ : (K w.params).In h₀) (hm : (x, misObj dx vs c) ∈ news) (hz : vs.size ≤ 1000)
    (h : ∀ (T : Nat) h' tk, (∀ p ∈ news, p.1 < T) → Fr h₀ L h' m → News h₀ L h' ((T, { cls := .type "tuple", data := .seq vs }) :: news) → Q (.ref T) { s with heap := h', toks := tk }) :
    wpAny (model prog w) A (call (.type "tuple") [.ref x]) Q E s := by
  refine tuple_mis hh (X₀.keeps F.keep) (N _ hm).1 hz fun h' tk hk => ?_
  have F1 : Fr h₀ L h' m := by
    obtain ⟨oL, a1, a2, hL, a3⟩ := F.ns
    exact ⟨⟨oL, a1, a2, hk _ _ hL, a3⟩, fun b o e => hk _ _ (F.keep b o e), F.above⟩
  have N1 : News h₀ L h' news := fun p hp => ⟨hk _ _ (N p hp).1, (N p hp).2⟩
  exact h _ _ tk (fun p hp => Heap.lt_size (N1 p hp).1) (F1.push _) (N1.push F1 _)
end
end
section
open PySem PySem.W PySem.Calls PyProof.Rows PySem.Spec PySem.SeqAt
set_option maxHeartbeats 4000000
set_option tactic.hygienic false
noncomputable abbrev tupO (vs : Array Value) (c : Nat) : Obj := { cls := .type "tuple", data := .seq vs c }
noncomputable abbrev nulO : Obj := { cls := .type "object", data := .plain }
section
variable {prog : Program} {w : World} {A : Around} {E : Value → Shared → Prop} {s : Shared}
theorem sub_tuple_object : isSubtype (.type "tuple") (.type "object") = pure true := by rw [isSubtype_type]; kernel_rfl
theorem sub_object_tuple : isSubtype (.type "object") (.type "tuple") = pure false := by rw [isSubtype_type]; kernel_rfl
theorem tuple_eq_object {T Z : Addr} {Q : Value → Shared → Prop} {o : Obj} (hT : s.TypeIs (.ref T) "tuple") (hZ : s.TypeIs (.ref Z) "object") (h : Q .notImplemented s) :
    wpAny (model prog w) A (call (.builtin "tuple.__eq__") [.ref T, .ref Z]) Q E s := by
  refine wpAny_call_entry PySem.F.slot_tuple_eq hT PySem.F.entry_tuple_eq ?_ (PySem.F.args_tuple_eq_2 _ _)
  show wpAny _ _ (isInstance (.ref Z) (.type "tuple") >>= _) _ _ _
  refine wpAny_bind (wpAny_isInstance hZ sub_object_tuple ?_)
  rw [if_pos (by decide)]
  exact wpAny_pure ⟨_, rfl, h⟩
theorem isSame_nul {x y : Addr} {ox oy : Obj} {R : Bool → Shared → Prop} (hxy : x ≠ y) (hx : s.heap.get? x = some ox) (hy : s.heap.get? y = some oy) (hnt : oy.cls ≠ .type "tuple")
    (h : R false s) : wpAny (model prog w) A (isSame (.ref x) (.ref y)) R E s := by
  show wpAny _ A (if (x == y) = true then pure true else _) R E s
  rw [if_neg (by simpa using hxy)]
  refine wpAny_bind (wpAny_load hx (wpAny_bind (wpAny_load hy ?_)))
  split
  · rename_i _ h1 _ _; exact absurd h1 hnt
  · exact wpAny_pure h
theorem object_eq_tuple {T Z : Addr} {Q : Value → Shared → Prop} {oT oZ : Obj} (hne : Z ≠ T) (hT : s.heap.get? T = some oT) (hZ : s.heap.get? Z = some oZ) (cZ : oZ.cls = .type "object") (h : Q .notImplemented s) :
    wpAny (model prog w) A (call (.builtin "object.__eq__") [.ref Z, .ref T]) Q E s := by
  refine wpAny_call_entry PySem.F.slot_object_eq ⟨_, hZ, cZ⟩ PySem.F.entry_object_eq ?_ (PySem.F.args_object_eq_2 _ _)
  show wpAny _ _ (isSame (.ref Z) (.ref T) >>= _) _ _ _
  refine wpAny_bind (wpAny_isSame_ref_other hne hZ hT (by rw [cZ]; decide) ?_)
  rw [if_neg (by decide)]
  exact wpAny_pure ⟨_, rfl, h⟩
theorem eq_nul {T Z : Addr} {Q : Value → Shared → Prop} {oT oZ : Obj} (hu : A.units < cLine) (hT : s.heap.get? T = some oT) (cT : oT.cls = .type "tuple") (hZ : s.heap.get? Z = some oZ) (cZ : oZ.cls = .type "object") (h : Q (.bool false) s) :
    wpAny (model prog w) A (compareOp .Eq (.ref Z) (.ref T)) Q E s := by
  have hne : Z ≠ T := by
    rintro rfl
    rw [hT] at hZ
    obtain rfl := Option.some.inj hZ
    rw [cT] at cZ
    exact absurd cZ (by decide)
  have tT : s.TypeIs (.ref T) "tuple" := ⟨_, hT, cT⟩
  have tZ : s.TypeIs (.ref Z) "object" := ⟨_, hZ, cZ⟩
  show wpAny _ A (richCompare .Eq (.ref Z) (.ref T)) Q E s
  simp only [richCompare, cmpInfo, tZ.oneThing_none]
  refine wpAny_holding ?_
  refine wpAny_bind (wpAny_cRoomFor_or (.inr hu) ?_)
  refine wpAny_bind (wpAny_typeOf tZ ?_)
  refine wpAny_bind (wpAny_typeOf tT ?_)
  rw [if_pos (by decide)]
  refine wpAny_bind (wpAny_of_eq sub_tuple_object ?_)
  rw [if_pos rfl]
  refine wpAny_bind (wpAny_tryCompare_declines tT PySem.F.slot_tuple_eq (tuple_eq_object (o := oT) tT tZ ⟨rfl, ?_⟩))
  try dsimp only
  refine wpAny_bind (wpAny_tryCompare_declines tZ PySem.F.slot_object_eq (object_eq_tuple hne hT hZ cZ ⟨rfl, ?_⟩))
  try dsimp only
  rw [if_neg (by decide)]
  refine wpAny_bind (wpAny_rule ?_)
  exact wpAny_bind (wpAny_isSame_ref_other hne hZ hT (by rw [cZ]; decide) (wpAny_pure h))
end
end
section
open PySem PySem.W PySem.Calls PyProof.Rows PySem.Spec PySem.SeqAt
set_option maxHeartbeats 4000000
set_option tactic.hygienic false
theorem eqvAll_strs : ∀ xs ys : List Str, PyData.eqvAll (xs.map PyData.str) (ys.map PyData.str) = decide (xs = ys)
  | [], [] => by simp [PyData.eqvAll]
  | [], _ :: _ => by simp [PyData.eqvAll]
  | _ :: _, [] => by simp [PyData.eqvAll]
  | a :: r, b :: t => by
    simp only [List.map_cons, PyData.eqvAll, PyData.eqv, eqvAll_strs r t]
    by_cases h : a = b <;> by_cases h' : r = t <;> simp [h, h']
theorem canLay_strs : ∀ xs : List Str, xs.all PyData.strOk = true → PyData.canLayAll0 (xs.map PyData.str) = true
  | [], _ => rfl
  | x :: r, h => by
    simp only [List.all_cons, Bool.and_eq_true] at h
    simp [PyData.canLayAll0, PyData.canLay0, canLay_strs r h.2, h.1]
theorem depth_strs : ∀ xs : List Str, PyData.depthAll (xs.map PyData.str) = 0
  | [] => rfl
  | _ :: r => by simp [PyData.depthAll, PyData.depth, depth_strs r]
theorem shaped_strs (xs : List Str) (h : xs.all PyData.strOk = true) : SeqAt.shaped (.tuple (xs.map PyData.str)) = true := by
  simp [SeqAt.shaped, PyData.canLay0, PyData.depth, canLay_strs xs h, depth_strs]
theorem readsAll_strs {h : Heap} : ∀ {xs : List Str} {vs : List Value}, StrsAre vs xs → ReadsAll h vs (xs.map PyData.str) []
  | _, _, .nil => .nil
  | _, _, .cons x t r => by
    have := ReadsAll.cons (Reads.str (h := h) x t) (readsAll_strs r)
    simpa using this
/-- a tuple of texts of the ledger -/
noncomputable def IsT (tups : List (Addr × Obj)) (x : List Str) (v : Value) : Prop := ∃ (T : Nat) (items : Array Value) (c : Nat), v = .ref T ∧ (T, tupO items c) ∈ tups ∧ Strs x items ∧ x.all PyData.strOk = true
/-- such a tuple, or the mark at Z -/
noncomputable def ElV (Z : Nat) (tups : List (Addr × Obj)) (a : Option (List Str)) (v : Value) : Prop := match a with
  | none => v = .ref Z
  | some x => IsT tups x v
noncomputable def ListV (Z : Nat) (tups : List (Addr × Obj)) (as : List (Option (List Str))) (vs : Array Value) : Prop := vs.size = as.length ∧ ∀ (k : Nat) (a : Option (List Str)), as[k]? = some a → ∃ v, vs[k]? = some v ∧ ElV Z tups a v
section
variable {prog : Program} {w : World} {A : Around} {E : Value → Shared → Prop} {s : Shared} {h₀ : Heap} {L : Addr} {news tups : List (Addr × Obj)}
theorem IsT.reads {x : List Str} {v : Value} (h : IsT tups x v) (N : News h₀ L s.heap news) (ht : ∀ p ∈ tups, p ∈ news) : Reads s.heap v (.tuple (x.map PyData.str)) [] := by
  obtain ⟨T, items, c, rfl, hm, hst, hok⟩ := h
  exact reads_tuple_at (N _ (ht _ hm)).1 rfl rfl (readsAll_strs hst)
theorem eq_el {Z : Nat} {a : Option (List Str)} {x : List Str} {v u : Value} {Q : Value → Shared → Prop} (hv : ElV Z tups a v) (hu : IsT tups x u) (N : News h₀ L s.heap news) (ht : ∀ p ∈ tups, p ∈ news) (hZ : (Z, nulO) ∈ news) (hr : A.units + 64 < cLine)
    (h : Q (.bool (decide (a = some x))) s) : wpAny (model prog w) A (compareOp .Eq v u) Q E s := by
  cases a with
  | none =>
    obtain rfl : v = .ref Z := hv
    obtain ⟨T, items, c, rfl, hm, hst, hok⟩ := hu
    exact eq_nul (by (first | lia | omega)) (N _ (ht _ hm)).1 rfl (N _ hZ).1 rfl (by simpa using h)
  | some y =>
    have hy : IsT tups y v := hv
    have ok1 := hy
    have ok2 := hu
    obtain ⟨_, _, _, _, _, _, ok1⟩ := ok1
    obtain ⟨_, _, _, _, _, _, ok2⟩ := ok2
    refine eq_dataH (hy.reads N ht) (hu.reads N ht) (shaped_strs _ ok1) (shaped_strs _ ok2) hr ?_
    have e : PyData.eqv (.tuple (y.map PyData.str)) (.tuple (x.map PyData.str)) = decide (some y = some x) := by
      simp only [PyData.eqv, eqvAll_strs]
      simp
    rw [e]
    exact h
theorem is_nul {Z : Nat} {a : Option (List Str)} {v : Value} {Q : Value → Shared → Prop} (hv : ElV Z tups a v) (N : News h₀ L s.heap news) (ht : ∀ p ∈ tups, p ∈ news) (hZ : (Z, nulO) ∈ news)
    (h1 : a = none → Q (.bool true) s) (h2 : ∀ x, a = some x → IsT tups x v → Q (.bool false) s) : wpAny (model prog w) A (compareOp .Is v (.ref Z)) Q E s := by
  cases a with
  | none =>
    obtain rfl : v = .ref Z := hv
    exact wpAny_is_ref_self (h1 rfl)
  | some y =>
    have hy : IsT tups y v := hv
    have hy' := hy
    obtain ⟨T, items, c, rfl, hm, hst, hok⟩ := hy'
    have hT := (N _ (ht _ hm)).1
    have hz := (N _ hZ).1
    have hne : T ≠ Z := by
      rintro rfl
      have e := hT.symm.trans hz
      have e2 : (Value.type "tuple") = Value.type "object" := congrArg Obj.cls (Option.some.inj e)
      exact absurd e2 (by decide)
    show wpAny _ A (do return .bool (← isSame (.ref T) (.ref Z))) Q E s
    exact wpAny_bind (isSame_nul hne hT hz (show (Value.type "object") ≠ Value.type "tuple" by decide) (wpAny_pure (h2 y rfl hy)))
end
end
section
set_option maxRecDepth 1000000
set_option maxHeartbeats 4000000
set_option tactic.hygienic false
theorem mro_object : mroOf (.type "object") = pure [.type "object"] := by rw [mroOf_type]; kernel_rfl
theorem lookup_object_new : typeLookup (.type "object") "__new__" = pure (some (.builtin "object.__new__")) := by rw [typeLookup_type, builtinLookup_eq_fast]; kernel_rfl
theorem slot_object_init : Slot "object" "__init__" "object.__init__" :=
  .of (owner := "object") (n := "__init__") (by rw [typeLookup_type, builtinLookup_eq_fast]; kernel_rfl) (by decide +kernel) (by decide +kernel) (by decide +kernel) (.inl (by decide +kernel)) (by rw [isSubtype_type]; kernel_rfl)
theorem called_object : TypeCalled "object" "object.__new__" "object.__init__" :=
  ⟨by decide +kernel, by decide +kernel, ⟨_, _, mro_object⟩, madeBy_type mro_object lookup_object_new (by decide +kernel), by decide +kernel, by rw [isSubtype_type]; kernel_rfl, slot_object_init⟩
theorem typeCall_object_0 : checkTypeCall "object" ⟨[], []⟩ = pure () := by kernel_rfl
theorem newCall_object_0 : checkBuiltinCall "object.__new__" ⟨[.type "object"], []⟩ = pure () := by kernel_rfl
theorem object_new_run : Builtin.«object.__new__» ⟨[.type "object"], []⟩ = (do ret (← newObj (.type "object") .plain none)) := by kernel_rfl
section
variable {prog : Program} {w : World} {A : Around} {E : Value → Shared → Prop} {s : Shared} {h₀ : Heap} {L : Addr} {m : Str → Option Value} {news : List (Addr × Obj)}
theorem call_object {Q : Value → Shared → Prop} (h : Q (.ref s.heap.objs.size) { s with heap := s.heap.push nulO }) : wpAny (model prog w) A (call (.type "object") []) Q E s := by
  refine callType_codes (Q₁ := fun obj s₁ => obj = .ref s.heap.objs.size ∧ s₁ = { s with heap := s.heap.push nulO }) called_object typeCall_object_0 PySem.F.entry_object_init ?_ fun obj s₁ h₁ => ?_
  · refine codeAny_of_tree ?_
    show wpAny _ A.in1.in1 (do checkBuiltinCall "object.__new__" ⟨[.type "object"], []⟩; again (.builtin "object.__new__" ⟨[.type "object"], []⟩)) _ _ s
    have hp : plainId "object.__new__" = true := by decide +kernel
    refine wpAny_bind (wpAny_of_eq newCall_object_0 (wpAny_pure ⟨plainId_quiet hp _, codeAny_builtin PySem.F.objNew.entry ?_⟩))
    rw [Around.under_plainId hp _, object_new_run]
    refine wpAny_bind ?_
    simp only [newObj]
    unfold newObjAsIs
    exact wpAny_bind (wpAny_alloc (wpAny_pure (wpAny_pure ⟨rfl, rfl⟩)))
  · obtain ⟨rfl, rfl⟩ := h₁
    refine ⟨⟨_, Heap.get?_push_size _ rfl, rfl⟩, oi_args _, ?_⟩
    rw [oi_run]
    exact wpAny_pure ⟨rfl, h⟩
theorem objectK {Q : Value → Shared → Prop} (F : Fr h₀ L s.heap m) (N : News h₀ L s.heap news) (h : ∀ (Z : Nat) h', (∀ p ∈ news, p.1 < Z) → Fr h₀ L h' m → News h₀ L h' ((Z, nulO) :: news) → Q (.ref Z) { s with heap := h' }) :
    wpAny (model prog w) A (call (.type "object") []) Q E s :=
  call_object (h _ _ (fun p hp => Heap.lt_size (N p hp).1) (F.push _) (N.push F _))
theorem list1K {l : Nat} {vs : Array Value} {c : Nat} {Q : Value → Shared → Prop} (F : Fr h₀ L s.heap m) (N : News h₀ L s.heap news) (hm : (l, listOf vs c) ∈ news) (hz : vs.size ≤ 1000)
    (h : ∀ (D c : Nat) h', Fr h₀ L h' m → News h₀ L h' ((D, listOf vs c) :: news) → (∀ q ∈ news, q.1 < D) → Q (.ref D) { s with heap := h' }) : wpAny (model prog w) A (call (.type "list") [.ref l]) Q E s :=
  list_copyK F N ⟨_, (N _ hm).1, rfl, c, rfl⟩ (fun D c h' F' N' hq => h D c h' F' N' hq) (by rw [sizeLine_eq]; (first | lia | omega))
theorem len1K {l : Nat} {vs : Array Value} {c : Nat} {Q : Value → Shared → Prop} (N : News h₀ L s.heap news) (hm : (l, listOf vs c) ∈ news) (hz : vs.size ≤ 1000)
    (h : ∀ t tk, Q (.int (vs.size : Int) t) { s with toks := tk }) : wpAny (model prog w) A (call (.builtin "len") [.ref l]) Q E s :=
  call_len_list ⟨_, (N _ hm).1, rfl, c, rfl⟩ (by (first | lia | omega)) (h _ _)
theorem item1K {l : Nat} {vs : Array Value} {c : Nat} {k : Nat} {ki : Int} {u : Tok} {v : Value} {value slice : PySem.Expr} {Q : Value → Shared → Prop} (N : News h₀ L s.heap news) (hm : (l, listOf vs c) ∈ news) (hz : vs.size ≤ 1000) (hk : ki = (k : Int)) (hv : vs[k]? = some v) (h : Q v s)
    (hs : subscripted slice false (.ref l) (.int ki u) = operate [.ref l, .int ki u] (getItem (.ref l) (.int ki u)) := by with_unfolding_all rfl) (hg : ∀ r, letTemporaryGo value (.ref l) r = pure () := by intro _; with_unfolding_all rfl) :
    wpAny (model prog w) A (subscriptTail value slice (.ref l) (.int ki u)) Q E s := by
  subst hk
  have hlt : k < vs.size := by
    rcases Nat.lt_or_ge k vs.size with h1 | h1
    · exact h1
    · rw [Array.getElem?_eq_none h1] at hv; cases hv
  exact item_list ⟨_, (N _ hm).1, rfl, c, rfl⟩ (by (first | lia | omega)) (by (first | lia | omega)) (by simpa using hv) h hs hg
end
end
section
set_option maxHeartbeats 4000000
set_option tactic.hygienic false
noncomputable def REnd (h₀ : Heap) (L : Addr) (own : List (Addr × Obj)) (J : (Str → Option Value) → List (Addr × Obj) → Prop) (s₁ s₂ : Shared) : Prop :=
  ∃ h' tk m' news', s₂ = { s₁ with heap := h', toks := tk } ∧ Fr h₀ L h' m' ∧ News h₀ L h' (own ++ news') ∧ (∀ p ∈ news', ∀ q ∈ own, p.1 ≠ q.1) ∧ J m' news'
noncomputable def RPost (h₀ : Heap) (L : Addr) (own : List (Addr × Obj)) (J : (Str → Option Value) → List (Addr × Obj) → Prop) (s₁ : Shared) (Q : Flow → Shared → Prop) (f : Flow) (s₂ : Shared) : Prop :=
  match f with
  | .ret v => Q (.ret v) s₂
  | .brk => Q .next s₂
  | _ => REnd h₀ L own J s₁ s₂
theorem rpost_gen {M : Model} {A : Around} {E : Value → Shared → Prop} {s s₁ : Shared} {h₀ : Heap} {L : Addr} {own : List (Addr × Obj)} {J : (Str → Option Value) → List (Addr × Obj) → Prop} {Q : Flow → Shared → Prop} {U : Sem Flow}
    (H : ∀ QF : Flow → Shared → Prop, (∀ h' tk m' news', Fr h₀ L h' m' → News h₀ L h' (own ++ news') → (∀ p ∈ news', ∀ q ∈ own, p.1 ≠ q.1) → J m' news' → QF .next { s₁ with heap := h', toks := tk }) →
      (∀ h' tk m' news', Fr h₀ L h' m' → News h₀ L h' (own ++ news') → (∀ p ∈ news', ∀ q ∈ own, p.1 ≠ q.1) → J m' news' → QF .cont { s₁ with heap := h', toks := tk }) → wpAny M A U QF E s) : wpAny M A U (RPost h₀ L own J s₁ Q) E s := H _ (fun _ _ _ _ a b c d => ⟨_, _, _, _, rfl, a, b, c, d⟩) (fun _ _ _ _ a b c d => ⟨_, _, _, _, rfl, a, b, c, d⟩)
theorem rpost_gen2 {M : Model} {A : Around} {E : Value → Shared → Prop} {s s₁ : Shared} {h₀ : Heap} {L : Addr} {own : List (Addr × Obj)} {J : (Str → Option Value) → List (Addr × Obj) → Prop} {Q : Flow → Shared → Prop} {α : Type} {T : Sem α} {U : Sem Flow}
    (H : ∀ QF : Flow → Shared → Prop, (∀ h' tk m' news', Fr h₀ L h' m' → News h₀ L h' (own ++ news') → (∀ p ∈ news', ∀ q ∈ own, p.1 ≠ q.1) → J m' news' → QF .next { s₁ with heap := h', toks := tk }) →
      (∀ h' tk m' news', Fr h₀ L h' m' → News h₀ L h' (own ++ news') → (∀ p ∈ news', ∀ q ∈ own, p.1 ≠ q.1) → J m' news' → QF .cont { s₁ with heap := h', toks := tk }) → wpAny M A T (fun _ s₂ => wpAny M A U QF E s₂) E s) : wpAny M A T (fun _ s₂ => wpAny M A U (RPost h₀ L own J s₁ Q) E s₂) E s := H _ (fun _ _ _ _ a b c d => ⟨_, _, _, _, rfl, a, b, c, d⟩) (fun _ _ _ _ a b c d => ⟨_, _, _, _, rfl, a, b, c, d⟩)
section
variable {prog : Program} {w : World} {A : Around} {E : Value → Shared → Prop} {s : Shared} {env : Env} {h₀ : Heap} {x : Str} {target : PySem.Expr} {body : List Stmt} {Q : Flow → Shared → Prop} {m₀ : Str → Option Value} {news : List (Addr × Obj)}
theorem range_inv {r : Addr} {a b : Int} {t u v : Tok} {n : Nat} (J : Nat → (Str → Option Value) → List (Addr × Obj) → Prop) (hh : A.handled = none) (hr : IsRange s.heap r a b 1 t u v) (hsmall : Builtin.Range.small a b 1 = true) (hn : Builtin.Range.rangeSize a b 1 = (n : Int))
    (F : Fr h₀ env.locals s.heap m₀) (N : News h₀ env.locals s.heap news) (h0 : J 0 m₀ news)
    (turn : ∀ i t m₁ news₁ h tk (I : Nat) io, i < n → J i m₁ news₁ → (∀ p ∈ news₁, p.1 ≠ I) → (∀ p ∈ news, p.1 < I) → Fr h₀ env.locals h (fun y => if y = x then some (.int (a + (i : Nat)) t) else m₁ y) → News h₀ env.locals h ((I, io) :: news₁) →
      wpAny (model prog w) A (execs body env) (RPost h₀ env.locals [(I, io)] (J (i + 1)) { s with heap := h, toks := tk } Q) E { s with heap := h, toks := tk })
    (done : ∀ h tk m' news', Fr h₀ env.locals h m' → News h₀ env.locals h news' → J n m' news' → Q .next { s with heap := h, toks := tk }) :
    wpAny (model prog w) A (pyIter (.ref r)) (fun it s₂ => LoopAtV prog w A h₀ env x body Q E it s₂) E s := by
  refine wpAny_pyIter_range hr hsmall ?_
  have hlt : ∀ p ∈ news, p.1 < s.heap.objs.size := fun p hp => Heap.lt_size (N p hp).1
  have W : Walks prog w A s.heap.objs.size [s.heap.objs.size] [s.heap.objs.size] n (fun i v => i < n ∧ ∃ t, v = .int (a + i * 1) t)
      (fun i h => IsRangeIter h s.heap.objs.size (a + (i : Nat) * 1) ((n : Int) - (i : Nat)) 1) := (Walks.range hh _ a 1 n).bound
  refine ⟨s.heap.objs.size, _, _, n, _, _, m₀, news, J, rfl, W, ?_, ?_, ?_, ?_, F.push _, (fun p hp => ⟨Heap.get?_push_of_some _ (N p hp).1, (N p hp).2⟩), h0, ?_, ?_⟩
  · intro hm
    exact absurd F.ns.lt ((List.mem_singleton.mp hm) ▸ Nat.lt_irrefl _)
  · intro b hb
    rw [List.mem_singleton.mp hb]
    exact next_is_new F
  · intro p hp hI
    exact absurd (hlt p hp) ((List.mem_singleton.mp hI) ▸ Nat.lt_irrefl _)
  · show IsRangeIter _ _ _ _ _
    rw [hn]
    simpa using Heap.get?_push_size _ rfl
  · rintro i v m₁ news₁ s₁ own ⟨hh', tk', rfl⟩ hin ⟨_, t9, rfl⟩ hJ hoff hown hget hall hst F₁ N₁
    obtain ⟨io, ho⟩ : ∃ io, hh'.get? s.heap.objs.size = some io := ⟨_, hst⟩
    have hio := hall _ (List.mem_singleton.mpr rfl) (next_is_new F) _ ho
    have hone := own_one hown (fun b hb => .inl (List.mem_singleton.mp hb)) ho N₁
    have N₂ := news_one hio N₁
    have e1 : a + (i : Int) * 1 = a + (i : Int) := by (first | lia | omega)
    rw [e1] at F₁
    refine wpAny_mono (turn i t9 m₁ news₁ hh' tk' s.heap.objs.size io hin hJ (fun p hp => by simpa using hoff p hp) hlt F₁ N₂) (fun f s₂ p => ?_) fun _ _ e => e
    have fin : REnd h₀ env.locals [(s.heap.objs.size, io)] (J (i + 1)) { s with heap := hh', toks := tk' } s₂ → LoopStepU h₀ env.locals [s.heap.objs.size] own (J (i + 1)) { s with heap := hh', toks := tk' } .next s₂ := by
      rintro ⟨h', tk, m', news', e, F', N', hd, hj⟩
      refine ⟨rfl, h', tk, m', news', e, F', fun p hp => ?_, fun p hp => ?_, hj⟩
      · rcases List.mem_append.mp hp with hp | hp
        · rw [hone p hp]
          exact N' _ (.head _)
        · exact N' _ (List.mem_append_right _ hp)
      · intro hI
        exact hd p hp _ (.head _) (List.mem_singleton.mp hI)
    cases f with
    | ret v => exact .ret p
    | brk => exact .brk p
    | next => exact .next (fin p)
    | cont => exact .cont (fin p)
  · exact fun h' tk m' news' F' N' _ hJ => done h' tk m' news' F' N' hJ
noncomputable def EnumAt (prog : Program) (w : World) (A : Around) (env : Env) (target : PySem.Expr) (body : List Stmt) (Q : Flow → Shared → Prop) (E : Value → Shared → Prop) (it : Value) (s₂ : Shared) : Prop :=
  codeAny (model prog w) A (.forLoop target it body [] env) (fun r s' => match r with | .ok f => Q f s' | .error e => cameBackBy (model prog w) A env E e s') s₂
theorem For_enum {iter : PySem.Expr} {pos : Pos} (h : wpAny (model prog w) A (eval iter env) (fun xv s₁ => wpAny (model prog w) A (pyIter xv) (fun it s₂ => EnumAt prog w A env target body Q E it s₂) E s₁) E s)
    (hs : ∀ x, foldedSetIterable iter env x = pure x := by intro _; rfl) : wpAny (model prog w) A (exec (.For target iter body [] pos) env) Q E s := wpAny_For h hs
inductive EInv (s : Shared) (S l n : Nat) (h₀ : Heap) (L : Addr) (J : Nat → (Str → Option Value) → List (Addr × Obj) → Prop) (kk : Nat) : Shared → Prop
  | mk (hp : Heap) (tk : Nat) (m' : Str → Option Value) (news' : List (Addr × Obj)) (i : Nat) (old : Value) (he' : IsEnum hp (S + 1) S (i : Nat) old) (hit' : hp.IsListIter S l i) (F' : Fr h₀ L hp m') (N' : News h₀ L hp news') (hd' : ∀ p ∈ news', p.1 ≠ S + 1 ∧ p.1 ≠ S) (hJ' : J i m' news') (hi : i ≤ n) (hk : kk = n + 1 - i) : EInv s S l n h₀ L J kk { s with heap := hp, toks := tk }
theorem enum_inv {elts : List PySem.Expr} {k : Nat} {pos : Pos} {l n : Nat} {vs : Array Value} {c : Nat} (J : Nat → (Str → Option Value) → List (Addr × Obj) → Prop) (hh : A.handled = none) (hE : PassesOwn (model prog w) A env E)
    (F : Fr h₀ env.locals s.heap m₀) (N : News h₀ env.locals s.heap news) (hm : (l, listOf vs c) ∈ news) (h0 : J 0 m₀ news)
    (hJ : ∀ i m₁ news₁, J i m₁ news₁ → ∃ vs c, (l, listOf vs c) ∈ news₁ ∧ vs.size = n)
    (turn : ∀ i t m₁ news₁ h tk (e it T : Nat) eo io v vs c c', i < n → J i m₁ news₁ → (l, listOf vs c) ∈ news₁ → vs[i]? = some v → (∀ p ∈ news₁, p.1 ≠ e ∧ p.1 ≠ it ∧ p.1 < T) → e ≠ it → (∀ p ∈ news, p.1 < it) → it < e → e < T → Fr h₀ env.locals h m₁ →
      News h₀ env.locals h ((T, { cls := .type "tuple", data := .seq #[.int (i : Nat) t, v] c' }) :: (e, eo) :: (it, io) :: news₁) →
      wpAny (model prog w) A (assign (.Tuple elts k pos) env (.ref T)) (fun _ s₂ => wpAny (model prog w) A (execs body env) (RPost h₀ env.locals [(e, eo), (it, io)] (J (i + 1)) { s with heap := h, toks := tk } Q) E s₂) E { s with heap := h, toks := tk })
    (done : ∀ h tk m' news', Fr h₀ env.locals h m' → News h₀ env.locals h news' → J n m' news' → Q .next { s with heap := h, toks := tk }) :
    wpAny (model prog w) A (call (.type "enumerate") [.ref l]) (fun xv s₁ => wpAny (model prog w) A (pyIter xv) (fun it s₂ => EnumAt prog w A env (.Tuple elts k pos) body Q E it s₂) E s₁) E s := by
  have hlt : ∀ p ∈ news, p.1 < s.heap.objs.size := fun p hp => Heap.lt_size (N p hp).1
  refine call_enumerate_list ⟨_, (N _ hm).1, rfl, c, rfl⟩ fun h' he hit hsz hk => ?_
  refine wpAny_pyIter_enum he ?_
  have F1 : Fr h₀ env.locals h' m₀ := F.keeps hk
  have N1 : News h₀ env.locals h' news := fun p hp => ⟨hk _ _ (N p hp).1, (N p hp).2⟩
  have hLs : env.locals < s.heap.objs.size := F.ns.lt
  have hnew : ∀ a, s.heap.objs.size ≤ a → h₀.get? a = none := fun a ha => by
    cases hq : h₀.get? a with
    | none => rfl
    | some o => exact absurd (Heap.lt_size (F.keep _ _ hq)) (Nat.not_lt.mpr ha)
  unfold EnumAt
  refine codeAny_forLoop_any (EInv s s.heap.objs.size l n h₀ env.locals J) ?_ (n + 1) ⟨h', s.toks, m₀, news, 0, .none, he, hit, F1, N1, fun p hp => ⟨Nat.ne_of_lt (Nat.lt_succ_of_lt (hlt p hp)), Nat.ne_of_lt (hlt p hp)⟩, h0, Nat.zero_le _, rfl⟩
  rintro kk s' ⟨hp, tk, m', news', i, old, he', hit', F', N', hd', hJ', hi, rfl⟩
  obtain ⟨vs', c', hl', hz'⟩ := hJ i m' news' hJ'
  have hL' : hp.IsList l vs' := ⟨_, (N' _ hl').1, rfl, c', rfl⟩
  by_cases hlt' : i < n
  · have hx : vs'[i]? = some vs'[i] := Array.getElem?_eq_getElem (by (first | lia | omega))
    refine wpAny_pyNext_enum_item he' hit' hL' hx (Nat.succ_ne_self _) fun h₂ heo hit₂ hT hsz₂ hk₂ => ?_
    dsimp only at hsz₂ hT heo hk₂ ⊢
    have hge : s.heap.objs.size + 1 < hp.objs.size := Heap.lt_size he'
    refine wpAny_letOwnedTupleGo_enum heo fun h₃ he₃ hs₃ => ?_
    dsimp only at hs₃
    have hTe : hp.objs.size ≠ s.heap.objs.size + 1 := by (first | lia | omega)
    have hT3 : h₃.get? hp.objs.size = some { cls := .type "tuple", data := .seq #[.int (i : Nat) tk, vs'[i]] } := by rw [hs₃.2 _ hTe]; exact hT
    have hkk : ∀ b o, b ≠ s.heap.objs.size + 1 → b ≠ s.heap.objs.size → hp.get? b = some o → h₃.get? b = some o := fun b o h1 h2 e => by rw [hs₃.2 _ h1]; exact hk₂ b o h1 h2 e
    have hit3 := hit₂
    obtain ⟨io, hio, hic, hid⟩ := hit3
    have hio3 : h₃.get? s.heap.objs.size = some io := by rw [hs₃.2 _ (Nat.ne_of_lt (Nat.lt_succ_self _))]; exact hio
    have hit3 : h₃.IsListIter s.heap.objs.size l (i + 1) := ⟨io, hio3, hic, hid⟩
    have F3 : Fr h₀ env.locals h₃ m' := by
      obtain ⟨oL, a1, a2, hL, a3⟩ := F'.ns
      refine ⟨⟨oL, a1, a2, hkk _ _ ?_ (Nat.ne_of_lt hLs) hL, a3⟩, fun b o e => ?_, F'.above⟩
      · exact Nat.ne_of_lt (Nat.lt_succ_of_lt hLs)
      · have hb : b < s.heap.objs.size := Heap.lt_size (F.keep b o e)
        exact hkk b o (Nat.ne_of_lt (Nat.lt_succ_of_lt hb)) (Nat.ne_of_lt hb) (F'.keep b o e)
    obtain ⟨eo, heo⟩ : ∃ eo : Obj, eo = { cls := .type "enumerate", dict := none, data := .fields #[.none, .bool false, .ref s.heap.objs.size, rawInt ((i : Int) + 1), .none, vs'[i]], slots := #[] } := ⟨_, rfl⟩
    have he₃' : h₃.get? (s.heap.objs.size + 1) = some eo := by rw [heo]; exact he₃
    have N3 : News h₀ env.locals h₃ ((hp.objs.size, { cls := .type "tuple", data := .seq #[.int (i : Nat) tk, vs'[i]] }) :: (s.heap.objs.size + 1, eo) :: (s.heap.objs.size, io) :: news') := by
      intro q hq
      rcases List.mem_cons.mp hq with rfl | hq
      · exact ⟨hT3, Nat.ne_of_gt (Nat.lt_trans hLs (Nat.lt_of_succ_lt hge)), hnew _ (by (first | lia | omega))⟩
      · rcases List.mem_cons.mp hq with rfl | hq
        · exact ⟨he₃', Nat.ne_of_gt (Nat.lt_succ_of_lt hLs), hnew _ (by (first | lia | omega))⟩
        · rcases List.mem_cons.mp hq with rfl | hq
          · exact ⟨hio3, Nat.ne_of_gt hLs, hnew _ (Nat.le_refl _)⟩
          · exact ⟨hkk _ _ (hd' q hq).1 (hd' q hq).2 (N' q hq).1, (N' q hq).2⟩
    refine wpAny_mono (turn i tk m' news' h₃ (tk + 1) (s.heap.objs.size + 1) s.heap.objs.size hp.objs.size eo io vs'[i] vs' c' 0 hlt' hJ' hl' hx (fun q hq => ⟨(hd' q hq).1, (hd' q hq).2, Heap.lt_size (N' q hq).1⟩) (Nat.succ_ne_self _) hlt (Nat.lt_succ_self _) hge F3 N3)
      (fun _ s₂ hx => wpAny_mono (wpAny_passesOwn hE hx) (fun f s₃ p => ?_) fun _ _ e => e) hE
    have fin : REnd h₀ env.locals [(s.heap.objs.size + 1, eo), (s.heap.objs.size, io)] (J (i + 1)) { s with heap := h₃, toks := tk + 1 } s₃ → ∃ mm, mm < n + 1 - i ∧ EInv s s.heap.objs.size l n h₀ env.locals J mm s₃ := by
      rintro ⟨h4, tk4, m4, news4, rfl, F4, N4, hd4, hj4⟩
      refine ⟨n + 1 - (i + 1), by first | exact sub_step (by assumption) | lia | omega, h4, tk4, m4, news4, i + 1, vs'[i], (by have q := (N4 _ (.head _)).1; rw [heo] at q; exact q), ⟨io, (N4 _ (.tail _ (.head _))).1, hic, hid⟩, F4, fun q hq => N4 q (List.mem_append_right _ hq), fun q hq => ⟨hd4 q hq _ (.head _), hd4 q hq _ (.tail _ (.head _))⟩, hj4, hlt', rfl⟩
    cases f with
    | ret v => exact p
    | brk => exact p
    | next => exact fin p
    | cont => exact fin p
  · obtain rfl : i = n := by (first | lia | omega)
    refine wpAny_pyNext_enum_end hh he' hit' hL' (by simp; (first | lia | omega)) fun h₂ hb => ?_
    refine wpAny_execs_nil ?_
    have F3 : Fr h₀ env.locals h₂ m' := by
      obtain ⟨oL, a1, a2, hL, a3⟩ := F'.ns
      refine ⟨⟨oL, a1, a2, hb _ _ (Nat.ne_of_lt hLs) hL, a3⟩, fun b o e => ?_, F'.above⟩
      exact hb b o (Nat.ne_of_lt (Heap.lt_size (F.keep b o e))) (F'.keep b o e)
    exact done h₂ tk m' news' F3 (fun q hq => ⟨hb _ _ (hd' q hq).2 (N' q hq).1, (N' q hq).2⟩) hJ'
end
end
section
set_option maxHeartbeats 4000000
set_option tactic.hygienic false
noncomputable abbrev Wd := List Str
noncomputable def clrTo (x : Wd) (A : List (Option Wd)) (k : Nat) : List (Option Wd) := A.mapIdx fun p a => if p < k ∧ a = some x then none else a
noncomputable def cntTo (x : Wd) (A : List (Option Wd)) (k : Nat) : Nat := (A.take k).countP fun a => decide (a = some x)
noncomputable def clr (x : Wd) (A : List (Option Wd)) : List (Option Wd) := A.map fun a => if a = some x then none else a
noncomputable def cnt (x : Wd) (A : List (Option Wd)) : Nat := A.countP fun a => decide (a = some x)
theorem clrTo_len (x : Wd) (A : List (Option Wd)) (k : Nat) : (clrTo x A k).length = A.length := by simp [clrTo]
theorem clrTo_get (x : Wd) (A : List (Option Wd)) (k p : Nat) : (clrTo x A k)[p]? = (A[p]?).map fun a => if p < k ∧ a = some x then none else a := by simp [clrTo]
theorem clrTo_all (x : Wd) (A : List (Option Wd)) : clrTo x A A.length = clr x A := by
  apply List.ext_getElem?
  intro p
  rw [clrTo_get]
  simp only [clr, List.getElem?_map]
  cases h : A[p]? with
  | none => rfl
  | some a =>
    have hp : p < A.length := by
      rcases Nat.lt_or_ge p A.length with q | q
      · exact q
      · rw [List.getElem?_eq_none q] at h; cases h
    simp [hp]
theorem cntTo_all (x : Wd) (A : List (Option Wd)) : cntTo x A A.length = cnt x A := by simp [cntTo, cnt]
theorem clrTo_none (x : Wd) (A : List (Option Wd)) (k : Nat) (h : ∀ p, p < k → A[p]? ≠ some (some x)) : clrTo x A k = A := by
  apply List.ext_getElem?
  intro p
  rw [clrTo_get]
  cases hA : A[p]? with
  | none => rfl
  | some a =>
    simp only [Option.map_some, Option.some.injEq]
    rw [if_neg]
    rintro ⟨h1, rfl⟩
    exact h p h1 hA
theorem cntTo_none (x : Wd) (A : List (Option Wd)) (k : Nat) (h : ∀ p, p < k → A[p]? ≠ some (some x)) : cntTo x A k = 0 := by
  unfold cntTo
  rw [List.countP_eq_zero]
  intro a ha
  obtain ⟨p, hp, e⟩ := List.mem_iff_getElem.mp ha
  have hp' : p < k ∧ p < A.length := by have := hp; rw [List.length_take] at this; (first | lia | omega)
  intro hd
  have hax : a = some x := by simpa using hd
  refine h p hp'.1 ?_
  rw [List.getElem_take] at e
  rw [List.getElem?_eq_getElem hp'.2, e, hax]
theorem cntTo_succ {x : Wd} {A : List (Option Wd)} {k : Nat} {a : Option Wd} (h : A[k]? = some a) : cntTo x A (k + 1) = cntTo x A k + if a = some x then 1 else 0 := by
  unfold cntTo
  rw [List.take_add_one, h]
  simp
theorem clrTo_succ_ne {x : Wd} {A : List (Option Wd)} {k : Nat} {a : Option Wd} (h : A[k]? = some a) (hne : a ≠ some x) : clrTo x A (k + 1) = clrTo x A k := by
  apply List.ext_getElem?
  intro p
  rw [clrTo_get, clrTo_get]
  cases hA : A[p]? with
  | none => rfl
  | some b =>
    simp only [Option.map_some, Option.some.injEq]
    by_cases hpk : p = k
    · subst hpk
      rw [h] at hA
      obtain rfl := Option.some.inj hA
      rw [if_neg (fun q => hne q.2), if_neg (fun q => hne q.2)]
    · have : (p < k + 1) ↔ (p < k) := by (first | lia | omega)
      simp only [this]
theorem clrTo_succ_eq {x : Wd} {A : List (Option Wd)} {k : Nat} (h : A[k]? = some (some x)) : clrTo x A (k + 1) = (clrTo x A k).set k none := by
  apply List.ext_getElem?
  intro p
  have hk : k < A.length := by
    rcases Nat.lt_or_ge k A.length with q | q
    · exact q
    · rw [List.getElem?_eq_none q] at h; cases h
  rw [List.getElem?_set, clrTo_get, clrTo_len]
  by_cases hpk : k = p
  · subst hpk
    rw [h, if_pos rfl, if_pos hk]
    simp
  · rw [if_neg hpk, clrTo_get]
    have : (p < k + 1) ↔ (p < k) := by (first | lia | omega)
    simp only [this]
section
variable {Z : Nat} {tups : List (Addr × Obj)}
theorem ElV.ref {a : Option Wd} {v : Value} (h : ElV Z tups a v) : ∃ V : Nat, v = .ref V := by
  cases a with
  | none => exact ⟨Z, h⟩
  | some x => obtain ⟨T, _, _, e, _⟩ := h; exact ⟨T, e⟩
theorem ListV.get {A : List (Option Wd)} {vs : Array Value} (h : ListV Z tups A vs) {k : Nat} {a : Option Wd} (hk : A[k]? = some a) : ∃ v, vs[k]? = some v ∧ ElV Z tups a v := h.2 k a hk
theorem ListV.set {A : List (Option Wd)} {vs : Array Value} (h : ListV Z tups A vs) (k : Nat) : ListV Z tups (A.set k none) (vs.setIfInBounds k (.ref Z)) := by
  refine ⟨by simp [h.1], fun p a hp => ?_⟩
  rw [List.getElem?_set] at hp
  by_cases e : k = p
  · subst e
    rw [if_pos rfl] at hp
    split at hp
    · rename_i hl
      obtain rfl := Option.some.inj hp
      exact ⟨.ref Z, by simp [Array.getElem?_setIfInBounds, h.1, hl], rfl⟩
    · cases hp
  · rw [if_neg e] at hp
    obtain ⟨v, hv, hel⟩ := h.2 p a hp
    exact ⟨v, by rw [Array.getElem?_setIfInBounds, if_neg e]; exact hv, hel⟩
end
noncomputable def cdB : List Stmt := match st 33 with | .FunctionDef _ _ b .. => b | _ => []
noncomputable def cdScope : Scope := match st 33 with | .FunctionDef _ _ _ _ _ _ sc .. => sc | _ => default
noncomputable abbrev cdEnv (L' : Addr) : Env := envOf (Str.ofString "_count_diff_all_purpose") cdScope L' 920 (.ref 919)
noncomputable def forBody : Stmt → List Stmt | .For _ _ b _ _ => b | _ => []
noncomputable def nth (l : List Stmt) (i : Nat) : Stmt := l.getD i (.Pass ⟨0, 0, 0, 0⟩)
/-- what k_steps needs of a function's inside -/
structure Ty (k : Nat) (w : World) (p : Program) (loose : List Str) (mean : ExcName → Option Value) (mg mb : Str → Option Value) (dp un : Nat) (gd : Option (List Code)) (cn : Str) (cs : Scope) (L : Addr) (a : Addr) (ccd : Value) (cl : List (Str × Addr)) (outer : List Env) (base g : Heap) : Prop where
  hk : cs.kind = .function
  hd : dp + (k + 1) < recursionLimit
  hu : un + 100 * (k + 1) < cLine
  B : Below (ktrTop dp un gd cn cs L a ccd cl outer) base (envX cn cs L a ccd cl :: outer) g
  X : (K w.params).In g
  T : Top p loose mean mg mb g
noncomputable def mcd (lA lB S T : Nat) (mi : Int) (mt : Tok) (ni : Int) (nt : Tok) (Z R : Nat) (i el cs ct j oe df : Option Value) : Str → Option Value := fun y =>
  if y = Str.ofString "s" then some (.ref S) else if y = Str.ofString "t" then some (.ref T) else if y = Str.ofString "m" then some (.int mi mt) else if y = Str.ofString "n" then some (.int ni nt) else
  if y = Str.ofString "NULL" then some (.ref Z) else if y = Str.ofString "result" then some (.ref R) else if y = Str.ofString "i" then i else if y = Str.ofString "elem" then el else
  if y = Str.ofString "cnt_s" then cs else if y = Str.ofString "cnt_t" then ct else if y = Str.ofString "j" then j else if y = Str.ofString "other_elem" then oe else if y = Str.ofString "diff" then df else
  if y = Str.ofString "actual" then some (.ref lA) else if y = Str.ofString "expected" then some (.ref lB) else none
section
variable {lA lB S T : Nat} {mi ni : Int} {mt nt : Tok} {Z R : Nat} {i el cs ct j oe df : Option Value} {v : Value}
theorem mcd_i (y : Str) : (if y = Str.ofString "i" then some v else mcd lA lB S T mi mt ni nt Z R i el cs ct j oe df y) = mcd lA lB S T mi mt ni nt Z R (some v) el cs ct j oe df y := by
  by_cases h : y = Str.ofString "i"
  · subst h; rfl
  · simp only [mcd, if_neg h]
theorem mcd_el (y : Str) : (if y = Str.ofString "elem" then some v else mcd lA lB S T mi mt ni nt Z R i el cs ct j oe df y) = mcd lA lB S T mi mt ni nt Z R i (some v) cs ct j oe df y := by
  by_cases h : y = Str.ofString "elem"
  · subst h; rfl
  · simp only [mcd, if_neg h]
theorem mcd_cs (y : Str) : (if y = Str.ofString "cnt_s" then some v else mcd lA lB S T mi mt ni nt Z R i el cs ct j oe df y) = mcd lA lB S T mi mt ni nt Z R i el (some v) ct j oe df y := by
  by_cases h : y = Str.ofString "cnt_s"
  · subst h; rfl
  · simp only [mcd, if_neg h]
theorem mcd_ct (y : Str) : (if y = Str.ofString "cnt_t" then some v else mcd lA lB S T mi mt ni nt Z R i el cs ct j oe df y) = mcd lA lB S T mi mt ni nt Z R i el cs (some v) j oe df y := by
  by_cases h : y = Str.ofString "cnt_t"
  · subst h; rfl
  · simp only [mcd, if_neg h]
theorem mcd_j (y : Str) : (if y = Str.ofString "j" then some v else mcd lA lB S T mi mt ni nt Z R i el cs ct j oe df y) = mcd lA lB S T mi mt ni nt Z R i el cs ct (some v) oe df y := by
  by_cases h : y = Str.ofString "j"
  · subst h; rfl
  · simp only [mcd, if_neg h]
theorem mcd_oe (y : Str) : (if y = Str.ofString "other_elem" then some v else mcd lA lB S T mi mt ni nt Z R i el cs ct j oe df y) = mcd lA lB S T mi mt ni nt Z R i el cs ct j (some v) df y := by
  by_cases h : y = Str.ofString "other_elem"
  · subst h; rfl
  · simp only [mcd, if_neg h]
theorem mcd_df (y : Str) : (if y = Str.ofString "diff" then some v else mcd lA lB S T mi mt ni nt Z R i el cs ct j oe df y) = mcd lA lB S T mi mt ni nt Z R i el cs ct j oe (some v) y := by
  by_cases h : y = Str.ofString "diff"
  · subst h; rfl
  · simp only [mcd, if_neg h]
end
section
variable {prog : Program} {w : World} {A : Around} {E : Value → Shared → Prop} {s : Shared} {h₀ : Heap} {L : Addr} {m : Str → Option Value} {news news' tups : List (Addr × Obj)}
theorem set1K {S : Addr} {vs : Array Value} {c k : Nat} {ki : Int} {u : Tok} {x v : Value} {Q : Unit → Shared → Prop} (F : Fr h₀ L s.heap m) (N : News h₀ L s.heap news) (hk : ki = (k : Int)) (hx : vs[k]? = some x) (hz : vs.size ≤ 1000) (U : Upd S (listOf vs c) (listOf (vs.setIfInBounds k v) c) news news')
    (h : ∀ h', Fr h₀ L h' m → News h₀ L h' news' → Q () { s with heap := h' }) : wpAny (model prog w) A (setItem (.ref S) (.int ki u) v) Q E s := by
  subst hk
  obtain ⟨pre, post, rfl, rfl, a, b⟩ := U.split
  have z := N (S, listOf vs c) (List.mem_append.mpr (.inr (.head _)))
  have hlt : k < vs.size := by
    rcases Nat.lt_or_ge k vs.size with h1 | h1
    · exact h1
    · rw [Array.getElem?_eq_none h1] at hx; cases hx
  refine ki_setAt z.1 (by (first | lia | omega)) (by (first | lia | omega)) (by (first | lia | omega)) (h _ (F.change (Heap.SameBut.update ..) z.2.1 z.2.2) (ki_turn _ N a b ?_ ?_))
  · simp
  · simp
theorem eq_elb {Z : Nat} {a : Option (List Str)} {x : List Str} {v u : Value} {Q : Value → Shared → Prop} {b : Bool} (hv : ElV Z tups a v) (hu : IsT tups x u) (N : News h₀ L s.heap news) (ht : ∀ p ∈ tups, p ∈ news) (hZ : (Z, nulO) ∈ news) (hr : A.units + 64 < cLine) (hb : decide (a = some x) = b)
    (h : Q (.bool b) s) : wpAny (model prog w) A (compareOp .Eq v u) Q E s := eq_el hv hu N ht hZ hr (by rw [hb]; exact h)
end
end
section
set_option tactic.hygienic false
section
variable {prog : Program} {w : World} {p : Program} {loose : List Str} {mean : ExcName → Option Value} {mg mb : Str → Option Value} {dp un : Nat} {gd : Option (List Code)} {cn : Str} {cs : Scope} {a : Addr} {ccd : Value} {cl : List (Str × Addr)} {outer : List Env} {A₀ : Around} {base h₀ : Heap} {L : Addr} {m : Str → Option Value} {news rest : List (Addr × Obj)} {s : Shared} {Q E : Value → Shared → Prop}
variable {lA lB S T : Nat} {mi ni : Int} {mt nt : Tok} {Z R : Nat} {i el cs9 ct j oe df : Option Value} {v : Value} {g : Heap} {L' : Nat} {QF : Flow → Shared → Prop} {tups big : List (Addr × Obj)}
noncomputable def Marked (P : Prop) : Prop := P
theorem mark {P : Prop} (h : Marked P) : P := h
theorem wd_KJ6_32 : True := by
  k_with "pyIter ref" => ((with_reducible show wpAny _ _ (pyIter (Value.ref _)) (fun it s₂ => LoopAtV _ _ _ _ _ _ _ _ _ it s₂) _ _); refine mark ?_)
  trivial
noncomputable def f1Body : List Stmt := match cdB with | _ :: _ :: _ :: _ :: _ :: .For _ _ b _ _ :: _ => b | _ => []
noncomputable def f2Body : List Stmt := match cdB with | _ :: _ :: _ :: _ :: _ :: _ :: .For _ _ b _ _ :: _ => b | _ => []
noncomputable def f2a : List Stmt := match f2Body with | _ :: _ :: c :: _ => [c] | _ => []
noncomputable def f1b : List Stmt := match f1Body with | _ :: _ :: _ :: c :: _ => [c] | _ => []
noncomputable def f1a : List Stmt := match f1Body with | _ :: _ :: c :: _ => [c] | _ => []
theorem wd_KJ6_33 : True := by
  k_with "subscriptTail Name Name ref int" => (k_here; k_dflt (refine' item1K ?zN ?zm ?zz ?zk ?zv ?_; (case zN => k_asm); (case zm => k_mem); (case zz => assumption); (case zv => assumption); (case zk => assumption)))
  k_with "compareOp Eq ref ref" => (k_here; k_dflt (refine' eq_elb ?zv ?zu ?zN ?zt ?zZ ?zr ?zb ?_; (case zv => assumption); (case zu => assumption); (case zN => k_asm); (case zt => assumption); (case zZ => k_mem); (case zr => ktr_units); (case zb => assumption)))
  k_with "setItem ref int" => (k_here; k_dflt (refine' set1K ?zF ?zN ?zk ?zx ?zz ?zU ?_; (case zF => k_asm); (case zN => k_asm); (case zU => k_upd); (case zz => assumption); (case zx => assumption); (case zk => assumption)); intro _ _ _)
  trivial
theorem off_set {I : Nat} {io : Obj} {news news' : List (Addr × Obj)} (h : ∀ p ∈ news, p.1 ≠ I) (e : news'.map (·.1) = news.map (·.1) := by rfl) : ∀ p ∈ news', ∀ q ∈ [((I, io) : Addr × Obj)], p.1 ≠ q.1 := by
  intro p hp q hq
  rw [List.mem_singleton.mp hq]
  have : p.1 ∈ news'.map (·.1) := List.mem_map.mpr ⟨p, hp, rfl⟩
  rw [e] at this
  obtain ⟨r, hr, er⟩ := List.mem_map.mp this
  rw [← er]
  exact h r hr
theorem small_of (a b : Nat) (ha : a ≤ 1000) (hb : b ≤ 1000) : Builtin.Range.small (a : Int) (b : Int) 1 = true := by
  exact small_one (by first | k_extra "OM" | (first | lia | omega)) (by first | k_extra "OM" | (first | lia | omega)) (by first | k_extra "OM" | (first | lia | omega)) (by first | k_extra "OM" | (first | lia | omega))
theorem size_of (a b : Nat) (h : a ≤ b) : Builtin.Range.rangeSize (a : Int) (b : Int) 1 = ((b - a : Nat) : Int) := by
  unfold Builtin.Range.rangeSize
  simp
  first | k_extra "OM" | (first | lia | omega)
theorem cd_1a {e it : Nat} {eo io : Obj} {rv sv tv : Array Value} {rc sc tc : Nat} {As : List (Option Wd)} {x : Wd} {u : Value} {i0 : Nat} {ii : Int} {ti c1 : Tok} (hii : ii = (i0 : Int)) (hmi : mi = (As.length : Int)) (hz : As.length ≤ 1000) (hi0 : i0 ≤ As.length) (hnone : ∀ p, p < i0 → As[p]? ≠ some (some x))
    (hA : ListV Z tups As sv) (hu : IsT tups x u) (ht : ∀ p ∈ tups, p ∈ big) (h1 : S < T) (h2 : T < Z) (h3 : Z < R) (h4 : R < it) (h5 : it < e) (hbg : ∀ p ∈ big, p.1 ≠ S)
    (Y : Ty 4 w p loose mean mg mb dp un gd cn cs L a ccd cl outer base g)
    (F : Fr g L' s.heap (mcd lA lB S T mi mt ni nt Z R (some (.int ii ti)) (some u) (some (.int 0 c1)) ct j oe df))
    (N : News g L' s.heap ((e, eo) :: (it, io) :: (R, listOf rv rc) :: (Z, nulO) :: (T, listOf tv tc) :: (S, listOf sv sc) :: big))
    (hq : ∀ sv' c1' j' h' tk', ListV Z tups (clr x As) sv' → Fr g L' h' (mcd lA lB S T mi mt ni nt Z R (some (.int ii ti)) (some u) (some (.int (cnt x As : Nat) c1')) ct j' oe df) →
      News g L' h' ((e, eo) :: (it, io) :: (R, listOf rv rc) :: (Z, nulO) :: (T, listOf tv tc) :: (S, listOf sv' sc) :: big) → QF .next { s with heap := h', toks := tk' }) :
    wpAny (model prog w) ((ktrTop dp un gd cn cs L a ccd cl outer).deeper (cdEnv L')) (execs f1a (cdEnv L')) QF (fun _ _ => False) s := by
  obtain ⟨hk, hd, hun, B, X, T0⟩ := Y
  obtain ⟨U, hU⟩ : ∃ U : Nat, u = .ref U := by obtain ⟨U, _, _, e, _⟩ := hu; exact ⟨U, e⟩
  subst hU
  k_steps
  unfold Marked
  rename IsRange _ _ _ _ _ _ _ _ => hr
  rename Fr _ _ _ _ => F2
  rename News _ _ _ _ => N2
  refine range_inv (n := As.length - i0) (fun k m₁ news₁ => ∃ c1' j' sv', ListV Z tups (clrTo x As (i0 + k)) sv' ∧ m₁ = mcd lA lB S T mi mt ni nt Z R (some (.int ii ti)) (some (.ref U)) (some (.int (cntTo x As (i0 + k) : Nat) c1')) ct j' oe df ∧
    news₁ = ((e, eo) :: (it, io) :: (R, listOf rv rc) :: (Z, nulO) :: (T, listOf tv tc) :: (S, listOf sv' sc) :: big)) rfl hr ?_ ?_ F2 N2 ?_ ?_ ?_
  · subst hii; subst hmi
    exact small_of _ _ (by first | k_extra "OM" | (first | lia | omega)) (by first | k_extra "OM" | (first | lia | omega))
  · subst hii; subst hmi
    exact size_of _ _ hi0
  · refine ⟨c1, j, sv, ?_, ?_, rfl⟩
    · rw [Nat.add_zero, clrTo_none x As i0 hnone]; exact hA
    · rw [Nat.add_zero, cntTo_none x As i0 hnone]; rfl
  · rintro k t9 m₁ news₁ h tk I io9 hkn ⟨c1', j', sv', hL, rfl, rfl⟩ hni hlI F4 N3
    refine rpost_gen fun QF9 hnx hct => ?_
    have hSI : S < I := hlI (S, listOf sv sc) (by first | k_extra "MEM" | simp)
    have hlt : i0 + k < As.length := by (first | lia | omega)
    obtain ⟨a9, ha9⟩ : ∃ a9, As[i0 + k]? = some a9 := ⟨_, List.getElem?_eq_getElem hlt⟩
    have hc9 : (clrTo x As (i0 + k))[i0 + k]? = some a9 := by rw [clrTo_get, ha9]; simp
    obtain ⟨v9, hv9, he9⟩ := hL.get hc9
    obtain ⟨V, rfl⟩ := he9.ref
    have hsz : sv'.size ≤ 1000 := by rw [hL.1, clrTo_len]; exact hz
    have hidx : ii + (k : Int) = ((i0 + k : Nat) : Int) := by rw [hii]; (first | lia | omega)
    have F3 := Fr.cast F4 mcd_j
    clear F4
    have ht8 : ∀ p ∈ tups, p ∈ ((I, io9) :: (e, eo) :: (it, io) :: (R, listOf rv rc) :: (Z, nulO) :: (T, listOf tv tc) :: (S, listOf sv' sc) :: big) := fun p hp => by simp only [List.mem_cons]; exact .inr (.inr (.inr (.inr (.inr (.inr (.inr (ht p hp)))))))
    by_cases hax : a9 = some x
    · have hb9 : decide (a9 = some x) = true := by simp [hax]
      k_steps
      rename Fr _ _ _ _ => F5
      rename News _ _ _ _ => N5
      have F6 := Fr.cast F5 mcd_cs
      have e9 : (cntTo x As (i0 + k) : Int) + 1 = ((cntTo x As (i0 + (k + 1)) : Nat) : Int) := by
        rw [show i0 + (k + 1) = (i0 + k) + 1 by (first | lia | omega), cntTo_succ ha9, if_pos hax]
        first | k_extra "OM" | (first | lia | omega)
      rw [e9] at F6
      have hL9 : ListV Z tups (clrTo x As (i0 + (k + 1))) (sv'.setIfInBounds (i0 + k) (.ref Z)) := by
        rw [show i0 + (k + 1) = (i0 + k) + 1 by (first | lia | omega), clrTo_succ_eq (by rw [ha9, hax])]
        exact hL.set (i0 + k)
      first | exact hnx _ _ _ ((e, eo) :: (it, io) :: (R, listOf rv rc) :: (Z, nulO) :: (T, listOf tv tc) :: (S, listOf (sv'.setIfInBounds (i0 + k) (.ref Z)) sc) :: big) F6 N5 (off_set hni) ⟨_, _, _, hL9, rfl, rfl⟩ | exact hct _ _ _ ((e, eo) :: (it, io) :: (R, listOf rv rc) :: (Z, nulO) :: (T, listOf tv tc) :: (S, listOf (sv'.setIfInBounds (i0 + k) (.ref Z)) sc) :: big) F6 N5 (off_set hni) ⟨_, _, _, hL9, rfl, rfl⟩
    · have hb9 : decide (a9 = some x) = false := by simp [hax]
      k_steps
      have e9 : cntTo x As (i0 + k) = cntTo x As (i0 + (k + 1)) := by
        rw [show i0 + (k + 1) = (i0 + k) + 1 by (first | lia | omega), cntTo_succ ha9, if_neg hax]
        rfl
      rw [e9] at F3
      rw [← clrTo_succ_ne ha9 hax, show (i0 + k) + 1 = i0 + (k + 1) by (first | lia | omega)] at hL
      first | exact hnx _ _ _ ((e, eo) :: (it, io) :: (R, listOf rv rc) :: (Z, nulO) :: (T, listOf tv tc) :: (S, listOf sv' sc) :: big) F3 N3 (off_set hni) ⟨_, _, _, hL, rfl, rfl⟩ | exact hct _ _ _ ((e, eo) :: (it, io) :: (R, listOf rv rc) :: (Z, nulO) :: (T, listOf tv tc) :: (S, listOf sv' sc) :: big) F3 N3 (off_set hni) ⟨_, _, _, hL, rfl, rfl⟩
  · rintro h tk m' news' F3 N3 ⟨c1', j', sv', hL, rfl, rfl⟩
    have e9 : i0 + (As.length - i0) = As.length := by (first | lia | omega)
    rw [e9, cntTo_all] at F3
    rw [e9, clrTo_all] at hL
    refine wpAny_execs_nil ?_
    exact hq _ _ _ _ _ hL F3 N3
theorem cd_2a {e it : Nat} {eo io : Obj} {rv sv tv : Array Value} {rc sc tc : Nat} {As : List (Option Wd)} {x : Wd} {u : Value} {i0 : Nat} {ii : Int} {ti c1 : Tok} (hii : ii = (i0 : Int)) (hmi : ni = (As.length : Int)) (hz : As.length ≤ 1000) (hi0 : i0 ≤ As.length) (hnone : ∀ p, p < i0 → As[p]? ≠ some (some x))
    (hA : ListV Z tups As tv) (hu : IsT tups x u) (ht : ∀ p ∈ tups, p ∈ big) (h1 : S < T) (h2 : T < Z) (h3 : Z < R) (h4 : R < it) (h5 : it < e) (hbg : ∀ p ∈ big, p.1 ≠ T)
    (Y : Ty 4 w p loose mean mg mb dp un gd cn cs L a ccd cl outer base g)
    (F : Fr g L' s.heap (mcd lA lB S T mi mt ni nt Z R (some (.int ii ti)) (some u) cs9 (some (.int 0 c1)) j oe df))
    (N : News g L' s.heap ((e, eo) :: (it, io) :: (R, listOf rv rc) :: (Z, nulO) :: (T, listOf tv tc) :: (S, listOf sv sc) :: big))
    (hq : ∀ sv' c1' j' h' tk', ListV Z tups (clr x As) sv' → Fr g L' h' (mcd lA lB S T mi mt ni nt Z R (some (.int ii ti)) (some u) cs9 (some (.int (cnt x As : Nat) c1')) j' oe df) →
      News g L' h' ((e, eo) :: (it, io) :: (R, listOf rv rc) :: (Z, nulO) :: (T, listOf sv' tc) :: (S, listOf sv sc) :: big) → QF .next { s with heap := h', toks := tk' }) :
    wpAny (model prog w) ((ktrTop dp un gd cn cs L a ccd cl outer).deeper (cdEnv L')) (execs f2a (cdEnv L')) QF (fun _ _ => False) s := by
  obtain ⟨hk, hd, hun, B, X, T0⟩ := Y
  obtain ⟨U, hU⟩ : ∃ U : Nat, u = .ref U := by obtain ⟨U, _, _, e, _⟩ := hu; exact ⟨U, e⟩
  subst hU
  k_steps
  unfold Marked
  rename IsRange _ _ _ _ _ _ _ _ => hr
  rename Fr _ _ _ _ => F2
  rename News _ _ _ _ => N2
  refine range_inv (n := As.length - i0) (fun k m₁ news₁ => ∃ c1' j' sv', ListV Z tups (clrTo x As (i0 + k)) sv' ∧ m₁ = mcd lA lB S T mi mt ni nt Z R (some (.int ii ti)) (some (.ref U)) cs9 (some (.int (cntTo x As (i0 + k) : Nat) c1')) j' oe df ∧
    news₁ = ((e, eo) :: (it, io) :: (R, listOf rv rc) :: (Z, nulO) :: (T, listOf sv' tc) :: (S, listOf sv sc) :: big)) rfl hr ?_ ?_ F2 N2 ?_ ?_ ?_
  · subst hii; subst hmi
    exact small_of _ _ (by first | k_extra "OM" | (first | lia | omega)) (by first | k_extra "OM" | (first | lia | omega))
  · subst hii; subst hmi
    exact size_of _ _ hi0
  · refine ⟨c1, j, tv, ?_, ?_, rfl⟩
    · rw [Nat.add_zero, clrTo_none x As i0 hnone]; exact hA
    · rw [Nat.add_zero, cntTo_none x As i0 hnone]; rfl
  · rintro k t9 m₁ news₁ h tk I io9 hkn ⟨c1', j', sv', hL, rfl, rfl⟩ hni hlI F4 N3
    refine rpost_gen fun QF9 hnx hct => ?_
    have hSI : T < I := hlI (T, listOf tv tc) (by first | k_extra "MEM" | simp)
    have hlt : i0 + k < As.length := by (first | lia | omega)
    obtain ⟨a9, ha9⟩ : ∃ a9, As[i0 + k]? = some a9 := ⟨_, List.getElem?_eq_getElem hlt⟩
    have hc9 : (clrTo x As (i0 + k))[i0 + k]? = some a9 := by rw [clrTo_get, ha9]; simp
    obtain ⟨v9, hv9, he9⟩ := hL.get hc9
    obtain ⟨V, rfl⟩ := he9.ref
    have hsz : sv'.size ≤ 1000 := by rw [hL.1, clrTo_len]; exact hz
    have hidx : ii + (k : Int) = ((i0 + k : Nat) : Int) := by rw [hii]; (first | lia | omega)
    have F3 := Fr.cast F4 mcd_j
    clear F4
    have ht8 : ∀ p ∈ tups, p ∈ ((I, io9) :: (e, eo) :: (it, io) :: (R, listOf rv rc) :: (Z, nulO) :: (T, listOf sv' tc) :: (S, listOf sv sc) :: big) := fun p hp => by simp only [List.mem_cons]; exact .inr (.inr (.inr (.inr (.inr (.inr (.inr (ht p hp)))))))
    by_cases hax : a9 = some x
    · have hb9 : decide (a9 = some x) = true := by simp [hax]
      k_steps
      rename Fr _ _ _ _ => F5
      rename News _ _ _ _ => N5
      have F6 := Fr.cast F5 mcd_ct
      have e9 : (cntTo x As (i0 + k) : Int) + 1 = ((cntTo x As (i0 + (k + 1)) : Nat) : Int) := by
        rw [show i0 + (k + 1) = (i0 + k) + 1 by (first | lia | omega), cntTo_succ ha9, if_pos hax]
        first | k_extra "OM" | (first | lia | omega)
      rw [e9] at F6
      have hL9 : ListV Z tups (clrTo x As (i0 + (k + 1))) (sv'.setIfInBounds (i0 + k) (.ref Z)) := by
        rw [show i0 + (k + 1) = (i0 + k) + 1 by (first | lia | omega), clrTo_succ_eq (by rw [ha9, hax])]
        exact hL.set (i0 + k)
      first | exact hnx _ _ _ ((e, eo) :: (it, io) :: (R, listOf rv rc) :: (Z, nulO) :: (T, listOf (sv'.setIfInBounds (i0 + k) (.ref Z)) tc) :: (S, listOf sv sc) :: big) F6 N5 (off_set hni) ⟨_, _, _, hL9, rfl, rfl⟩ | exact hct _ _ _ ((e, eo) :: (it, io) :: (R, listOf rv rc) :: (Z, nulO) :: (T, listOf (sv'.setIfInBounds (i0 + k) (.ref Z)) tc) :: (S, listOf sv sc) :: big) F6 N5 (off_set hni) ⟨_, _, _, hL9, rfl, rfl⟩
    · have hb9 : decide (a9 = some x) = false := by simp [hax]
      k_steps
      have e9 : cntTo x As (i0 + k) = cntTo x As (i0 + (k + 1)) := by
        rw [show i0 + (k + 1) = (i0 + k) + 1 by (first | lia | omega), cntTo_succ ha9, if_neg hax]
        rfl
      rw [e9] at F3
      rw [← clrTo_succ_ne ha9 hax, show (i0 + k) + 1 = i0 + (k + 1) by (first | lia | omega)] at hL
      first | exact hnx _ _ _ ((e, eo) :: (it, io) :: (R, listOf rv rc) :: (Z, nulO) :: (T, listOf sv' tc) :: (S, listOf sv sc) :: big) F3 N3 (off_set hni) ⟨_, _, _, hL, rfl, rfl⟩ | exact hct _ _ _ ((e, eo) :: (it, io) :: (R, listOf rv rc) :: (Z, nulO) :: (T, listOf sv' tc) :: (S, listOf sv sc) :: big) F3 N3 (off_set hni) ⟨_, _, _, hL, rfl, rfl⟩
  · rintro h tk m' news' F3 N3 ⟨c1', j', sv', hL, rfl, rfl⟩
    have e9 : i0 + (As.length - i0) = As.length := by (first | lia | omega)
    rw [e9, cntTo_all] at F3
    rw [e9, clrTo_all] at hL
    refine wpAny_execs_nil ?_
    exact hq _ _ _ _ _ hL F3 N3
end
end
section
set_option tactic.hygienic false
section
variable {prog : Program} {w : World} {p : Program} {loose : List Str} {mean : ExcName → Option Value} {mg mb : Str → Option Value} {dp un : Nat} {gd : Option (List Code)} {cn : Str} {cs : Scope} {a : Addr} {ccd : Value} {cl : List (Str × Addr)} {outer : List Env} {A₀ : Around} {base h₀ : Heap} {L : Addr} {m : Str → Option Value} {news rest : List (Addr × Obj)} {s : Shared} {Q E : Value → Shared → Prop}
variable {lA lB S T : Nat} {mi ni : Int} {mt nt : Tok} {Z R : Nat} {i el cs9 ct j oe df : Option Value} {v : Value} {g : Heap} {L' : Nat} {QF : Flow → Shared → Prop} {tups big : List (Addr × Obj)}
theorem wd_KJ7_34 : True := by
  k_with "pyIter ref" => ((with_reducible show wpAny _ _ (pyIter (Value.ref _)) (fun it s₂ => LoopAtV _ _ _ _ _ _ _ _ _ it s₂) _ _); refine mark ?_)
  k_with "subscriptTail Name Name ref int" => (k_here; k_dflt (refine' item1K ?zN ?zm ?zz ?zk ?zv ?_; (case zN => k_asm); (case zm => k_mem); (case zz => assumption); (case zv => assumption); (case zk => assumption)))
  k_with "compareOp Eq ref ref" => (k_here; k_dflt (refine' eq_elb ?zv ?zu ?zN ?zt ?zZ ?zr ?zb ?_; (case zv => assumption); (case zu => assumption); (case zN => k_asm); (case zt => assumption); (case zZ => k_mem); (case zr => ktr_units); (case zb => assumption)))
  k_with "setItem ref int" => (k_here; k_dflt (refine' set1K ?zF ?zN ?zk ?zx ?zz ?zU ?_; (case zF => k_asm); (case zN => k_asm); (case zU => k_upd); (case zz => assumption); (case zx => assumption); (case zk => assumption)); intro _ _ _)
  k_with "exec For Tuple Call cons nil" => (k_here; (with_unfolding_all refine' For_enum ?_; k_whole))
  k_with "call type:enumerate" => ((with_reducible show wpAny _ _ (call (Value.type _) [Value.ref _]) (fun xv s₁ => wpAny _ _ (pyIter xv) (fun it s₂ => EnumAt _ _ _ _ _ _ _ _ it s₂) _ s₁) _ _); refine mark ?_)
  trivial
theorem off_set2 {e8 it T : Nat} {eo io : Obj} {news news' : List (Addr × Obj)} (h : ∀ p ∈ news, p.1 ≠ e8 ∧ p.1 ≠ it ∧ p.1 < T) (e : news'.map (·.1) = news.map (·.1) := by rfl) : ∀ p ∈ news', ∀ q ∈ [((e8, eo) : Addr × Obj), (it, io)], p.1 ≠ q.1 := by
  intro p hp q hq
  have : p.1 ∈ news'.map (·.1) := List.mem_map.mpr ⟨p, hp, rfl⟩
  rw [e] at this
  obtain ⟨r, hr, er⟩ := List.mem_map.mp this
  have hq' := h r hr
  rw [← er]
  revert q hq
  refine allP_cons ?_ (allP_cons ?_ allP_nil)
  · exact hq'.1
  · exact hq'.2.1
theorem cd_1b {e it : Nat} {eo io : Obj} {rv sv tv : Array Value} {rc sc tc : Nat} {As : List (Option Wd)} {x : Wd} {u : Value} {c1 : Tok} (hz : As.length ≤ 1000)
    (hA : ListV Z tups As tv) (hu : IsT tups x u) (ht : ∀ p ∈ tups, p ∈ big) (h1 : S < T) (h2 : T < Z) (h3 : Z < R) (h4 : R < it) (h5 : it < e) (hbg : ∀ p ∈ big, p.1 ≠ T)
    (Y : Ty 4 w p loose mean mg mb dp un gd cn cs L a ccd cl outer base g)
    (F : Fr g L' s.heap (mcd lA lB S T mi mt ni nt Z R i (some u) cs9 (some (.int 0 c1)) j oe df))
    (N : News g L' s.heap ((e, eo) :: (it, io) :: (R, listOf rv rc) :: (Z, nulO) :: (T, listOf tv tc) :: (S, listOf sv sc) :: big))
    (hq : ∀ sv' c1' j' oe' h' tk', ListV Z tups (clr x As) sv' → Fr g L' h' (mcd lA lB S T mi mt ni nt Z R i (some u) cs9 (some (.int (cnt x As : Nat) c1')) j' oe' df) →
      News g L' h' ((e, eo) :: (it, io) :: (R, listOf rv rc) :: (Z, nulO) :: (T, listOf sv' tc) :: (S, listOf sv sc) :: big) → QF .next { s with heap := h', toks := tk' }) :
    wpAny (model prog w) ((ktrTop dp un gd cn cs L a ccd cl outer).deeper (cdEnv L')) (execs f1b (cdEnv L')) QF (fun _ _ => False) s := by
  obtain ⟨hk, hd, hun, B, X, T0⟩ := Y
  obtain ⟨U, hU⟩ : ∃ U : Nat, u = .ref U := by obtain ⟨U, _, _, e, _⟩ := hu; exact ⟨U, e⟩
  subst hU
  k_steps
  unfold Marked
  rename Fr _ _ _ _ => F2
  rename News _ _ _ _ => N2
  refine enum_inv (h₀ := g) (n := As.length) (l := T) (fun k m₁ news₁ => ∃ c1' j' oe' sv', ListV Z tups (clrTo x As k) sv' ∧ m₁ = mcd lA lB S T mi mt ni nt Z R i (some (.ref U)) cs9 (some (.int (cntTo x As k : Nat) c1')) j' oe' df ∧
    news₁ = ((e, eo) :: (it, io) :: (R, listOf rv rc) :: (Z, nulO) :: (T, listOf sv' tc) :: (S, listOf sv sc) :: big)) rfl (fun _ _ h => h.elim) F2 N2 (by k_mem) ?_ ?_ ?_ ?_
  · refine ⟨c1, j, oe, tv, ?_, ?_, rfl⟩
    · rw [clrTo_none x As 0 (fun p hp => absurd hp (Nat.not_lt_zero _))]; exact hA
    · rw [cntTo_none x As 0 (fun p hp => absurd hp (Nat.not_lt_zero _))]; rfl
  · rintro k m₁ news₁ ⟨c1', j', oe', sv', hL, rfl, rfl⟩
    exact ⟨sv', tc, by k_mem, by rw [hL.1, clrTo_len]⟩
  · rintro k t9 m₁ news₁ h tk e2 it2 T2 eo2 io2 v9 vs9 c9 c8 hkn ⟨c1', j', oe', sv', hL, rfl, rfl⟩ hm9 hv9 hoff hne hlI hlt2 hlt3 F4 N4
    refine rpost_gen2 fun QF9 hnx hct => ?_
    obtain rfl : vs9 = sv' := by
      have q1 := (N4 _ (.tail _ (.tail _ (.tail _ hm9)))).1
      have q2 := (N4 (T, listOf sv' tc) (by first | k_extra "MEM" | simp)).1
      have q3 := Option.some.inj (q1.symm.trans q2)
      have q4 := congrArg Obj.data q3
      simp only [Data.seq.injEq] at q4
      exact q4.1
    obtain ⟨a9, ha9⟩ : ∃ a9, As[k]? = some a9 := ⟨_, List.getElem?_eq_getElem hkn⟩
    have hc9 : (clrTo x As k)[k]? = some a9 := by rw [clrTo_get, ha9]; simp
    obtain ⟨v8, hv8, he9⟩ := hL.get hc9
    rw [hv9] at hv8
    obtain rfl := Option.some.inj hv8
    obtain ⟨V, rfl⟩ := he9.ref
    have hsz : vs9.size ≤ 1000 := by rw [hL.1, clrTo_len]; exact hz
    have hidx : (k : Int) = ((k : Nat) : Int) := rfl
    have hTI : T < it2 := hlI (T, listOf tv tc) (by first | k_extra "MEM" | simp)
    have hRI : R < it2 := hlI (R, listOf rv rc) (by first | k_extra "MEM" | simp)
    have heI : e < it2 := hlI (e, eo) (by first | k_extra "MEM" | simp)
    have ht8 : ∀ p ∈ tups, p ∈ ((T2, ({ cls := .type "tuple", data := .seq #[.int (k : Nat) t9, .ref V] c8 } : Obj)) :: (e2, eo2) :: (it2, io2) :: (e, eo) :: (it, io) :: (R, listOf rv rc) :: (Z, nulO) :: (T, listOf vs9 tc) :: (S, listOf sv sc) :: big) := fun p hp => by simp only [List.mem_cons]; exact .inr (.inr (.inr (.inr (.inr (.inr (.inr (.inr (.inr (ht p hp)))))))))
    by_cases hax : a9 = some x
    · have hb9 : decide (a9 = some x) = true := by simp [hax]
      k_steps
      rename Fr _ _ _ _ => F5
      rename News _ _ _ _ => N5
      simp only [mcd_j, mcd_oe, mcd_ct] at F5
      have e9 : (cntTo x As k : Int) + 1 = ((cntTo x As (k + 1) : Nat) : Int) := by
        rw [cntTo_succ ha9, if_pos hax]
        first | k_extra "OM" | (first | lia | omega)
      rw [e9] at F5
      have hL9 : ListV Z tups (clrTo x As (k + 1)) (vs9.setIfInBounds k (.ref Z)) := by
        rw [clrTo_succ_eq (by rw [ha9, hax])]
        exact hL.set k
      first | exact hnx _ _ _ ((e, eo) :: (it, io) :: (R, listOf rv rc) :: (Z, nulO) :: (T, listOf (vs9.setIfInBounds k (.ref Z)) tc) :: (S, listOf sv sc) :: big) F5 (fun p hp => N5 p (.tail _ hp)) (off_set2 hoff) ⟨_, _, _, _, hL9, rfl, rfl⟩ | exact hct _ _ _ ((e, eo) :: (it, io) :: (R, listOf rv rc) :: (Z, nulO) :: (T, listOf (vs9.setIfInBounds k (.ref Z)) tc) :: (S, listOf sv sc) :: big) F5 (fun p hp => N5 p (.tail _ hp)) (off_set2 hoff) ⟨_, _, _, _, hL9, rfl, rfl⟩
    · have hb9 : decide (a9 = some x) = false := by simp [hax]
      k_steps
      rename Fr _ _ _ _ => F5
      rename News _ _ _ _ => N5
      simp only [mcd_j, mcd_oe, mcd_ct] at F5
      have e9 : cntTo x As k = cntTo x As (k + 1) := by
        rw [cntTo_succ ha9, if_neg hax]
        rfl
      rw [e9] at F5
      rw [← clrTo_succ_ne ha9 hax] at hL
      first | exact hnx _ _ _ ((e, eo) :: (it, io) :: (R, listOf rv rc) :: (Z, nulO) :: (T, listOf vs9 tc) :: (S, listOf sv sc) :: big) F5 (fun p hp => N5 p (.tail _ hp)) (off_set2 hoff) ⟨_, _, _, _, hL, rfl, rfl⟩ | exact hct _ _ _ ((e, eo) :: (it, io) :: (R, listOf rv rc) :: (Z, nulO) :: (T, listOf vs9 tc) :: (S, listOf sv sc) :: big) F5 (fun p hp => N5 p (.tail _ hp)) (off_set2 hoff) ⟨_, _, _, _, hL, rfl, rfl⟩
  · rintro h tk m' news' F3 N3 ⟨c1', j', oe', sv', hL, rfl, rfl⟩
    rw [cntTo_all] at F3
    rw [clrTo_all] at hL
    refine wpAny_execs_nil ?_
    exact hq _ _ _ _ _ _ hL F3 N3
end
end
section
set_option maxHeartbeats 4000000
structure CS where
  A : List (Option Wd)
  B : List (Option Wd)
  out : List (Nat × Nat × Wd)
noncomputable def step1 (k : Nat) (c : CS) : CS := match c.A[k]? with
  | some (some x) => ⟨clr x c.A, clr x c.B, if cnt x c.A = cnt x c.B then c.out else c.out ++ [(cnt x c.A, cnt x c.B, x)]⟩
  | _ => c
noncomputable def run1 (c : CS) : Nat → CS
  | 0 => c
  | k + 1 => step1 k (run1 c k)
noncomputable def step2 (k : Nat) (c : CS) : CS := match c.B[k]? with
  | some (some x) => ⟨c.A, clr x c.B, c.out ++ [(0, cnt x c.B, x)]⟩
  | _ => c
noncomputable def run2 (c : CS) : Nat → CS
  | 0 => c
  | k + 1 => step2 k (run2 c k)
noncomputable def cdap (A B : List Wd) : List (Nat × Nat × Wd) :=
  (run2 (run1 ⟨A.map some, B.map some, []⟩ A.length) B.length).out
theorem clr_len (x : Wd) (A : List (Option Wd)) : (clr x A).length = A.length := by simp [clr]
theorem clr_get (x : Wd) (A : List (Option Wd)) (p : Nat) : (clr x A)[p]? = (A[p]?).map fun a => if a = some x then none else a := by simp [clr]
theorem run1_len (c : CS) (k : Nat) : (run1 c k).A.length = c.A.length ∧ (run1 c k).B.length = c.B.length := by
  induction k with
  | zero => exact ⟨rfl, rfl⟩
  | succ k ih =>
    show (step1 k (run1 c k)).A.length = _ ∧ (step1 k (run1 c k)).B.length = _
    unfold step1
    split
    · simp only [clr_len]; exact ih
    · exact ih
theorem run2_len (c : CS) (k : Nat) : (run2 c k).A = c.A ∧ (run2 c k).B.length = c.B.length := by
  induction k with
  | zero => exact ⟨rfl, rfl⟩
  | succ k ih =>
    show (step2 k (run2 c k)).A = _ ∧ (step2 k (run2 c k)).B.length = _
    unfold step2
    split
    · simp only [clr_len]; exact ih
    · exact ih
theorem run1_gone (c : CS) (k : Nat) : ∀ p, p < k → ∀ x, (run1 c k).A[p]? ≠ some (some x) := by
  induction k with
  | zero => intro p hp; exact absurd hp (Nat.not_lt_zero _)
  | succ k ih =>
    intro p hp y
    show (step1 k (run1 c k)).A[p]? ≠ _
    unfold step1
    split
    · rename_i x hx
      try dsimp only
      rw [clr_get]
      intro h
      obtain ⟨a, ha, e⟩ := Option.map_eq_some_iff.mp h
      rcases Nat.lt_succ_iff_lt_or_eq.mp hp with hlt | rfl
      · cases a with
        | none => simp at e
        | some z => exact ih p hlt z ha
      · rw [hx] at ha
        obtain rfl := Option.some.inj ha
        simp at e
    · rename_i hx
      rcases Nat.lt_succ_iff_lt_or_eq.mp hp with hlt | rfl
      · exact ih p hlt y
      · exact fun h => hx y h
theorem run2_gone (c : CS) (k : Nat) : ∀ p, p < k → ∀ x, (run2 c k).B[p]? ≠ some (some x) := by
  induction k with
  | zero => intro p hp; exact absurd hp (Nat.not_lt_zero _)
  | succ k ih =>
    intro p hp y
    show (step2 k (run2 c k)).B[p]? ≠ _
    unfold step2
    split
    · rename_i x hx
      try dsimp only
      rw [clr_get]
      intro h
      obtain ⟨a, ha, e⟩ := Option.map_eq_some_iff.mp h
      rcases Nat.lt_succ_iff_lt_or_eq.mp hp with hlt | rfl
      · cases a with
        | none => simp at e
        | some z => exact ih p hlt z ha
      · rw [hx] at ha
        obtain rfl := Option.some.inj ha
        simp at e
    · rename_i hx
      rcases Nat.lt_succ_iff_lt_or_eq.mp hp with hlt | rfl
      · exact ih p hlt y
      · exact fun h => hx y h
theorem run1_out (c : CS) (k : Nat) : (run1 c k).out.length ≤ c.out.length + k := by
  induction k with
  | zero => exact Nat.le_refl _
  | succ k ih =>
    show (step1 k (run1 c k)).out.length ≤ _
    unfold step1
    split
    · try dsimp only
      split
      · (first | lia | omega)
      · rw [List.length_append]; simp; (first | lia | omega)
    · (first | lia | omega)
theorem run2_out (c : CS) (k : Nat) : (run2 c k).out.length ≤ c.out.length + k := by
  induction k with
  | zero => exact Nat.le_refl _
  | succ k ih =>
    show (step2 k (run2 c k)).out.length ≤ _
    unfold step2
    split
    · try dsimp only
      rw [List.length_append]; simp; (first | lia | omega)
    · (first | lia | omega)
/-- the list of mismatches -/
noncomputable def OutV (tups mis : List (Addr × Obj)) (out : List (Nat × Nat × Wd)) (rv : Array Value) : Prop :=
  rv.size = out.length ∧ ∀ (k : Nat) (a b : Nat) (x : Wd), out[k]? = some (a, b, x) → ∃ (X dx : Nat) (ta tb : Tok) (u : Value), rv[k]? = some (.ref X) ∧ (X, misObj dx #[.int (a : Nat) ta, .int (b : Nat) tb, u] 0) ∈ mis ∧ IsT tups x u
theorem OutV.nil {tups mis : List (Addr × Obj)} : OutV tups mis [] #[] := ⟨rfl, fun k a b x h => by simp at h⟩
theorem OutV.push {tups mis : List (Addr × Obj)} {out : List (Nat × Nat × Wd)} {rv : Array Value} (h : OutV tups mis out rv) {a b : Nat} {x : Wd} {X dx : Nat} {ta tb : Tok} {u : Value} {o : Addr × Obj} (hu : IsT tups x u) :
    OutV tups ((X, misObj dx #[.int (a : Nat) ta, .int (b : Nat) tb, u] 0) :: o :: mis) (out ++ [(a, b, x)]) (rv.push (.ref X)) := by
  refine ⟨by simp [h.1], fun k a' b' x' hk => ?_⟩
  rcases Nat.lt_trichotomy k out.length with hlt | rfl | hgt
  · rw [List.getElem?_append_left hlt] at hk
    obtain ⟨X', dx', ta', tb', u', e1, e2, e3⟩ := h.2 k a' b' x' hk
    exact ⟨X', dx', ta', tb', u', by rw [Array.getElem?_push_lt (by rw [h.1]; exact hlt)]; rw [← Array.getElem?_eq_getElem]; exact e1, .tail _ (.tail _ e2), e3⟩
  · simp at hk
    obtain ⟨rfl, rfl, rfl⟩ := hk
    exact ⟨X, dx, ta, tb, u, by rw [← h.1]; simp, .head _, hu⟩
  · rw [List.getElem?_eq_none (by simp; (first | lia | omega))] at hk
    cases hk
end
section
set_option tactic.hygienic false
section
variable {prog : Program} {w : World} {p : Program} {loose : List Str} {mean : ExcName → Option Value} {mg mb : Str → Option Value} {dp un : Nat} {gd : Option (List Code)} {cn : Str} {cs : Scope} {a : Addr} {ccd : Value} {cl : List (Str × Addr)} {outer : List Env} {A₀ : Around} {base h₀ : Heap} {L : Addr} {m : Str → Option Value} {news rest : List (Addr × Obj)} {s : Shared} {Q E : Value → Shared → Prop}
variable {lA lB S T : Nat} {mi ni : Int} {mt nt : Tok} {Z R : Nat} {i el cs9 ct j oe df : Option Value} {v : Value} {g : Heap} {L' : Nat} {QF : Flow → Shared → Prop} {tups big : List (Addr × Obj)}
theorem wd_KJ9_35 : True := by
  k_with "pyIter ref" => ((with_reducible show wpAny _ _ (pyIter (Value.ref _)) (fun it s₂ => LoopAtV _ _ _ _ _ _ _ _ _ it s₂) _ _); refine mark ?_)
  k_with "subscriptTail Name Name ref int" => (k_here; k_dflt (refine' item1K ?zN ?zm ?zz ?zk ?zv ?_; (case zN => k_asm); (case zm => k_mem); (case zz => assumption); (case zv => assumption); (case zk => assumption)))
  k_with "compareOp Eq ref ref" => (k_here; k_dflt (refine' eq_elb ?zv ?zu ?zN ?zt ?zZ ?zr ?zb ?_; (case zv => assumption); (case zu => assumption); (case zN => k_asm); (case zt => assumption); (case zZ => k_mem); (case zr => ktr_units); (case zb => assumption)))
  k_with "setItem ref int" => (k_here; k_dflt (refine' set1K ?zF ?zN ?zk ?zx ?zz ?zU ?_; (case zF => k_asm); (case zN => k_asm); (case zU => k_upd); (case zz => assumption); (case zx => assumption); (case zk => assumption)); intro _ _ _)
  k_with "exec For Tuple Call cons nil" => (k_here; (with_unfolding_all refine' For_enum ?_; k_whole))
  k_with "call type:enumerate" => ((with_reducible show wpAny _ _ (call (Value.type _) [Value.ref _]) (fun xv s₁ => wpAny _ _ (pyIter xv) (fun it s₂ => EnumAt _ _ _ _ _ _ _ _ it s₂) _ s₁) _ _); refine mark ?_)
  k_with "call ref" => (k_here; k_dflt (refine' mis_call ?C ?_; (case C => walk_at "CX")); intro _ _ _ _ _ zl8 _ _; (try k_lt zl8))
  trivial
theorem append1K {A : Around} {R : Addr} {rv : Array Value} {rc : Nat} {x : Value} {Q : Value → Shared → Prop} {news news' : List (Addr × Obj)} (F : Fr h₀ L s.heap m) (N : News h₀ L s.heap news) (U : Upd R (listOf rv rc) (listOf (rv.push x) (rc + 1)) news news') (hz : rv.size ≤ 1000)
    (h : ∀ h', Fr h₀ L h' m → News h₀ L h' news' → Q .none { s with heap := h' }) : wpAny (model prog w) A (call (.builtin "list.append") [.ref R, x]) Q E s := append_K F N U h (by rw [sizeLine_eq]; (first | lia | omega))
theorem wd_KJ9_36 : True := by
  k_with "call builtin:list.append" => (k_here; k_dflt (refine' append1K ?zF ?zN ?zU ?zz ?_; (case zF => k_asm); (case zN => k_asm); (case zU => k_upd); (case zz => assumption)); intro _ _ _)
  trivial
noncomputable def f1p : List Stmt := match f1Body with | a :: b :: _ => [a, b] | _ => []
noncomputable def f1q : List Stmt := match f1Body with | _ :: _ :: _ :: _ :: r => r | _ => []
noncomputable def f1 : List Stmt := match cdB with | _ :: _ :: _ :: _ :: _ :: c :: _ => [c] | _ => []
theorem f1Body_is : f1Body = f1p ++ (f1a ++ (f1b ++ f1q)) := by rfl
theorem cd_1q {aa : Addr} {e it : Nat} {eo io : Obj} {rv sv tv : Array Value} {rc sc tc : Nat} {u : Nat} {a b : Nat} {ta tb : Tok} (hz : rv.size ≤ 1000)
    (h1 : S < T) (h2 : T < Z) (h3 : Z < R) (h4 : R < it) (h5 : it < e) (hbg : ∀ p ∈ big, p.1 ≠ R)
    (Y : Ty 4 w p loose mean mg mb dp un gd cn cs L aa ccd cl outer base g)
    (F : Fr g L' s.heap (mcd lA lB S T mi mt ni nt Z R i (some (.ref u)) (some (.int (a : Nat) ta)) (some (.int (b : Nat) tb)) j oe df))
    (N : News g L' s.heap ((e, eo) :: (it, io) :: (R, listOf rv rc) :: (Z, nulO) :: (T, listOf tv tc) :: (S, listOf sv sc) :: big))
    (hq1 : a = b → ∀ h' tk', Fr g L' h' (mcd lA lB S T mi mt ni nt Z R i (some (.ref u)) (some (.int (a : Nat) ta)) (some (.int (b : Nat) tb)) j oe df) →
      News g L' h' ((e, eo) :: (it, io) :: (R, listOf rv rc) :: (Z, nulO) :: (T, listOf tv tc) :: (S, listOf sv sc) :: big) → QF .next { s with heap := h', toks := tk' })
    (hq2 : a ≠ b → ∀ (X dx : Nat) df' h' tk', dx < X → e < dx → (∀ p ∈ big, p.1 < dx) → Fr g L' h' (mcd lA lB S T mi mt ni nt Z R i (some (.ref u)) (some (.int (a : Nat) ta)) (some (.int (b : Nat) tb)) j oe df') →
      News g L' h' ((X, misObj dx #[.int (a : Nat) ta, .int (b : Nat) tb, .ref u] 0) :: (dx, emptyDict) :: (e, eo) :: (it, io) :: (R, listOf (rv.push (.ref X)) (rc + 1)) :: (Z, nulO) :: (T, listOf tv tc) :: (S, listOf sv sc) :: big) → QF .next { s with heap := h', toks := tk' }) :
    wpAny (model prog w) ((ktrTop dp un gd cn cs L aa ccd cl outer).deeper (cdEnv L')) (execs f1q (cdEnv L')) QF (fun _ _ => False) s := by
  obtain ⟨hk, hd, hun, B, X0, T0⟩ := Y
  k_steps
  · rename e < _ ∧ _ => hl8
    obtain ⟨q1, q2, q3, q4, q5, q6, hl9⟩ := hl8
    rename Fr _ _ _ _ => F9
    rename News _ _ _ _ => N9
    simp only [mcd_df] at F9
    refine hq2 (by first | k_extra "OM" | (first | lia | omega)) _ _ _ _ _ (by assumption) (by first | k_extra "OM" | (first | lia | omega)) (of_allLt hl9) F9 N9
  · exact hq1 (by first | k_extra "OM" | (first | lia | omega)) _ _ F N
theorem is_nulb {A : Around} {Z : Nat} {a : Option (List Str)} {v : Value} {Q : Value → Shared → Prop} {b : Bool} (hv : ElV Z tups a v) (N : News h₀ L s.heap news) (ht : ∀ p ∈ tups, p ∈ news) (hZ : (Z, nulO) ∈ news) (hb : a.isNone = b)
    (h : Q (.bool b) s) : wpAny (model prog w) A (compareOp .Is v (.ref Z)) Q E s :=
  is_nul hv N ht hZ (fun e => by subst e; rw [← hb] at h; exact h) (fun x e _ => by subst e; rw [← hb] at h; exact h)
theorem wd_KJ9_37 : True := by
  k_with "compareOp Is ref ref" => (k_here; k_dflt (refine' is_nulb ?zv ?zN ?zt ?zZ ?zb ?_; (case zv => assumption); (case zN => k_asm); (case zt => assumption); (case zZ => k_mem); (case zb => assumption)))
  trivial
inductive JC1 (As Bs : List Wd) (tups big : List (Addr × Obj)) (lA lB S T Z R sc tc : Nat) (mi : Int) (mt : Tok) (ni : Int) (nt : Tok) (k : Nat) : (Str → Option Value) → List (Addr × Obj) → Prop
  | mk (rv' : Array Value) (rc' : Nat) (sv' tv' : Array Value) (mis : List (Addr × Obj)) (i' el' cs' ct' j' oe' df' : Option Value) (hL : ListV Z tups (run1 ⟨As.map some, Bs.map some, []⟩ k).A sv') (hM : ListV Z tups (run1 ⟨As.map some, Bs.map some, []⟩ k).B tv') (hO : OutV tups mis (run1 ⟨As.map some, Bs.map some, []⟩ k).out rv') (hmis : ∀ p ∈ mis, R < p.1) :
    JC1 As Bs tups big lA lB S T Z R sc tc mi mt ni nt k (mcd lA lB S T mi mt ni nt Z R i' el' cs' ct' j' oe' df') ((R, listOf rv' rc') :: (Z, nulO) :: (T, listOf tv' tc) :: (S, listOf sv' sc) :: (mis ++ big))
theorem cd_1 {aa : Addr} {As Bs : List Wd} {sv tv : Array Value} {rc sc tc : Nat} (hzA : As.length ≤ 400) (hzB : Bs.length ≤ 400) (hmi : mi = (As.length : Int))
    (hA : ListV Z tups (As.map some) sv) (hB : ListV Z tups (Bs.map some) tv) (ht : ∀ p ∈ tups, p ∈ big) (h1 : S < T) (h2' : T < Z) (h3' : Z < R) (hbg : ∀ p ∈ big, p.1 < S)
    (Y : Ty 4 w p loose mean mg mb dp un gd cn cs L aa ccd cl outer base g)
    (F : Fr g L' s.heap (mcd lA lB S T mi mt ni nt Z R i el cs9 ct j oe df))
    (N : News g L' s.heap ((R, listOf #[] rc) :: (Z, nulO) :: (T, listOf tv tc) :: (S, listOf sv sc) :: big))
    (hq : ∀ rv' rc' sv' tv' mis i' el' cs' ct' j' oe' df' h' tk', ListV Z tups (run1 ⟨As.map some, Bs.map some, []⟩ As.length).B tv' → OutV tups mis (run1 ⟨As.map some, Bs.map some, []⟩ As.length).out rv' → (∀ p ∈ mis, R < p.1) →
      Fr g L' h' (mcd lA lB S T mi mt ni nt Z R i' el' cs' ct' j' oe' df') →
      News g L' h' ((R, listOf rv' rc') :: (Z, nulO) :: (T, listOf tv' tc) :: (S, listOf sv' sc) :: (mis ++ big)) → QF .next { s with heap := h', toks := tk' }) :
    wpAny (model prog w) ((ktrTop dp un gd cn cs L aa ccd cl outer).deeper (cdEnv L')) (execs f1 (cdEnv L')) QF (fun _ _ => False) s := by
  have Y' := Y
  obtain ⟨hk, hd, hun, B, X0, T0⟩ := Y
  k_steps
  unfold Marked
  rename Fr _ _ _ _ => F2
  rename News _ _ _ _ => N2
  refine enum_inv (h₀ := g) (n := As.length) (l := S) (JC1 As Bs tups big lA lB S T Z R sc tc mi mt ni nt) rfl (fun _ _ h => h.elim) F2 N2 (by k_mem) ?_ ?_ ?_ ?_
  · exact ⟨#[], rc, sv, tv, [], i, el, cs9, ct, j, oe, df, hA, hB, OutV.nil, fun p hp => (nomatch hp)⟩
  · rintro k m₁ news₁ ⟨rv', rc', sv', tv', mis, i', el', cs', ct', j', oe', df', hL, hM, hO, hmis⟩
    exact ⟨sv', sc, by k_mem, by rw [hL.1, (run1_len _ _).1, List.length_map]⟩
  · rintro k t9 m₁ news₁ h tk e it T2 eo io v9 vs9 c9 c8 hkn ⟨rv', rc', sv', tv', mis, i', el', cs', ct', j', oe', df', hL, hM, hO, hmis⟩ hm9 hv9 hoff hne hlI hlt2 hlt3 F4 N4
    refine rpost_gen2 fun QF9 hnx hct => ?_
    obtain rfl : vs9 = sv' := by
      have q1 := (N4 _ (.tail _ (.tail _ (.tail _ hm9)))).1
      have q2 := (N4 (S, listOf sv' sc) (by first | k_extra "MEM" | simp)).1
      have q3 := Option.some.inj (q1.symm.trans q2)
      have q4 := congrArg Obj.data q3
      simp only [Data.seq.injEq] at q4
      exact q4.1
    have hlenA : (run1 ⟨As.map some, Bs.map some, []⟩ k).A.length = As.length := by rw [(run1_len _ _).1, List.length_map]
    have hlenB : (run1 ⟨As.map some, Bs.map some, []⟩ k).B.length = Bs.length := by rw [(run1_len _ _).2, List.length_map]
    have hgone := run1_gone ⟨As.map some, Bs.map some, []⟩ k
    have hrz : rv'.size ≤ 1000 := by
      have q := run1_out ⟨As.map some, Bs.map some, []⟩ k
      rw [hO.1]
      simp at q
      first | k_extra "OM" | (first | lia | omega)
    have hstep : run1 ⟨As.map some, Bs.map some, []⟩ (k + 1) = step1 k (run1 ⟨As.map some, Bs.map some, []⟩ k) := rfl
    generalize run1 ⟨As.map some, Bs.map some, []⟩ k = C9 at *
    obtain ⟨a9, ha9⟩ : ∃ a9, C9.A[k]? = some a9 := ⟨_, List.getElem?_eq_getElem (by first | k_extra "OM" | (first | lia | omega))⟩
    obtain ⟨v8, hv8, he9⟩ := hL.get ha9
    rw [hv9] at hv8
    obtain rfl := Option.some.inj hv8
    have hRI : R < it := hlI (R, listOf #[] rc) (by first | k_extra "MEM" | simp)
    have ht8 : ∀ p ∈ tups, p ∈ mis ++ big := fun p hp => List.mem_append_right _ (ht p hp)
    have hbS : ∀ p ∈ mis ++ big, p.1 ≠ S ∧ p.1 ≠ T ∧ p.1 ≠ R := by
      intro p hp
      rcases List.mem_append.mp hp with hp | hp
      · have q := hmis p hp
        exact ⟨Nat.ne_of_gt (Nat.lt_trans (Nat.lt_trans h1 (Nat.lt_trans h2' h3')) q), Nat.ne_of_gt (Nat.lt_trans (Nat.lt_trans h2' h3') q), Nat.ne_of_gt q⟩
      · have q := hbg p hp
        exact ⟨Nat.ne_of_lt q, Nat.ne_of_lt (Nat.lt_trans q h1), Nat.ne_of_lt (Nat.lt_trans q (Nat.lt_trans h1 (Nat.lt_trans h2' h3')))⟩
    have hbS1 : ∀ p ∈ mis ++ big, p.1 ≠ S := fun p hp => (hbS p hp).1
    have hbS2 : ∀ p ∈ mis ++ big, p.1 ≠ T := fun p hp => (hbS p hp).2.1
    have hbS3 : ∀ p ∈ mis ++ big, p.1 ≠ R := fun p hp => (hbS p hp).2.2
    obtain ⟨U, hU⟩ := he9.ref
    subst hU
    show wpAny _ _ (assign _ (cdEnv L') _) (fun _ s₂ => wpAny _ _ (execs f1Body (cdEnv L')) _ _ s₂) _ _
    refine wpAny_mono (Q := fun _ s₂ => Marked (∃ h2 tk2 t2, s₂ = { s with heap := h2, toks := tk2 } ∧ Fr g L' h2 (mcd lA lB S T mi mt ni nt Z R (some (.int (k : Nat) t2)) (some (.ref U)) cs' ct' j' oe' df') ∧
      News g L' h2 ((e, eo) :: (it, io) :: (R, listOf rv' rc') :: (Z, nulO) :: (T, listOf tv' tc) :: (S, listOf vs9 sc) :: (mis ++ big)))) ?_ (fun _ s₂ hh => ?_) (fun _ _ h => h)
    · k_steps
      rename Fr _ _ _ _ => F5
      rename News _ _ _ _ => N5
      simp only [mcd_i, mcd_el] at F5
      exact ⟨_, _, _, rfl, F5, fun p hp => N5 p (.tail _ hp)⟩
    · obtain ⟨h2, tk2, t2, rfl, F5, N5⟩ := hh
      clear F4 N4
      have ht9 : ∀ p ∈ tups, p ∈ ((e, eo) :: (it, io) :: (R, listOf rv' rc') :: (Z, nulO) :: (T, listOf tv' tc) :: (S, listOf vs9 sc) :: (mis ++ big)) := fun p hp => by simp only [List.mem_cons]; exact .inr (.inr (.inr (.inr (.inr (.inr (ht8 p hp))))))
      cases a9 with
      | none =>
        have hnb : (none : Option Wd).isNone = true := rfl
        k_steps
        have e9 : step1 k C9 = C9 := by unfold step1; rw [ha9]
        rw [← e9, ← hstep] at hL hM hO
        first | exact hnx _ _ _ ((R, listOf rv' rc') :: (Z, nulO) :: (T, listOf tv' tc) :: (S, listOf vs9 sc) :: (mis ++ big)) F5 N5 (off_set2 hoff) ⟨rv', rc', vs9, tv', mis, _, _, _, _, _, _, _, hL, hM, hO, hmis⟩ | exact hct _ _ _ ((R, listOf rv' rc') :: (Z, nulO) :: (T, listOf tv' tc) :: (S, listOf vs9 sc) :: (mis ++ big)) F5 N5 (off_set2 hoff) ⟨rv', rc', vs9, tv', mis, _, _, _, _, _, _, _, hL, hM, hO, hmis⟩
      | some x =>
        have hnb : (some x : Option Wd).isNone = false := rfl
        have hux : IsT tups x (.ref U) := he9
        have e9 : step1 k C9 = ⟨clr x C9.A, clr x C9.B, if cnt x C9.A = cnt x C9.B then C9.out else C9.out ++ [(cnt x C9.A, cnt x C9.B, x)]⟩ := by unfold step1; rw [ha9]
        rw [f1Body_is]
        refine execs_app _ _ ?_
        refine wpAny_mono (Q := fun f s₂ => Marked (f = .next ∧ ∃ h2 tk2 c1 c2, s₂ = { s with heap := h2, toks := tk2 } ∧ Fr g L' h2 (mcd lA lB S T mi mt ni nt Z R (some (.int (k : Nat) t2)) (some (.ref U)) (some (.int 0 c1)) (some (.int 0 c2)) j' oe' df') ∧
          News g L' h2 ((e, eo) :: (it, io) :: (R, listOf rv' rc') :: (Z, nulO) :: (T, listOf tv' tc) :: (S, listOf vs9 sc) :: (mis ++ big)))) ?_ (fun f s₂ hh => ?_) (fun _ _ h => h)
        · k_steps
          rename Fr _ _ _ _ => F6
          rename News _ _ _ _ => N6
          simp only [mcd_cs, mcd_ct] at F6
          exact ⟨rfl, _, _, _, _, rfl, F6, N6⟩
        · obtain ⟨rfl, h3, tk3, c1, c2, rfl, F6, N6⟩ := hh
          clear F5 N5
          try dsimp only
          refine execs_app _ _ ?_
          refine cd_1a (As := C9.A) (x := x) (u := .ref U) (i0 := k) rfl (by rw [hmi, hlenA]) (by first | k_extra "OM" | (first | lia | omega)) (by first | k_extra "OM" | (first | lia | omega)) (fun p hp => hgone p hp x) hL hux ht8 h1 h2' h3' hRI hlt2 hbS1 Y' F6 N6 fun sv1 c1' j1 h4 tk4 hL1 F7 N7 => ?_
          try dsimp only
          refine execs_app _ _ ?_
          refine cd_1b (As := C9.B) (x := x) (u := .ref U) (by first | k_extra "OM" | (first | lia | omega)) hM hux ht8 h1 h2' h3' hRI hlt2 hbS2 Y' F7 N7 fun tv1 c2' j2 oe2 h5 tk5 hM1 F8 N8 => ?_
          try dsimp only
          refine cd_1q (by first | k_extra "OM" | (first | lia | omega)) h1 h2' h3' hRI hlt2 hbS3 Y' F8 N8 (fun hab h6 tk6 F9 N9 => ?_) (fun hab X dx df6 h6 tk6 hX hdx hdb F9 N9 => ?_)
          · rw [if_pos hab] at e9
            have e10 := hstep.trans e9
            first | exact hnx _ _ _ ((R, listOf rv' rc') :: (Z, nulO) :: (T, listOf tv1 tc) :: (S, listOf sv1 sc) :: (mis ++ big)) F9 N9 (off_set2 hoff) ⟨rv', rc', sv1, tv1, mis, _, _, _, _, _, _, _, by rw [e10]; exact hL1, by rw [e10]; exact hM1, by rw [e10]; exact hO, hmis⟩ | exact hct _ _ _ ((R, listOf rv' rc') :: (Z, nulO) :: (T, listOf tv1 tc) :: (S, listOf sv1 sc) :: (mis ++ big)) F9 N9 (off_set2 hoff) ⟨rv', rc', sv1, tv1, mis, _, _, _, _, _, _, _, by rw [e10]; exact hL1, by rw [e10]; exact hM1, by rw [e10]; exact hO, hmis⟩
          · rw [if_neg hab] at e9
            have e10 := hstep.trans e9
            have N10 : News g L' h6 ([(e, eo), (it, io)] ++ ((R, listOf (rv'.push (.ref X)) (rc' + 1)) :: (Z, nulO) :: (T, listOf tv1 tc) :: (S, listOf sv1 sc) :: (((X, misObj dx #[.int (cnt x C9.A : Nat) c1', .int (cnt x C9.B : Nat) c2', .ref U] 0) :: (dx, emptyDict) :: mis) ++ big))) := news_sub N9 fun p hp => by
              first | (refine sub_use ?_ hp; k_extra "SUB") | (simp only [List.mem_cons, List.mem_append, List.cons_append, List.nil_append] at hp ⊢; grind)
            refine hnx _ _ _ _ F9 N10 (fun p hp => ?_) ⟨rv'.push (.ref X), rc' + 1, sv1, tv1, (X, misObj dx #[.int (cnt x C9.A : Nat) c1', .int (cnt x C9.B : Nat) c2', .ref U] 0) :: (dx, emptyDict) :: mis, _, _, _, _, _, _, _, by rw [e10]; exact hL1, by rw [e10]; exact hM1, by rw [e10]; exact hO.push hux, fun p hp => ?_⟩
            · have hp' : p.1 = X ∨ p.1 = dx ∨ p.1 ∈ ((R, listOf rv' rc') :: (Z, nulO) :: (T, listOf tv' tc) :: (S, listOf vs9 sc) :: (mis ++ big)).map (·.1) := by
                simp only [List.mem_cons, List.mem_append, List.cons_append, List.nil_append, List.map_cons, List.map_append, List.mem_map] at hp ⊢
                rcases hp with rfl | rfl | rfl | rfl | rfl | rfl | hp | hp
                · exact .inr (.inr (.inl rfl))
                · exact .inr (.inr (.inr (.inl rfl)))
                · exact .inr (.inr (.inr (.inr (.inl rfl))))
                · exact .inr (.inr (.inr (.inr (.inr (.inl rfl)))))
                · exact .inl rfl
                · exact .inr (.inl rfl)
                · exact .inr (.inr (.inr (.inr (.inr (.inr (.inl ⟨p, hp, rfl⟩))))))
                · exact .inr (.inr (.inr (.inr (.inr (.inr (.inr ⟨p, hp, rfl⟩))))))
              have hpe : p.1 ≠ e ∧ p.1 ≠ it := by
                rcases hp' with h8 | h8 | h8
                · rw [h8]; exact ⟨Nat.ne_of_gt (by first | k_extra "OM" | (first | lia | omega)), Nat.ne_of_gt (by first | k_extra "OM" | (first | lia | omega))⟩
                · rw [h8]; exact ⟨Nat.ne_of_gt (by first | k_extra "OM" | (first | lia | omega)), Nat.ne_of_gt (by first | k_extra "OM" | (first | lia | omega))⟩
                · obtain ⟨r, hr, er⟩ := List.mem_map.mp h8
                  have := hoff r hr
                  rw [← er]
                  exact ⟨this.1, this.2.1⟩
              intro q hq
              revert q hq
              refine allP_cons ?_ (allP_cons ?_ allP_nil)
              · exact hpe.1
              · exact hpe.2
            · revert p hp
              refine allP_cons ?_ (allP_cons ?_ (fun p hp => ?_))
              · show R < X; (first | lia | omega)
              · show R < dx; (first | lia | omega)
              · exact hmis p hp
  · rintro h tk m' news' F3 N3 ⟨rv', rc', sv', tv', mis, i', el', cs', ct', j', oe', df', hL, hM, hO, hmis⟩
    refine wpAny_execs_nil ?_
    exact hq _ _ _ _ _ _ _ _ _ _ _ _ _ _ hM hO hmis F3 N3
end
end
section
set_option tactic.hygienic false
section
variable {prog : Program} {w : World} {p : Program} {loose : List Str} {mean : ExcName → Option Value} {mg mb : Str → Option Value} {dp un : Nat} {gd : Option (List Code)} {cn : Str} {cs : Scope} {a : Addr} {ccd : Value} {cl : List (Str × Addr)} {outer : List Env} {A₀ : Around} {base h₀ : Heap} {L : Addr} {m : Str → Option Value} {news rest : List (Addr × Obj)} {s : Shared} {Q E : Value → Shared → Prop}
variable {lA lB S T : Nat} {mi ni : Int} {mt nt : Tok} {Z R : Nat} {i el cs9 ct j oe df : Option Value} {v : Value} {g : Heap} {L' : Nat} {QF : Flow → Shared → Prop} {tups big : List (Addr × Obj)}
theorem wd_KJ10_30 : True := by
  k_with "pyIter ref" => ((with_reducible show wpAny _ _ (pyIter (Value.ref _)) (fun it s₂ => LoopAtV _ _ _ _ _ _ _ _ _ it s₂) _ _); refine mark ?_)
  k_with "subscriptTail Name Name ref int" => (k_here; k_dflt (refine' item1K ?zN ?zm ?zz ?zk ?zv ?_; (case zN => k_asm); (case zm => k_mem); (case zz => assumption); (case zv => assumption); (case zk => assumption)))
  k_with "compareOp Eq ref ref" => (k_here; k_dflt (refine' eq_elb ?zv ?zu ?zN ?zt ?zZ ?zr ?zb ?_; (case zv => assumption); (case zu => assumption); (case zN => k_asm); (case zt => assumption); (case zZ => k_mem); (case zr => ktr_units); (case zb => assumption)))
  k_with "setItem ref int" => (k_here; k_dflt (refine' set1K ?zF ?zN ?zk ?zx ?zz ?zU ?_; (case zF => k_asm); (case zN => k_asm); (case zU => k_upd); (case zz => assumption); (case zx => assumption); (case zk => assumption)); intro _ _ _)
  k_with "exec For Tuple Call cons nil" => (k_here; (with_unfolding_all refine' For_enum ?_; k_whole))
  k_with "call type:enumerate" => ((with_reducible show wpAny _ _ (call (Value.type _) [Value.ref _]) (fun xv s₁ => wpAny _ _ (pyIter xv) (fun it s₂ => EnumAt _ _ _ _ _ _ _ _ it s₂) _ s₁) _ _); refine mark ?_)
  k_with "call ref" => (k_here; k_dflt (refine' mis_call ?C ?_; (case C => walk_at "CX")); intro _ _ _ _ _ zl8 _ _; (try k_lt zl8))
  k_with "call builtin:list.append" => (k_here; k_dflt (refine' append1K ?zF ?zN ?zU ?zz ?_; (case zF => k_asm); (case zN => k_asm); (case zU => k_upd); (case zz => assumption)); intro _ _ _)
  k_with "compareOp Is ref ref" => (k_here; k_dflt (refine' is_nulb ?zv ?zN ?zt ?zZ ?zb ?_; (case zv => assumption); (case zN => k_asm); (case zt => assumption); (case zZ => k_mem); (case zb => assumption)))
  trivial
noncomputable def f2p : List Stmt := match f2Body with | a :: b :: _ => [a, b] | _ => []
noncomputable def f2q : List Stmt := match f2Body with | _ :: _ :: _ :: r => r | _ => []
noncomputable def f2 : List Stmt := match cdB with | _ :: _ :: _ :: _ :: _ :: _ :: c :: _ => [c] | _ => []
theorem f2Body_is : f2Body = f2p ++ (f2a ++ f2q) := by rfl
theorem cd_2q {aa : Addr} {e it : Nat} {eo io : Obj} {rv sv tv : Array Value} {rc sc tc : Nat} {u : Nat} {b : Nat} {tb : Tok} (hz : rv.size ≤ 1000)
    (h1 : S < T) (h2 : T < Z) (h3 : Z < R) (h4 : R < it) (h5 : it < e) (hbg : ∀ p ∈ big, p.1 ≠ R)
    (Y : Ty 4 w p loose mean mg mb dp un gd cn cs L aa ccd cl outer base g)
    (F : Fr g L' s.heap (mcd lA lB S T mi mt ni nt Z R i (some (.ref u)) cs9 (some (.int (b : Nat) tb)) j oe df))
    (N : News g L' s.heap ((e, eo) :: (it, io) :: (R, listOf rv rc) :: (Z, nulO) :: (T, listOf tv tc) :: (S, listOf sv sc) :: big))
    (hq2 : ∀ (X dx : Nat) t0 df' h' tk', dx < X → e < dx → (∀ p ∈ big, p.1 < dx) → Fr g L' h' (mcd lA lB S T mi mt ni nt Z R i (some (.ref u)) cs9 (some (.int (b : Nat) tb)) j oe df') →
      News g L' h' ((X, misObj dx #[.int ((0 : Nat) : Int) t0, .int (b : Nat) tb, .ref u] 0) :: (dx, emptyDict) :: (e, eo) :: (it, io) :: (R, listOf (rv.push (.ref X)) (rc + 1)) :: (Z, nulO) :: (T, listOf tv tc) :: (S, listOf sv sc) :: big) → QF .next { s with heap := h', toks := tk' }) :
    wpAny (model prog w) ((ktrTop dp un gd cn cs L aa ccd cl outer).deeper (cdEnv L')) (execs f2q (cdEnv L')) QF (fun _ _ => False) s := by
  obtain ⟨hk, hd, hun, B, X0, T0⟩ := Y
  k_steps
  rename e < _ ∧ _ => hl8
  obtain ⟨q1, q2, q3, q4, q5, q6, hl9⟩ := hl8
  rename Fr _ _ _ _ => F9
  rename News _ _ _ _ => N9
  simp only [mcd_df] at F9
  refine hq2 _ _ _ _ _ _ (by assumption) (by first | k_extra "OM" | (first | lia | omega)) (of_allLt hl9) F9 N9
inductive JC2 (C0 : CS) (tups big : List (Addr × Obj)) (lA lB S T Z R sc tc : Nat) (sv : Array Value) (mi : Int) (mt : Tok) (ni : Int) (nt : Tok) (k : Nat) : (Str → Option Value) → List (Addr × Obj) → Prop
  | mk (rv' : Array Value) (rc' : Nat) (tv' : Array Value) (mis : List (Addr × Obj)) (i' el' cs' ct' j' oe' df' : Option Value) (hM : ListV Z tups (run2 C0 k).B tv') (hO : OutV tups mis (run2 C0 k).out rv') (hmis : ∀ p ∈ mis, R < p.1) :
    JC2 C0 tups big lA lB S T Z R sc tc sv mi mt ni nt k (mcd lA lB S T mi mt ni nt Z R i' el' cs' ct' j' oe' df') ((R, listOf rv' rc') :: (Z, nulO) :: (T, listOf tv' tc) :: (S, listOf sv sc) :: (mis ++ big))
theorem cd_2 {aa : Addr} {C0 : CS} {rv sv tv : Array Value} {rc sc tc : Nat} {mis0 : List (Addr × Obj)} (hzB : C0.B.length ≤ 400) (hzO : C0.out.length ≤ 400) (hmi : ni = (C0.B.length : Int))
    (hB : ListV Z tups C0.B tv) (hO0 : OutV tups mis0 C0.out rv) (hm0 : ∀ p ∈ mis0, R < p.1) (ht : ∀ p ∈ tups, p ∈ big) (h1 : S < T) (h2' : T < Z) (h3' : Z < R) (hbg : ∀ p ∈ big, p.1 < S)
    (Y : Ty 4 w p loose mean mg mb dp un gd cn cs L aa ccd cl outer base g)
    (F : Fr g L' s.heap (mcd lA lB S T mi mt ni nt Z R i el cs9 ct j oe df))
    (N : News g L' s.heap ((R, listOf rv rc) :: (Z, nulO) :: (T, listOf tv tc) :: (S, listOf sv sc) :: (mis0 ++ big)))
    (hq : ∀ rv' rc' tv' mis i' el' cs' ct' j' oe' df' h' tk', OutV tups mis (run2 C0 C0.B.length).out rv' → (∀ p ∈ mis, R < p.1) →
      Fr g L' h' (mcd lA lB S T mi mt ni nt Z R i' el' cs' ct' j' oe' df') →
      News g L' h' ((R, listOf rv' rc') :: (Z, nulO) :: (T, listOf tv' tc) :: (S, listOf sv sc) :: (mis ++ big)) → QF .next { s with heap := h', toks := tk' }) :
    wpAny (model prog w) ((ktrTop dp un gd cn cs L aa ccd cl outer).deeper (cdEnv L')) (execs f2 (cdEnv L')) QF (fun _ _ => False) s := by
  have Y' := Y
  obtain ⟨hk, hd, hun, B, X0, T0⟩ := Y
  k_steps
  unfold Marked
  rename Fr _ _ _ _ => F2
  rename News _ _ _ _ => N2
  refine enum_inv (h₀ := g) (n := C0.B.length) (l := T) (JC2 C0 tups big lA lB S T Z R sc tc sv mi mt ni nt) rfl (fun _ _ h => h.elim) F2 N2 (by k_mem) ?_ ?_ ?_ ?_
  · exact ⟨rv, rc, tv, mis0, i, el, cs9, ct, j, oe, df, hB, hO0, hm0⟩
  · rintro k m₁ news₁ ⟨rv', rc', tv', mis, i', el', cs', ct', j', oe', df', hM, hO, hmis⟩
    exact ⟨tv', tc, by k_mem, by rw [hM.1, (run2_len _ _).2]⟩
  · rintro k t9 m₁ news₁ h tk e it T2 eo io v9 vs9 c9 c8 hkn ⟨rv', rc', tv', mis, i', el', cs', ct', j', oe', df', hM, hO, hmis⟩ hm9 hv9 hoff hne hlI hlt2 hlt3 F4 N4
    refine rpost_gen2 fun QF9 hnx hct => ?_
    obtain rfl : vs9 = tv' := by
      have q1 := (N4 _ (.tail _ (.tail _ (.tail _ hm9)))).1
      have q2 := (N4 (T, listOf tv' tc) (by first | k_extra "MEM" | simp)).1
      have q3 := Option.some.inj (q1.symm.trans q2)
      have q4 := congrArg Obj.data q3
      simp only [Data.seq.injEq] at q4
      exact q4.1
    have hlenB : (run2 C0 k).B.length = C0.B.length := (run2_len _ _).2
    have hgone := run2_gone C0 k
    have hrz : rv'.size ≤ 1000 := by
      have q := run2_out C0 k
      rw [hO.1]
      first | k_extra "OM" | (first | lia | omega)
    have hstep : run2 C0 (k + 1) = step2 k (run2 C0 k) := rfl
    generalize run2 C0 k = C9 at *
    obtain ⟨a9, ha9⟩ : ∃ a9, C9.B[k]? = some a9 := ⟨_, List.getElem?_eq_getElem (by first | k_extra "OM" | (first | lia | omega))⟩
    obtain ⟨v8, hv8, he9⟩ := hM.get ha9
    rw [hv9] at hv8
    obtain rfl := Option.some.inj hv8
    have hRI : R < it := hlI (R, listOf rv rc) (by first | k_extra "MEM" | simp)
    have ht8 : ∀ p ∈ tups, p ∈ mis ++ big := fun p hp => List.mem_append_right _ (ht p hp)
    have hbS : ∀ p ∈ mis ++ big, p.1 ≠ S ∧ p.1 ≠ T ∧ p.1 ≠ R := by
      intro p hp
      rcases List.mem_append.mp hp with hp | hp
      · have q := hmis p hp
        exact ⟨Nat.ne_of_gt (Nat.lt_trans (Nat.lt_trans h1 (Nat.lt_trans h2' h3')) q), Nat.ne_of_gt (Nat.lt_trans (Nat.lt_trans h2' h3') q), Nat.ne_of_gt q⟩
      · have q := hbg p hp
        exact ⟨Nat.ne_of_lt q, Nat.ne_of_lt (Nat.lt_trans q h1), Nat.ne_of_lt (Nat.lt_trans q (Nat.lt_trans h1 (Nat.lt_trans h2' h3')))⟩
    have hbS2 : ∀ p ∈ mis ++ big, p.1 ≠ T := fun p hp => (hbS p hp).2.1
    have hbS3 : ∀ p ∈ mis ++ big, p.1 ≠ R := fun p hp => (hbS p hp).2.2
    obtain ⟨U, hU⟩ := he9.ref
    subst hU
    show wpAny _ _ (assign _ (cdEnv L') _) (fun _ s₂ => wpAny _ _ (execs f2Body (cdEnv L')) _ _ s₂) _ _
    refine wpAny_mono (Q := fun _ s₂ => Marked (∃ h2 tk2 t2, s₂ = { s with heap := h2, toks := tk2 } ∧ Fr g L' h2 (mcd lA lB S T mi mt ni nt Z R (some (.int (k : Nat) t2)) (some (.ref U)) cs' ct' j' oe' df') ∧
      News g L' h2 ((e, eo) :: (it, io) :: (R, listOf rv' rc') :: (Z, nulO) :: (T, listOf vs9 tc) :: (S, listOf sv sc) :: (mis ++ big)))) ?_ (fun _ s₂ hh => ?_) (fun _ _ h => h)
    · k_steps
      rename Fr _ _ _ _ => F5
      rename News _ _ _ _ => N5
      simp only [mcd_i, mcd_el] at F5
      exact ⟨_, _, _, rfl, F5, fun p hp => N5 p (.tail _ hp)⟩
    · obtain ⟨h2, tk2, t2, rfl, F5, N5⟩ := hh
      clear F4 N4
      have ht9 : ∀ p ∈ tups, p ∈ ((e, eo) :: (it, io) :: (R, listOf rv' rc') :: (Z, nulO) :: (T, listOf vs9 tc) :: (S, listOf sv sc) :: (mis ++ big)) := fun p hp => by simp only [List.mem_cons]; exact .inr (.inr (.inr (.inr (.inr (.inr (ht8 p hp))))))
      cases a9 with
      | none =>
        have hnb : (none : Option Wd).isNone = true := rfl
        k_steps
        have e9 : step2 k C9 = C9 := by unfold step2; rw [ha9]
        rw [← e9, ← hstep] at hM hO
        first | exact hnx _ _ _ ((R, listOf rv' rc') :: (Z, nulO) :: (T, listOf vs9 tc) :: (S, listOf sv sc) :: (mis ++ big)) F5 N5 (off_set2 hoff) ⟨rv', rc', vs9, mis, _, _, _, _, _, _, _, hM, hO, hmis⟩ | exact hct _ _ _ ((R, listOf rv' rc') :: (Z, nulO) :: (T, listOf vs9 tc) :: (S, listOf sv sc) :: (mis ++ big)) F5 N5 (off_set2 hoff) ⟨rv', rc', vs9, mis, _, _, _, _, _, _, _, hM, hO, hmis⟩
      | some x =>
        have hnb : (some x : Option Wd).isNone = false := rfl
        have hux : IsT tups x (.ref U) := he9
        have e9 : step2 k C9 = ⟨C9.A, clr x C9.B, C9.out ++ [(0, cnt x C9.B, x)]⟩ := by unfold step2; rw [ha9]
        rw [f2Body_is]
        refine execs_app _ _ ?_
        refine wpAny_mono (Q := fun f s₂ => Marked (f = .next ∧ ∃ h2 tk2 c2, s₂ = { s with heap := h2, toks := tk2 } ∧ Fr g L' h2 (mcd lA lB S T mi mt ni nt Z R (some (.int (k : Nat) t2)) (some (.ref U)) cs' (some (.int 0 c2)) j' oe' df') ∧
          News g L' h2 ((e, eo) :: (it, io) :: (R, listOf rv' rc') :: (Z, nulO) :: (T, listOf vs9 tc) :: (S, listOf sv sc) :: (mis ++ big)))) ?_ (fun f s₂ hh => ?_) (fun _ _ h => h)
        · k_steps
          rename Fr _ _ _ _ => F6
          rename News _ _ _ _ => N6
          simp only [mcd_cs, mcd_ct] at F6
          exact ⟨rfl, _, _, _, rfl, F6, N6⟩
        · obtain ⟨rfl, h3, tk3, c2, rfl, F6, N6⟩ := hh
          clear F5 N5
          try dsimp only
          refine execs_app _ _ ?_
          refine cd_2a (As := C9.B) (x := x) (u := .ref U) (i0 := k) rfl (by rw [hmi, hlenB]) (by first | k_extra "OM" | (first | lia | omega)) (by first | k_extra "OM" | (first | lia | omega)) (fun p hp => hgone p hp x) hM hux ht8 h1 h2' h3' hRI hlt2 hbS2 Y' F6 N6 fun tv1 c2' j2 h5 tk5 hM1 F8 N8 => ?_
          try dsimp only
          refine cd_2q (by first | k_extra "OM" | (first | lia | omega)) h1 h2' h3' hRI hlt2 hbS3 Y' F8 N8 fun X dx t0 df6 h6 tk6 hX hdx hdb F9 N9 => ?_
          have e10 := hstep.trans e9
          have N10 : News g L' h6 ([(e, eo), (it, io)] ++ ((R, listOf (rv'.push (.ref X)) (rc' + 1)) :: (Z, nulO) :: (T, listOf tv1 tc) :: (S, listOf sv sc) :: (((X, misObj dx #[.int ((0 : Nat) : Int) t0, .int (cnt x C9.B : Nat) c2', .ref U] 0) :: (dx, emptyDict) :: mis) ++ big))) := news_sub N9 fun p hp => by
            first | (refine sub_use ?_ hp; k_extra "SUB") | (simp only [List.mem_cons, List.mem_append, List.cons_append, List.nil_append] at hp ⊢; grind)
          refine hnx _ _ _ _ F9 N10 (fun p hp => ?_) ⟨rv'.push (.ref X), rc' + 1, tv1, (X, misObj dx #[.int ((0 : Nat) : Int) t0, .int (cnt x C9.B : Nat) c2', .ref U] 0) :: (dx, emptyDict) :: mis, _, _, _, _, _, _, _, by rw [e10]; exact hM1, by rw [e10]; exact hO.push hux, fun p hp => ?_⟩
          · have hp' : p.1 = X ∨ p.1 = dx ∨ p.1 ∈ ((R, listOf rv' rc') :: (Z, nulO) :: (T, listOf vs9 tc) :: (S, listOf sv sc) :: (mis ++ big)).map (·.1) := by
              simp only [List.mem_cons, List.mem_append, List.cons_append, List.map_cons, List.map_append, List.mem_map] at hp ⊢
              rcases hp with rfl | rfl | rfl | rfl | rfl | rfl | hp | hp
              · exact .inr (.inr (.inl rfl))
              · exact .inr (.inr (.inr (.inl rfl)))
              · exact .inr (.inr (.inr (.inr (.inl rfl))))
              · exact .inr (.inr (.inr (.inr (.inr (.inl rfl)))))
              · exact .inl rfl
              · exact .inr (.inl rfl)
              · exact .inr (.inr (.inr (.inr (.inr (.inr (.inl ⟨p, hp, rfl⟩))))))
              · exact .inr (.inr (.inr (.inr (.inr (.inr (.inr ⟨p, hp, rfl⟩))))))
            have hpe : p.1 ≠ e ∧ p.1 ≠ it := by
              rcases hp' with h8 | h8 | h8
              · rw [h8]; exact ⟨Nat.ne_of_gt (by first | k_extra "OM" | (first | lia | omega)), Nat.ne_of_gt (by first | k_extra "OM" | (first | lia | omega))⟩
              · rw [h8]; exact ⟨Nat.ne_of_gt (by first | k_extra "OM" | (first | lia | omega)), Nat.ne_of_gt (by first | k_extra "OM" | (first | lia | omega))⟩
              · obtain ⟨r, hr, er⟩ := List.mem_map.mp h8
                have := hoff r hr
                rw [← er]
                exact ⟨this.1, this.2.1⟩
            intro q hq
            revert q hq
            refine allP_cons ?_ (allP_cons ?_ allP_nil)
            · exact hpe.1
            · exact hpe.2
          · revert p hp
            refine allP_cons ?_ (allP_cons ?_ (fun p hp => ?_))
            · show R < X; (first | lia | omega)
            · show R < dx; (first | lia | omega)
            · exact hmis p hp
  · rintro h tk m' news' F3 N3 ⟨rv', rc', tv', mis, i', el', cs', ct', j', oe', df', hM, hO, hmis⟩
    refine wpAny_execs_nil ?_
    exact hq _ _ _ _ _ _ _ _ _ _ _ _ _ hO hmis F3 N3
end
end
section
set_option tactic.hygienic false
section
variable {prog : Program} {w : World} {p : Program} {loose : List Str} {mean : ExcName → Option Value} {mg mb : Str → Option Value} {dp un : Nat} {gd : Option (List Code)} {cn : Str} {cs : Scope} {a : Addr} {ccd : Value} {cl : List (Str × Addr)} {outer : List Env} {A₀ : Around} {base h₀ : Heap} {L : Addr} {m : Str → Option Value} {news rest : List (Addr × Obj)} {s : Shared} {Q E : Value → Shared → Prop}
variable {lA lB S T : Nat} {mi ni : Int} {mt nt : Tok} {Z R : Nat} {i el cs9 ct j oe df : Option Value} {v : Value} {g : Heap} {L' : Nat} {QF : Flow → Shared → Prop} {tups big : List (Addr × Obj)}
theorem wd_KJ11_31 : True := by
  k_with "call type:list" => (k_here; k_dflt (refine' list1K ?zF ?zN ?zm ?zz ?_; (case zF => k_asm); (case zN => k_asm); (case zm => k_mem); (case zz => assumption)); intro _ _ _ _ _ zl9; (try k_lt zl9))
  k_with "call builtin:len" => (k_here; k_dflt (refine' len1K ?zN ?zm ?zz ?_; (case zN => k_asm); (case zm => k_mem); (case zz => assumption)); intro _ _)
  k_with "call type:object" => (k_here; k_dflt (refine' objectK ?zF ?zN ?_; (case zF => k_asm); (case zN => k_asm)); intro _ _ zl9 _ _; (try k_lt zl9))
  trivial
noncomputable def ListT (tups : List (Addr × Obj)) (As : List Wd) (vs : Array Value) : Prop := vs.size = As.length ∧ ∀ (k : Nat) (x : Wd), As[k]? = some x → ∃ v, vs[k]? = some v ∧ IsT tups x v
theorem ListT.toV {As : List Wd} {vs : Array Value} (h : ListT tups As vs) (Z : Nat) : ListV Z tups (As.map some) vs := by
  refine ⟨by simp [h.1], fun k a hk => ?_⟩
  rw [List.getElem?_map] at hk
  obtain ⟨x, hx, rfl⟩ := Option.map_eq_some_iff.mp hk
  exact h.2 k x hx
noncomputable def cdPre : List Stmt := match cdB with | a :: b :: c :: d :: e :: _ => [a, b, c, d, e] | _ => []
noncomputable def cdRet : List Stmt := match cdB with | _ :: _ :: _ :: _ :: _ :: _ :: _ :: r => r | _ => []
theorem cdB_is : cdB = cdPre ++ (f1 ++ (f2 ++ cdRet)) := by rfl
theorem mcd_start {tM tN : Tok} (y : Str) : (if y = Str.ofString "result" then some (Value.ref R) else if y = Str.ofString "NULL" then some (Value.ref Z) else if y = Str.ofString "m" then some (Value.int mi tM) else if y = Str.ofString "n" then some (Value.int ni tN) else if y = Str.ofString "s" then some (Value.ref S) else if y = Str.ofString "t" then some (Value.ref T) else
    ([(Str.ofString "expected", Value.ref lB), (Str.ofString "actual", Value.ref lA)] : List (Str × Value)).lookup y) = mcd lA lB S T mi tM ni tN Z R none none none none none none none y := by
  by_cases h1 : y = Str.ofString "result"
  · subst h1; rfl
  by_cases h2 : y = Str.ofString "NULL"
  · subst h2; rfl
  by_cases h3 : y = Str.ofString "m"
  · subst h3; rfl
  by_cases h4 : y = Str.ofString "n"
  · subst h4; rfl
  by_cases h5 : y = Str.ofString "s"
  · subst h5; rfl
  by_cases h6 : y = Str.ofString "t"
  · subst h6; rfl
  by_cases h7 : y = Str.ofString "expected"
  · subst h7; rfl
  by_cases h8 : y = Str.ofString "actual"
  · subst h8; rfl
  have e7 : (y == Str.ofString "expected") = false := beq_eq_false_iff_ne.mpr h7
  have e8 : (y == Str.ofString "actual") = false := beq_eq_false_iff_ne.mpr h8
  simp only [mcd, if_neg h1, if_neg h2, if_neg h3, if_neg h4, if_neg h5, if_neg h6, if_neg h7, if_neg h8, List.lookup, e7, e8]
  simp
theorem dropM {h₀ h : Heap} {L : Addr} {a b c d : Addr × Obj} {l : List (Addr × Obj)} (N : News h₀ L h (a :: b :: c :: d :: l)) : News h₀ L h (a :: b :: l) := news_sub N fun p hp => by
  first | (refine sub_use ?_ hp; k_extra "SUB") | (simp only [List.mem_cons, List.mem_append, List.cons_append, List.nil_append] at hp ⊢; grind)
inductive CdP (g : Heap) (L' lA lB ca cb : Nat) (va vb : Array Value) (As Bs : List Wd) (rest : List (Addr × Obj)) (s : Shared) : Flow → Shared → Prop
  | mk (h2 : Heap) (tk2 : Nat) (S T Z R sc tc : Nat) (mt nt : Tok) (hST : S < T) (hTZ : T < Z) (hZR : Z < R) (hbase : ∀ p ∈ ((lA, listOf va ca) :: (lB, listOf vb cb) :: rest), p.1 < S) (F3 : Fr g L' h2 (mcd lA lB S T (As.length : Int) mt (Bs.length : Int) nt Z R none none none none none none none))
    (N3 : News g L' h2 ((R, listOf #[] 0) :: (Z, nulO) :: (T, listOf vb tc) :: (S, listOf va sc) :: ((lA, listOf va ca) :: (lB, listOf vb cb) :: rest))) : CdP g L' lA lB ca cb va vb As Bs rest s .next { s with heap := h2, toks := tk2 }
theorem cd_body {As Bs : List Wd} {va vb : Array Value} {ca cb : Nat} (hA : ListT tups As va) (hB : ListT tups Bs vb) (hzA : As.length ≤ 200) (hzB : Bs.length ≤ 200) (ht : ∀ p ∈ tups, p ∈ rest)
    (Y : Ty 4 w p loose mean mg mb dp un gd cn cs L a ccd cl outer base g)
    (F : Fr g L' s.heap (fun y => ([(Str.ofString "expected", Value.ref lB), (Str.ofString "actual", Value.ref lA)] : List (Str × Value)).lookup y))
    (N : News g L' s.heap ((lA, listOf va ca) :: (lB, listOf vb cb) :: rest))
    (hq : ∀ (R : Nat) rv rc mis h' tk' m', OutV tups mis (cdap As Bs) rv → (∀ p ∈ mis, R < p.1) → (∀ p ∈ ((lA, listOf va ca) :: (lB, listOf vb cb) :: rest), p.1 < R) → Fr g L' h' m' → News g L' h' ((R, listOf rv rc) :: (mis ++ ((lA, listOf va ca) :: (lB, listOf vb cb) :: rest))) → QF (.ret (.ref R)) { s with heap := h', toks := tk' }) :
    wpAny (model prog w) ((ktrTop dp un gd cn cs L a ccd cl outer).deeper (cdEnv L')) (execs cdB (cdEnv L')) QF (fun _ _ => False) s := by
  have hza : va.size ≤ 1000 := by rw [hA.1]; (first | lia | omega)
  have hzb : vb.size ≤ 1000 := by rw [hB.1]; (first | lia | omega)
  have Y' := Y
  obtain ⟨hk, hd, hun, B, X0, T0⟩ := Y
  rw [cdB_is]
  refine execs_app _ _ ?_
  refine wpAny_mono (Q := fun f s₂ => Marked (CdP g L' lA lB ca cb va vb As Bs rest s f s₂)) ?_ (fun f s₂ hh => ?_) (fun _ _ h => h)
  · k_steps
    rename Fr _ _ _ _ => F3
    rename News _ _ _ _ => N3
    have F4 := Fr.cast F3 mcd_start
    rw [hA.1, hB.1] at F4
    rename (lA < _ ∧ lB < _ ∧ AllLt _ rest) => hl
    obtain ⟨q1, q2, q3⟩ := hl
    refine CdP.mk _ _ _ _ _ _ _ _ _ _ ?_ ?_ ?_ ?_ F4 (dropM N3)
    · first | k_extra "OM" | (first | lia | omega)
    · first | k_extra "OM" | (first | lia | omega)
    · first | k_extra "OM" | (first | lia | omega)
    · intro p hp
      revert p hp
      refine allP_cons ?_ (allP_cons ?_ (fun p hp => ?_))
      · exact q1
      · exact q2
      · exact of_allLt q3 p hp
  · obtain ⟨h2, tk2, S, T, Z, R, sc, tc, mt, nt, hST, hTZ, hZR, hbase, F3, N3⟩ := hh
    try dsimp only
    refine execs_app _ _ ?_
    refine cd_1 (As := As) (Bs := Bs) (tups := tups) (by first | k_extra "OM" | (first | lia | omega)) (by first | k_extra "OM" | (first | lia | omega)) rfl (hA.toV Z) (hB.toV Z) (fun p hp => .tail _ (.tail _ (ht p hp))) hST hTZ hZR hbase Y' F3 N3
      fun rv' rc' sv' tv' mis i' el' cs' ct' j' oe' df' h3 tk3 hM hO hmis F4 N4 => ?_
    try dsimp only
    refine execs_app _ _ ?_
    have q1 := run1_len ⟨As.map some, Bs.map some, []⟩ As.length
    have q2 := run1_out ⟨As.map some, Bs.map some, []⟩ As.length
    simp only [List.length_map, List.length_nil, Nat.zero_add] at q1 q2
    refine cd_2 (tups := tups) (C0 := run1 ⟨As.map some, Bs.map some, []⟩ As.length) (by first | k_extra "OM" | (first | lia | omega)) (by first | k_extra "OM" | (first | lia | omega)) (by rw [q1.2]) hM hO hmis (fun p hp => .tail _ (.tail _ (ht p hp))) hST hTZ hZR hbase Y' F4 N4
      fun rv2 rc2 tv2 mis2 i2 el2 cs2 ct2 j2 oe2 df2 h4 tk4 hO2 hmis2 F5 N5 => ?_
    try dsimp only
    have hO3 : OutV tups mis2 (cdap As Bs) rv2 := by
      unfold cdap
      rw [q1.2] at hO2
      exact hO2
    clear F N F3 N3 F4 N4
    k_steps
    try dsimp only
    refine hq R rv2 rc2 mis2 h4 tk4 _ hO3 hmis2 (fun p hp => Nat.lt_trans (hbase p hp) (Nat.lt_trans hST (Nat.lt_trans hTZ hZR))) F5 (news_sub N5 fun p hp => ?_)
    first | (refine sub_use ?_ hp; k_extra "SUB") | (simp only [List.mem_cons, List.mem_append, List.cons_append, List.nil_append] at hp ⊢; grind)
theorem cd_call {As Bs : List Wd} {va vb : Array Value} {ca cb : Nat} (hA : ListT tups As va) (hB : ListT tups Bs vb) (hzA : As.length ≤ 200) (hzB : Bs.length ≤ 200) (ht : ∀ p ∈ tups, p ∈ rest)
    (C : Cx 5 w p loose mean mg mb dp un cs outer A₀ base h₀ L m s.heap ((lA, listOf va ca) :: (lB, listOf vb cb) :: rest))
    (hret : ∀ (R : Nat) rv rc mis h' tk', OutV tups mis (cdap As Bs) rv → (∀ p ∈ mis, R < p.1) → (∀ p ∈ ((lA, listOf va ca) :: (lB, listOf vb cb) :: rest), p.1 < R) → Fr h₀ L h' m → News h₀ L h' ((R, listOf rv rc) :: (mis ++ ((lA, listOf va ca) :: (lB, listOf vb cb) :: rest))) → Q (.ref R) { s with heap := h', toks := tk' }) :
    wpAny (model prog w) (ktrTop dp un gd cn cs L a ccd cl outer) (call (.ref 920) [.ref lA, .ref lB]) Q E s := by
  obtain ⟨B, F, X, N, T0, hk0, hd0, hu⟩ := C
  walk_at "ENTER"
  rename Fr _ _ _ _ => F1
  rename Below _ _ _ _ => B1
  rename Frag.In _ _ => X1
  rename Top _ _ _ _ _ _ => T1
  rename News _ _ _ _ => N1
  have F2 : Fr _ _ _ (fun y => ([(Str.ofString "expected", Value.ref lB), (Str.ofString "actual", Value.ref lA)] : List (Str × Value)).lookup y) := F1
  clear F1
  have Y : Ty 4 w p loose mean mg mb dp un gd cn cs L a ccd cl outer base _ := ⟨hk0, hd0, hu, B1, X1, T1⟩
  refine wpAny_mono (E := fun _ _ => False) (cd_body hA hB hzA hzB ht Y F2 N1 fun R rv rc mis h' tk' m' hO hmis hlt F3 N3 => ?_) (fun f s₂ hh => hh) (fun _ _ h => h.elim)
  clear F2 N1 N
  k_steps
  exact hret R rv rc mis _ _ hO hmis hlt (by assumption) (by assumption)
end
end
section
set_option maxHeartbeats 4000000
set_option tactic.hygienic false
section
variable {prog : Program} {w : World} {A : Around} {E : Value → Shared → Prop} {s : Shared} {env : Env} {h₀ : Heap} {x : Str} {body : List Stmt} {Q : Flow → Shared → Prop} {m₀ : Str → Option Value} {news : List (Addr × Obj)}
theorem list_inv {l : Nat} {vs : Array Value} {c : Nat} (J : Nat → (Str → Option Value) → List (Addr × Obj) → Prop) (hh : A.handled = none) (F : Fr h₀ env.locals s.heap m₀) (N : News h₀ env.locals s.heap news) (hm : (l, listOf vs c) ∈ news) (h0 : J 0 m₀ news)
    (hJ : ∀ i m₁ news₁, J i m₁ news₁ → (l, listOf vs c) ∈ news₁)
    (turn : ∀ i v m₁ news₁ h tk (I : Nat) io, i < vs.size → vs[i]? = some v → J i m₁ news₁ → (∀ p ∈ news₁, p.1 ≠ I) → (∀ p ∈ news, p.1 < I) → Fr h₀ env.locals h (fun y => if y = x then some v else m₁ y) → News h₀ env.locals h ((I, io) :: news₁) →
      wpAny (model prog w) A (execs body env) (RPost h₀ env.locals [(I, io)] (J (i + 1)) { s with heap := h, toks := tk } Q) E { s with heap := h, toks := tk })
    (done : ∀ h tk m' news', Fr h₀ env.locals h m' → News h₀ env.locals h news' → J vs.size m' news' → Q .next { s with heap := h, toks := tk }) :
    wpAny (model prog w) A (pyIter (.ref l)) (fun it s₂ => LoopAtV prog w A h₀ env x body Q E it s₂) E s := by
  have hl : s.heap.IsList l vs := ⟨_, (N _ hm).1, rfl, c, rfl⟩
  have hlt : ∀ p ∈ news, p.1 < s.heap.objs.size := fun p hp => Heap.lt_size (N p hp).1
  have hne : (l : Addr) ≠ s.heap.objs.size := Nat.ne_of_lt (hlt _ hm)
  refine wpAny_pyIter_list hl ?_
  have W := Walks.list (prog := prog) (w := w) hh s.heap.objs.size l hne vs
  refine ⟨s.heap.objs.size, _, _, vs.size, _, _, m₀, news, fun i m₁ news₁ => J i m₁ news₁, rfl, W, ?_, ?_, ?_, ⟨⟨_, Heap.get?_push_size _ rfl, rfl, rfl⟩, hl.at fun o e => Heap.get?_push_of_some _ e⟩, F.push _, (fun p hp => ⟨Heap.get?_push_of_some _ (N p hp).1, (N p hp).2⟩), h0, ?_, ?_⟩
  · simp only [List.mem_cons, List.not_mem_nil, or_false, not_or]
    exact ⟨Nat.ne_of_lt F.ns.lt, fun e => (N _ hm).2.1 e.symm⟩
  · intro b hb
    rw [List.mem_singleton.mp hb]
    exact next_is_new F
  · intro p hp hI
    exact absurd (hlt p hp) ((List.mem_singleton.mp hI) ▸ Nat.lt_irrefl _)
  · rintro i v m₁ news₁ s₁ own ⟨hh', tk', rfl⟩ hin hv hj hoff hown hget hall hst F₁ N₁
    obtain ⟨⟨io, ho, hic, hid⟩, hl2⟩ := hst
    have hio := hall s.heap.objs.size (by simp) (next_is_new F) _ ho
    have N₂ := news_one hio N₁
    have hl9 := hJ i m₁ news₁ hj
    have hone : ∀ p ∈ own, p = (s.heap.objs.size, io) ∨ p = (l, listOf vs c) := by
      intro p hp
      have hp1 := hown p hp
      simp only [List.mem_cons, List.not_mem_nil, or_false] at hp1
      have hg := hget p hp
      rcases hp1 with e | e
      · left
        refine Prod.ext e ?_
        rw [e, ho] at hg
        exact (Option.some.inj hg).symm
      · right
        refine Prod.ext e ?_
        have q := (N₁ _ (List.mem_append_right _ hl9)).1
        rw [e] at hg
        exact Option.some.inj (hg.symm.trans q)
    refine wpAny_mono (turn i v m₁ news₁ hh' tk' s.heap.objs.size io hin hv hj (fun p hp => by simpa using hoff p hp) hlt F₁ N₂) (fun f s₂ p => ?_) fun _ _ e => e
    have fin : REnd h₀ env.locals [(s.heap.objs.size, io)] (J (i + 1)) { s with heap := hh', toks := tk' } s₂ → LoopStepU h₀ env.locals [s.heap.objs.size] own (J (i + 1)) { s with heap := hh', toks := tk' } .next s₂ := by
      rintro ⟨h', tk, m', news', e, F', N', hd, hj'⟩
      refine ⟨rfl, h', tk, m', news', e, F', fun p hp => ?_, fun p hp => ?_, hj'⟩
      · rcases List.mem_append.mp hp with hp | hp
        · rcases hone p hp with rfl | rfl
          · exact N' _ (.head _)
          · exact N' _ (.tail _ (hJ _ _ _ hj'))
        · exact N' _ (List.mem_append_right _ hp)
      · intro hI
        exact hd p hp _ (.head _) (List.mem_singleton.mp hI)
    cases f with
    | ret v => exact .ret p
    | brk => exact .brk p
    | next => exact .next (fin p)
    | cont => exact .cont (fin p)
  · exact fun h' tk m' news' F' N' _ hj => done h' tk m' news' F' N' hj
end
end
section
set_option tactic.hygienic false
section
variable {prog : Program} {w : World} {p : Program} {loose : List Str} {mean : ExcName → Option Value} {mg mb : Str → Option Value} {dp un : Nat} {gd : Option (List Code)} {cn : Str} {cs : Scope} {a : Addr} {ccd : Value} {cl : List (Str × Addr)} {outer : List Env} {A₀ : Around} {base h₀ : Heap} {L : Addr} {m : Str → Option Value} {news rest : List (Addr × Obj)} {s : Shared} {Q E : Value → Shared → Prop}
variable {g : Heap} {L' : Nat} {QF : Flow → Shared → Prop} {tups big : List (Addr × Obj)}
noncomputable def lrB : List Stmt := match st 35 with | .FunctionDef _ _ b .. => b | _ => []
noncomputable def lrScope : Scope := match st 35 with | .FunctionDef _ _ _ _ _ _ sc .. => sc | _ => default
noncomputable abbrev lrEnv (L' : Addr) : Env := envOf (Str.ofString "_law_rows") lrScope L' 927 (.ref 926)
noncomputable def lrLoop : List Stmt := match lrB with | _ :: .For _ _ b _ _ :: _ => b | _ => []
noncomputable def mlr (l D : Nat) (x y name mark word : Option Value) : Str → Option Value := fun z =>
  if z = Str.ofString "rows" then some (.ref D) else if z = Str.ofString "x" then x else if z = Str.ofString "y" then y else if z = Str.ofString "name" then name else if z = Str.ofString "mark" then mark else if z = Str.ofString "word" then word else
  if z = Str.ofString "script" then some (.ref l) else none
theorem mlr_x {l D : Nat} {x y name mark word : Option Value} {v : Value} (z : Str) : (if z = Str.ofString "x" then some v else mlr l D x y name mark word z) = mlr l D (some v) y name mark word z := by
  by_cases h : z = Str.ofString "x"
  · subst h; rfl
  · simp only [mlr, if_neg h]
theorem mlr_y {l D : Nat} {x y name mark word : Option Value} {v : Value} (z : Str) : (if z = Str.ofString "y" then some v else mlr l D x y name mark word z) = mlr l D x (some v) name mark word z := by
  by_cases h : z = Str.ofString "y"
  · subst h; rfl
  · simp only [mlr, if_neg h]
theorem mlr_name {l D : Nat} {x y name mark word : Option Value} {v : Value} (z : Str) : (if z = Str.ofString "name" then some v else mlr l D x y name mark word z) = mlr l D x y (some v) mark word z := by
  by_cases h : z = Str.ofString "name"
  · subst h; rfl
  · simp only [mlr, if_neg h]
theorem mlr_mark {l D : Nat} {x y name mark word : Option Value} {v : Value} (z : Str) : (if z = Str.ofString "mark" then some v else mlr l D x y name mark word z) = mlr l D x y name (some v) word z := by
  by_cases h : z = Str.ofString "mark"
  · subst h; rfl
  · simp only [mlr, if_neg h]
theorem mlr_word {l D : Nat} {x y name mark word : Option Value} {v : Value} (z : Str) : (if z = Str.ofString "word" then some v else mlr l D x y name mark word z) = mlr l D x y name mark (some v) z := by
  by_cases h : z = Str.ofString "word"
  · subst h; rfl
  · simp only [mlr, if_neg h]
noncomputable def names8 : List Str := [Str.ofString "a", Str.ofString "a.b", Str.ofString "ab", Str.ofString "a b", Str.ofString "a.b.c", Str.ofString "a.bc", Str.ofString "a b.c", Str.ofString "b"]
noncomputable def marks3 : List Str := [Str.ofString "", Str.ofString "'", Str.ofString "\""]
noncomputable def tails4 : List Str := [Str.ofString "", Str.ofString " # it's", Str.ofString "#\"", Str.ofString "\t"]
theorem menuK {A : Around} {l : Nat} {vs : Array Value} {c : Nat} {k : Nat} {ki : Int} {u : Tok} {ws : List Str} {nm : Str} {value slice : PySem.Expr} {Q : Value → Shared → Prop} {news : List (Addr × Obj)} (N : News h₀ L s.heap news) (hm : (l, listOf vs c) ∈ news) (hst : Strs ws vs) (hk : ki = (k : Int)) (hw : ws[k]? = some nm) (hz : ws.length ≤ 1000)
    (h : ∀ t, Q (.str nm t) s)
    (hs : subscripted slice false (.ref l) (.int ki u) = operate [.ref l, .int ki u] (getItem (.ref l) (.int ki u)) := by with_unfolding_all rfl) (hg : ∀ r, letTemporaryGo value (.ref l) r = pure () := by intro _; with_unfolding_all rfl) :
    wpAny (model prog w) A (subscriptTail value slice (.ref l) (.int ki u)) Q E s := by
  have hsz := hst.size
  have hlt : k < ws.length := by
    rcases Nat.lt_or_ge k ws.length with q | q
    · exact q
    · rw [List.getElem?_eq_none q] at hw; cases hw
  have hv : vs[k]? = some vs[k] := Array.getElem?_eq_getElem (by first | k_extra "OM" | (first | lia | omega))
  obtain ⟨y, t, e, hy⟩ := StrsAre.item hst k _ (by rw [Array.getElem?_toList]; exact hv)
  rw [hw] at hy
  obtain rfl := Option.some.inj hy
  exact item1K N hm (by first | k_extra "OM" | (first | lia | omega)) hk hv (by rw [e]; exact h t) hs hg
noncomputable def rowOf (nm mk tl : Str) : Str := (if mk = Str.ofString "" then PySem.Txt.replace nm (Str.ofString " ") (Str.ofString "\\ ") else mk ++ nm ++ mk) ++ tl ++ Str.ofString "\n"
theorem notinK {A : Around} {D : Nat} {oD : Obj} {kvs : List (Str × Value)} {nm : Str} {t : Tok} {b : Bool} {Q : Value → Shared → Prop} {news : List (Addr × Obj)} (N : News h₀ L s.heap news) (hm : (D, oD) ∈ news) (hd : oD.IsDictOf (strKind prog w) kvs) (lo : (D == sysModules) = false) (hb : (valueAt kvs nm).isSome = b)
    (h : Q (.bool (!b)) { s with toks := s.toks + 1 }) : wpAny (model prog w) A (compareOp .NotIn (.str nm t) (.ref D)) Q E s :=
  wpAny_notIn_of (isStr nm t) lo (kda_dict N hm hd).mapOf (by rw [hb]; exact h)
theorem wd_KL2_38 : True := by
  k_with "compareOp NotIn str ref" => (k_here; k_dflt (refine notinK (by k_asm) (by k_mem) (by assumption) (by assumption) (by assumption) ?_))
  k_with "setItem ref str" => (k_here; k_dflt (refine' kda_set (knd := PySem.strKind _ _) ?F ?N ?U ?d (isStr _ _) ?z ?_; (case F => k_asm); (case N => k_asm); (case U => k_updF); (case d => k_asm); (case z => rw [sizeLine_eq]; (first | lia | omega))); intro _ _ _ zN' _; (try dsimp only at zN'))
  trivial
theorem names8_short : ∀ nm ∈ names8, nm.length ≤ 10 := by decide +kernel
theorem marks3_short : ∀ nm ∈ marks3, nm.length ≤ 10 := by decide +kernel
theorem repl_short : ∀ nm ∈ names8, (PySem.Txt.replace nm (Str.ofString " ") (Str.ofString "\\ ")).length ≤ 30 := by decide +kernel
theorem tails4_short : ∀ nm ∈ tails4, nm.length ≤ 10 := by decide +kernel
theorem strs_cons {x : Str} {t : Tok} {vs : List Value} {ys : List Str} (h : StrsAre vs ys) : StrsAre (.str x t :: vs) (x :: ys) := .cons x t h
theorem wd_KL2_e : True := by
  k_with "subscriptTail" => (k_here; k_dflt (refine kba_turn (value' := PySem.Expr.Name (PySem.Str.ofString "_") ⟨0, 0, 0, 0⟩) (fun _ => rfl) ?_); k_dflt (first | (refine' menuK (ws := names8) ?zN ?zm ?zst ?zk ?zlt ?zz ?_; (case zN => k_asm); (case zm => k_mem); (case zst => exact strs_cons (strs_cons (strs_cons (strs_cons (strs_cons (strs_cons (strs_cons (strs_cons .nil)))))))); (case zk => assumption); (case zlt => assumption); (case zz => decide); intro tn9) | (refine' menuK (ws := marks3) ?zN ?zm ?zst ?zk ?zlt ?zz ?_; (case zN => k_asm); (case zm => k_mem); (case zst => exact strs_cons (strs_cons (strs_cons .nil))); (case zk => assumption); (case zlt => assumption); (case zz => decide); intro tn9) | (refine' menuK (ws := tails4) ?zN ?zm ?zst ?zk ?zlt ?zz ?_; (case zN => k_asm); (case zm => k_mem); (case zst => exact strs_cons (strs_cons (strs_cons (strs_cons .nil)))); (case zk => assumption); (case zlt => assumption); (case zz => decide); intro tn9)))
  trivial
theorem lr_turn {l D I : Nat} {io oD : Obj} {vs : Array Value} {c : Nat} {x : Int} {tx : Tok} {y9 n9 m9 w9 : Option Value} {kvs : List (Str × Value)} {y : Nat} {nm mk tl : Str} (hnm : names8[y % 8]? = some nm) (hmk : marks3[y / 8 % 3]? = some mk) (htl : tails4[y / 24]? = some tl) (hDm : (D == sysModules) = false) (hkz : kvs.length ≤ 100) (hbig : ∀ p ∈ big, p.1 ≠ D) (hy : x.fmod 96 = (y : Int)) (hy9 : y < 96) (hd9 : oD.IsDictOf (strKind prog w) kvs) (h1 : l < D) (h2 : D < I)
    (Y : Ty 4 w p loose mean mg mb dp un gd cn cs L a ccd cl outer base g)
    (F : Fr g L' s.heap (mlr l D (some (.int x tx)) y9 n9 m9 w9))
    (N : News g L' s.heap ((I, io) :: (D, oD) :: (l, listOf vs c) :: big))
    (hq : ∀ kvs' oD' h' tk' y' n' m' w', oD'.IsDictOf (strKind prog w) kvs' → ((valueAt kvs nm).isSome = true ∧ kvs' = kvs ∨ (valueAt kvs nm).isSome = false ∧ ∃ t, kvs' = stored kvs nm (.str (rowOf nm mk tl) t)) →
      Fr g L' h' (mlr l D (some (.int x tx)) y' n' m' w') → News g L' h' ((I, io) :: (D, oD') :: (l, listOf vs c) :: big) → QF .next { s with heap := h', toks := tk' }) :
    wpAny (model prog w) ((ktrTop dp un gd cn cs L a ccd cl outer).deeper (lrEnv L')) (execs lrLoop (lrEnv L')) QF (fun _ _ => False) s := by
  obtain ⟨hk, hd, hun, B, X, T0⟩ := Y
  have hk8 : (x.fmod 96).fmod 8 = ((y % 8 : Nat) : Int) := by rw [hy, Int.fmod_eq_emod_of_nonneg _ (by decide)]; (first | lia | omega)
  have hk3 : ((x.fmod 96).fdiv 8).fmod 3 = ((y / 8 % 3 : Nat) : Int) := by rw [hy, Int.fmod_eq_emod_of_nonneg _ (by decide), Int.fdiv_eq_ediv_of_nonneg _ (by decide)]; (first | lia | omega)
  have hk24 : (x.fmod 96).fdiv 24 = ((y / 24 : Nat) : Int) := by rw [hy, Int.fdiv_eq_ediv_of_nonneg _ (by decide)]; (first | lia | omega)
  have hl8 : y % 8 < names8.length := Nat.mod_lt _ (by decide)
  have hl4 : y / 24 < tails4.length := by show y / 24 < 4; (first | lia | omega)
  have hl3 : y / 8 % 3 < marks3.length := Nat.mod_lt _ (by decide)
  have ln := names8_short nm (List.mem_of_getElem? hnm)
  have lm := marks3_short mk (List.mem_of_getElem? hmk)
  have lt := tails4_short tl (List.mem_of_getElem? htl)
  have lr := repl_short nm (List.mem_of_getElem? hnm)
  k_steps
  cases hb9 : (valueAt kvs nm).isSome with
  | true =>
    k_steps
    rename Fr _ _ _ _ => F9
    rename News _ _ _ _ => N9
    simp only [mlr_y, mlr_name, mlr_mark, mlr_word] at F9
    refine hq kvs oD _ _ _ _ _ _ hd9 (.inl ⟨hb9, rfl⟩) F9 (news_sub N9 fun p hp => ?_)
    first | (refine sub_use ?_ hp; k_extra "SUB") | (simp only [List.mem_cons, List.mem_append, List.cons_append, List.nil_append] at hp ⊢; grind)
  | false =>
    k_steps
    · rename (mk == Str.ofString "") = true => hm9
      rename Fr _ _ _ _ => F9
      rename News _ _ _ _ => N9
      rename Obj.IsDictOf _ _ _ => hd8
      simp only [mlr_y, mlr_name, mlr_mark, mlr_word] at F9
      have er : rowOf nm mk tl = PySem.Txt.replace nm (Str.ofString " ") (Str.ofString "\\ ") ++ tl ++ Str.ofString "\n" := by unfold rowOf; rw [if_pos (beq_iff_eq.mp hm9)]
      rw [← er] at hd8
      refine hq _ _ _ _ _ _ _ _ hd8 (.inr ⟨hb9, _, rfl⟩) F9 (news_sub N9 fun p hp => ?_)
      first | (refine sub_use ?_ hp; k_extra "SUB") | (simp only [List.mem_cons, List.mem_append, List.cons_append, List.nil_append] at hp ⊢; grind)
    · rename (mk == Str.ofString "") = false => hm9
      rename Fr _ _ _ _ => F9
      rename News _ _ _ _ => N9
      rename Obj.IsDictOf _ _ _ => hd8
      simp only [mlr_y, mlr_name, mlr_mark, mlr_word] at F9
      have er : rowOf nm mk tl = mk ++ nm ++ mk ++ tl ++ Str.ofString "\n" := by unfold rowOf; rw [if_neg (beq_eq_false_iff_ne.mp hm9)]
      rw [← er] at hd8
      refine hq _ _ _ _ _ _ _ _ hd8 (.inr ⟨hb9, _, rfl⟩) F9 (news_sub N9 fun p hp => ?_)
      first | (refine sub_use ?_ hp; k_extra "SUB") | (simp only [List.mem_cons, List.mem_append, List.cons_append, List.nil_append] at hp ⊢; grind)
end
end
section
set_option tactic.hygienic false
section
variable {prog : Program} {w : World} {p : Program} {loose : List Str} {mean : ExcName → Option Value} {mg mb : Str → Option Value} {dp un : Nat} {gd : Option (List Code)} {cn : Str} {cs : Scope} {a : Addr} {ccd : Value} {cl : List (Str × Addr)} {outer : List Env} {A₀ : Around} {base h₀ : Heap} {L : Addr} {m : Str → Option Value} {news rest : List (Addr × Obj)} {s : Shared} {Q E : Value → Shared → Prop}
variable {g : Heap} {L' : Nat} {QF : Flow → Shared → Prop} {tups big : List (Addr × Obj)}
theorem wd_KL3_39 : True := by
  k_with "pyIter ref" => ((with_reducible show wpAny _ _ (pyIter (Value.ref _)) (fun it s₂ => LoopAtV _ _ _ _ _ _ _ _ _ it s₂) _ _); refine mark ?_)
  k_with "exec For Name Name cons nil" => (k_here; (rename Fr _ _ _ _ => zlF'); (with_unfolding_all refine' For_invVF zlF' ?k1 ?k2 ?_; (case k1 => exact rfl); (case k2 => exact rfl); k_whole))
  trivial
noncomputable def idxOk (y : Nat) : Prop := y < 96
noncomputable def nmAt (y : Nat) : Str := names8.getD (y % 8) (Str.ofString "")
noncomputable def rowAt (y : Nat) : Str := rowOf (nmAt y) (marks3.getD (y / 8 % 3) (Str.ofString "")) (tails4.getD (y / 24) (Str.ofString ""))
noncomputable def bookAdd (bk : List (Str × Str)) (y : Nat) : List (Str × Str) := if bk.any (fun e => e.1 = nmAt y) then bk else bk ++ [(nmAt y, rowAt y)]
noncomputable def bookOf (ys : List Nat) : List (Str × Str) := ys.foldl bookAdd []
/-- a dict of texts under texts -/
noncomputable def BookV : List (Str × Str) → List (Str × Value) → Prop
  | [], [] => True
  | e :: bk, f :: kvs => (e.1 = f.1 ∧ ∃ t, f.2 = .str e.2 t) ∧ BookV bk kvs
  | _, _ => False
theorem BookV.len : ∀ {bk : List (Str × Str)} {kvs : List (Str × Value)}, BookV bk kvs → bk.length = kvs.length
  | [], [], _ => rfl
  | _ :: _, _ :: _, h => by simp [BookV.len h.2]
  | [], _ :: _, h => h.elim
  | _ :: _, [], h => h.elim
theorem BookV.any : ∀ {bk : List (Str × Str)} {kvs : List (Str × Value)}, BookV bk kvs → ∀ nm, (valueAt kvs nm).isSome = bk.any (fun e => e.1 = nm)
  | [], [], _, nm => rfl
  | e :: bk, f :: kvs, h, nm => by
    have ih := BookV.any h.2 nm
    have e1 : f.1 = e.1 := h.1.1.symm
    unfold valueAt at ih ⊢
    rw [List.find?_cons, List.any_cons, e1]
    by_cases hc : e.1 = nm
    · simp [hc]
    · simp only [hc, decide_false, Bool.false_or]
      exact ih
  | [], _ :: _, h, _ => h.elim
  | _ :: _, [], h, _ => h.elim
theorem BookV.snoc : ∀ {bk : List (Str × Str)} {kvs : List (Str × Value)}, BookV bk kvs → ∀ nm row t, BookV (bk ++ [(nm, row)]) (kvs ++ [(nm, .str row t)])
  | [], [], _, nm, row, t => ⟨⟨rfl, t, rfl⟩, trivial⟩
  | e :: bk, f :: kvs, h, nm, row, t => ⟨h.1, BookV.snoc h.2 nm row t⟩
  | [], _ :: _, h, _, _, _ => h.elim
  | _ :: _, [], h, _, _, _ => h.elim
theorem stored_new {kvs : List (Str × Value)} {nm : Str} {v : Value} (h : (valueAt kvs nm).isSome = false) : stored kvs nm v = kvs ++ [(nm, v)] := by
  unfold stored
  rw [if_neg]
  intro hc
  unfold valueAt at h
  rw [Option.isSome_map] at h
  have := List.find?_isSome (p := fun kv : Str × Value => decide (kv.1 = nm)) (xs := kvs)
  rw [h] at this
  obtain ⟨x, hx, hp⟩ := List.any_eq_true.mp hc
  exact absurd (this.mpr ⟨x, hx, hp⟩) (by decide)
theorem bookAdd_len (bk : List (Str × Str)) (y : Nat) : (bookAdd bk y).length ≤ bk.length + 1 := by
  unfold bookAdd; split <;> simp
theorem bookOf_len (ys : List Nat) : (bookOf ys).length ≤ ys.length := by
  have : ∀ (ys : List Nat) bk, (ys.foldl bookAdd bk).length ≤ bk.length + ys.length := by
    intro ys
    induction ys with
    | nil => intro bk; simp
    | cons y ys ih =>
      intro bk
      have q := ih (bookAdd bk y)
      have q2 := bookAdd_len bk y
      simp only [List.foldl_cons, List.length_cons]
      first | k_extra "OM" | (first | lia | omega)
  simpa [bookOf] using this ys []
theorem mlr_start {l D : Nat} (y : Str) : (if y = Str.ofString "rows" then some (Value.ref D) else ([(Str.ofString "script", Value.ref l)] : List (Str × Value)).lookup y) = mlr l D none none none none none y := by
  by_cases h1 : y = Str.ofString "rows"
  · subst h1; rfl
  by_cases h2 : y = Str.ofString "script"
  · subst h2; rfl
  have e2 : (y == Str.ofString "script") = false := beq_eq_false_iff_ne.mpr h2
  simp only [mlr, if_neg h1, if_neg h2, List.lookup, e2]
  simp
theorem lr_body {l : Nat} {vs : Array Value} {c : Nat} {ns : List Int} {ys : List Nat} (hi : IntsAre vs.toList ns) (hy : ns.map (fun x => x.fmod 96) = ys.map (fun y => ((y : Nat) : Int))) (hys : ∀ y ∈ ys, y < 96) (hz : ns.length ≤ 50)
    (hr : ∀ p ∈ rest, p.1 < l)
    (Y : Ty 4 w p loose mean mg mb dp un gd cn cs L a ccd cl outer base g)
    (F : Fr g L' s.heap (fun y => ([(Str.ofString "script", Value.ref l)] : List (Str × Value)).lookup y))
    (N : News g L' s.heap ((l, listOf vs c) :: rest))
    (hq : ∀ (D : Nat) oD kvs h' tk' m', oD.IsDictOf (strKind prog w) kvs → BookV (bookOf ys) kvs → (D == sysModules) = false → l < D → Fr g L' h' m' → News g L' h' ((D, oD) :: (l, listOf vs c) :: rest) → QF (.ret (.ref D)) { s with heap := h', toks := tk' }) :
    wpAny (model prog w) ((ktrTop dp un gd cn cs L a ccd cl outer).deeper (lrEnv L')) (execs lrB (lrEnv L')) QF (fun _ _ => False) s := by
  have Y' := Y
  have hlen : ns.length = ys.length := by have := congrArg List.length hy; simpa using this
  have hvs : vs.size = ns.length := by rw [← Array.length_toList]; exact hi.length
  obtain ⟨hk, hd, hun, B, X, T0⟩ := Y
  k_steps
  unfold Marked
  rename Fr _ _ _ _ => F2
  rename News _ _ _ _ => N2
  rename Obj.IsDictOf (PySem.strKind prog w) _ _ => hd2
  rename (_ == sysModules) = false => hDm
  rename (l < _ ∧ _) => hlD
  rename Heap => h9
  obtain ⟨D, oD0, F3, N3, hd3, hDm3, hlD3⟩ : ∃ (D : Nat) (oD0 : Obj), Fr g L' h9 (mlr l D none none none none none) ∧ News g L' h9 ((D, oD0) :: (l, listOf vs c) :: rest) ∧ oD0.IsDictOf (strKind prog w) [] ∧ (D == sysModules) = false ∧ (l < D ∧ AllLt D rest) := ⟨_, _, Fr.cast F2 (fun y => mlr_start y), N2, hd2, hDm, hlD⟩
  refine list_inv (h₀ := g) (l := l) (fun k m₁ news₁ => ∃ kvs oD x9 y9 n9 m9 w9, oD.IsDictOf (strKind prog w) kvs ∧ BookV (bookOf (ys.take k)) kvs ∧ m₁ = mlr l D x9 y9 n9 m9 w9 ∧ news₁ = ((D, oD) :: (l, listOf vs c) :: rest)) rfl F3 N3 (by k_mem) ?_ ?_ ?_ ?_
  · exact ⟨[], _, _, _, _, _, _, hd3, trivial, rfl, rfl⟩
  · rintro k m₁ news₁ ⟨kvs, oD, x9, y9, n9, m9, w9, h1, h2, rfl, rfl⟩
    exact .tail _ (.head _)
  · rintro k v m₁ news₁ h tk I io hkn hv ⟨kvs, oD, x9, y9, n9, m9, w9, h1, h2, rfl, rfl⟩ hni hlI F4 N4
    have hkn' : k < ns.length := by (first | lia | omega)
    obtain ⟨t9, ht9⟩ := hi.get k ns[k] (by first | (have hzz := hkn'; k_extra "MEM") | simp [hkn'])
    have hv' : v = .int ns[k] t9 := by
      rw [Array.getElem?_toList, hv] at ht9
      exact Option.some.inj ht9
    subst hv'
    have hky : k < ys.length := by (first | lia | omega)
    have hmod : ns[k].fmod 96 = ((ys[k] : Nat) : Int) := by
      have q := congrArg (fun l => l[k]?) hy
      simp [hkn', hky] at q
      exact q
    have hy96 := hys ys[k] (List.getElem_mem hky)
    have F5 := Fr.cast F4 mlr_x
    have hnm : names8[ys[k] % 8]? = some (nmAt ys[k]) := by
      have : ys[k] % 8 < names8.length := Nat.mod_lt _ (by decide)
      unfold nmAt
      rw [List.getD_eq_getElem?_getD, List.getElem?_eq_getElem this]
      rfl
    have hmk : marks3[ys[k] / 8 % 3]? = some (marks3.getD (ys[k] / 8 % 3) (Str.ofString "")) := by
      have : ys[k] / 8 % 3 < marks3.length := Nat.mod_lt _ (by decide)
      rw [List.getD_eq_getElem?_getD, List.getElem?_eq_getElem this]
      rfl
    have htl : tails4[ys[k] / 24]? = some (tails4.getD (ys[k] / 24) (Str.ofString "")) := by
      have : ys[k] / 24 < tails4.length := by show ys[k] / 24 < 4; (first | lia | omega)
      rw [List.getD_eq_getElem?_getD, List.getElem?_eq_getElem this]
      rfl
    have hkz : kvs.length ≤ 100 := by
      have q1 := h2.len
      have q2 := bookOf_len (ys.take k)
      rw [List.length_take] at q2
      first | k_extra "OM" | (first | lia | omega)
    refine lr_turn hnm hmk htl hDm3 hkz (fun p hp => Nat.ne_of_lt (Nat.lt_trans (hr p hp) hlD3.1)) hmod hy96 h1 hlD3.1 (hlI _ (.head _)) Y' F5 N4 fun kvs' oD' h' tk' y' n' m' w' hd' hor F6 N6 => ?_
    refine ⟨_, _, _, _, rfl, F6, N6, ?_, kvs', oD', _, _, _, _, _, hd', ?_, rfl, rfl⟩
    · exact off_set hni
    · have hb : bookOf (ys.take (k + 1)) = bookAdd (bookOf (ys.take k)) ys[k] := by
        unfold bookOf
        rw [List.take_add_one, List.getElem?_eq_getElem hky, List.foldl_append]
        rfl
      rw [hb]
      unfold bookAdd
      rw [← h2.any (nmAt ys[k])]
      rcases hor with ⟨q1, rfl⟩ | ⟨q1, t, rfl⟩
      · rw [if_pos q1]; exact h2
      · rw [if_neg (by rw [q1]; decide), stored_new q1]
        exact h2.snoc _ _ _
  · rintro h tk m' news' F4 N4 ⟨kvs, oD, x9, y9, n9, m9, w9, h1, h2, rfl, rfl⟩
    have e9 : ys.take vs.size = ys := by rw [hvs, hlen]; exact List.take_length
    rw [e9] at h2
    clear F2 N2 F3 N3
    k_steps
    try dsimp only
    exact hq _ _ _ _ _ _ h1 h2 hDm3 hlD3.1 F4 N4
theorem lr_call {l : Nat} {vs : Array Value} {c : Nat} {ns : List Int} {ys : List Nat} (hi : IntsAre vs.toList ns) (hy : ns.map (fun x => x.fmod 96) = ys.map (fun y => ((y : Nat) : Int))) (hys : ∀ y ∈ ys, y < 96) (hz : ns.length ≤ 50)
    (hr : ∀ p ∈ rest, p.1 < l)
    (C : Cx 5 w p loose mean mg mb dp un cs outer A₀ base h₀ L m s.heap ((l, listOf vs c) :: rest))
    (hret : ∀ (D : Nat) oD kvs h' tk', oD.IsDictOf (strKind prog w) kvs → BookV (bookOf ys) kvs → (D == sysModules) = false → l < D → Fr h₀ L h' m → News h₀ L h' ((D, oD) :: (l, listOf vs c) :: rest) → Q (.ref D) { s with heap := h', toks := tk' }) :
    wpAny (model prog w) (ktrTop dp un gd cn cs L a ccd cl outer) (call (.ref 927) [.ref l]) Q E s := by
  obtain ⟨B, F, X, N, T0, hk0, hd0, hu⟩ := C
  walk_at "ENTER"
  rename Fr _ _ _ _ => F1
  rename Below _ _ _ _ => B1
  rename Frag.In _ _ => X1
  rename Top _ _ _ _ _ _ => T1
  rename News _ _ _ _ => N1
  have F2 : Fr _ _ _ (fun y => ([(Str.ofString "script", Value.ref l)] : List (Str × Value)).lookup y) := F1
  clear F1
  have Y : Ty 4 w p loose mean mg mb dp un gd cn cs L a ccd cl outer base _ := ⟨hk0, hd0, hu, B1, X1, T1⟩
  refine wpAny_mono (E := fun _ _ => False) (lr_body hi hy hys hz hr Y F2 N1 fun D oD kvs h' tk' m' h1 h2 h3 h4 F3 N3 => ?_) (fun f s₂ hh => hh) (fun _ _ h => h.elim)
  clear F2 N1 N
  k_steps
  exact hret D oD kvs _ _ h1 h2 h3 h4 (by assumption) (by assumption)
end
end
section
set_option maxHeartbeats 4000000
set_option tactic.hygienic false
section
variable {prog : Program} {w : World} {A₀ A : Around} {s : Shared} {base h₀ g₀ : Heap} {outer : List Env} {L a : Addr} {m : Str → Option Value} {cn : Str} {cs : Scope} {ccd : Value} {news : List (Addr × Obj)} {KF : Frag} {p : Program} {loose : List Str} {mean : ExcName → Option Value} {mg mb : Str → Option Value}
    {R : Result → Shared → Prop} {name qual : Str} {params : Arguments} {body : List Stmt} {scope : Scope} {dV kV doc pm cdv ct oc : Value} {an od : Option Addr} {osl : Array (Option Value)} {f : Addr} {args : Args} {binds : List (Str × Value)}
/-- code_defS0 for a function whose own cells are asked for by its comprehensions -/
theorem code_defSC0 (B : Below A₀ base [] h₀) (F : Fr h₀ L s.heap m) (X₀ : KF.In h₀) (N : News h₀ L s.heap news) (T : Top p loose mean mg mb h₀) (hA : A.frames = some [envOf cn cs L a ccd])
    (ho : KF.lookup f = some ⟨oc, od, .func (fnOf name qual params body scope dV kV doc pm an cdv ct), osl⟩) (hcd : codeIn KF cdv qual = true) (hroom : A.depth < recursionLimit)
    (hbind : BindsTo s (fnOf name qual params body scope dV kV doc pm an cdv ct) args binds) (hkind : (binds.all fun y => scope.names.lookup y.1 == some .local || scope.names.lookup y.1 == some .cell) = true)
    (hnd : ((cellsFrom 0 scope.names []).map (·.1)).Nodup)
    (h : ∀ g L' h₁ tk cells, Fr h₀ L g m → Fr g L' h₁ (bindL (envOfC qual scope L' f cdv).kindOf binds fun _ => none) → News g L' h₁ (cells ++ news) →
      CellsAre (bindC (envOfC qual scope L' f cdv).kindOf binds fun _ => none) (cellsFrom (L' + 1) scope.names []) cells → Below A base [envOf cn cs L a ccd] g → KF.In g → Top p loose mean mg mb g → KtsDicts ([envOf cn cs L a ccd].filterMap (·.frame)) g → (∀ p ∈ news, p.1 < L') →
      wpAny (model prog w) (A.deeper (envOfC qual scope L' f cdv)) (execs body (envOfC qual scope L' f cdv))
        (fun fl s' => LeaveS0 ([envOf cn cs L a ccd].filterMap (·.frame)) h₀ L m g R (match fl with | .ret v => v | _ => .none) s')
        (fun e s' => wpAny (model prog w) (A.deeper (envOfC qual scope L' f cdv)) (leaving (envOfC qual scope L' f cdv) e) (fun _ s'' => R (.error e) s'') (fun e' s'' => R (.error e') s'') s')
        { s with heap := h₁, toks := tk })
    (hck : cs.kind = .function) (hco : scope.isCoroutine = false) (hgen : scope.isGenerator = false) (hk : scope.kind = .function) : codeAny (model prog w) A (.call (.ref f) args) R s := by
  have X := X₀.keeps F.keep
  obtain ⟨oL, es, ep, hLg, hLd, hN, hNs, st, B₂⟩ := kts_enter B F N hA hck
  refine codeAny_call_function hroom (X _ _ ho) rfl hco hgen rfl (codeRec_of X hcd) (hbind _ _ _ _ ?_)
  refine wpAny_newFunctionEnv_cells hk (kindsX hkind _) fun env' he s' x => ?_
  subst he
  refine ⟨(T.nolimit.keeps F.keep).keeps x.toInCall.keep, codeAny_func ?_⟩
  obtain ⟨h₁, tk, rfl, _⟩ := x.done
  have hk₁ := x.toInCall.keep
  obtain ⟨cells, NC, Y⟩ := Cl.news (h₀ := s.heap) (Nat.le_refl _) fun n c hm => ⟨x.cell n c (lookup_of_mem_nodup (cellsFrom_names scope.names 0 (s.heap.objs.size + 1) [] [] rfl ▸ hnd) hm), x.above n c hm⟩
  refine wpAny_mono (h _ s.heap.objs.size h₁ tk cells ⟨hN _ hLg, st, F.above⟩ ⟨x.toInCall.ns, fun b o e => hk₁ b o (of_hideAll _ e), Nat.le_of_eq (hideAll_size _ _)⟩ (fun p hp => ?_) Y B₂ (X₀.keeps st) (T.keeps st) (fun b hb => by
      rcases kts_mem hb with rfl | z
      · exact ⟨oL, es, ep, hLg, hLd⟩
      · simp at z) (fun p hp => Heap.lt_size (N p hp).1)) (fun fl s' hl => ?_) fun _ _ y => y
  · rcases List.mem_append.mp hp with hp | hp
    · refine ⟨(NC p hp).1, (NC p hp).2.1, ?_⟩
      cases q : (hideAll s.heap (news.map (·.1))).get? p.1 with
      | none => rfl
      | some o => have := of_hideAll _ q; rw [(NC p hp).2.2] at this; cases this
    · exact ⟨hk₁ _ _ (N p hp).1, Nat.ne_of_lt (Heap.lt_size (N p hp).1), hideAll_none _ (List.mem_map_of_mem hp)⟩
  · obtain ⟨g', L', m', news', T', F', N', k⟩ := hl
    have nL₀ : h₀.get? L = none := kts_self F
    obtain ⟨sl, hs⟩ := T'.up hLg
    refine k ⟨hNs sl _ (F'.keep _ _ hs), fun b o e => F'.keep b o (T'.other b o (st b o e) (fun q => by
      rcases kts_mem q with z | z
      · rw [z, nL₀] at e
        cases e
      · simp at z)), F.above⟩ fun p hp => ⟨(N' p hp).1, fun q => ?_, ?_⟩
    · have := (N' p hp).2.2; rw [q, hs] at this; cases this
    · cases q : h₀.get? p.1 with
      | none => rfl
      | some o =>
        obtain ⟨sl', hs'⟩ := T'.up (st _ _ q)
        have := (N' p hp).2.2
        rw [hs'] at this
        cases this
end
end
section
open PySem PySem.W PySem.Calls PyProof.Rows PyProof.Rows.LCg
set_option maxHeartbeats 4000000
set_option tactic.hygienic false
noncomputable def CEnd (h₀ : Heap) (L : Addr) (m : Str → Option Value) (own : List (Addr × Obj)) (J : Value → List (Addr × Obj) → Prop) (s₁ : Shared) (y : Value) (s₂ : Shared) : Prop :=
  ∃ h' tk d nw, s₂ = { s₁ with heap := h', toks := tk, drawn := d } ∧ Fr h₀ L h' m ∧ News h₀ L h' (own ++ nw) ∧ (∀ p ∈ nw, ∀ q ∈ own, p.1 ≠ q.1) ∧ J y nw
theorem cend_gen {M : Model} {A : Around} {T : Sem Bool} {U : Sem Value} {E : Value → Shared → Prop} {s s₁ : Shared} {h₀ : Heap} {L : Addr} {m : Str → Option Value} {own : List (Addr × Obj)} {J1 J2 : Value → List (Addr × Obj) → Prop}
    (H : ∀ (Q1 : Value → Shared → Prop) (Q2 : Shared → Prop), (∀ y h' tk d nw, Fr h₀ L h' m → News h₀ L h' (own ++ nw) → (∀ p ∈ nw, ∀ q ∈ own, p.1 ≠ q.1) → J1 y nw → Q1 y { s₁ with heap := h', toks := tk, drawn := d }) →
      (∀ h' tk d nw, Fr h₀ L h' m → News h₀ L h' (own ++ nw) → (∀ p ∈ nw, ∀ q ∈ own, p.1 ≠ q.1) → J2 .none nw → Q2 { s₁ with heap := h', toks := tk, drawn := d }) → wpAny M A T (fun ok s' => if ok = true then wpAny M A U Q1 E s' else Q2 s') E s) :
    wpAny M A T (fun ok s' => if ok = true then wpAny M A U (CEnd h₀ L m own J1 s₁) E s' else CEnd h₀ L m own J2 s₁ .none s') E s :=
  H _ _ (fun _ _ _ _ _ a b c d => ⟨_, _, _, _, rfl, a, b, c, d⟩) (fun _ _ _ _ a b c d => ⟨_, _, _, _, rfl, a, b, c, d⟩)
noncomputable def CEnd0 (h₀ : Heap) (L : Addr) (m : Str → Option Value) (own : List (Addr × Obj)) (J : Value → List (Addr × Obj) → Prop) (s₁ : Shared) (y : Value) (s₂ : Shared) : Prop :=
  ∃ h' tk nw, s₂ = { s₁ with heap := h', toks := tk } ∧ Fr h₀ L h' m ∧ News h₀ L h' (own ++ nw) ∧ (∀ p ∈ nw, ∀ q ∈ own, p.1 ≠ q.1) ∧ J y nw
theorem cend0_gen {M : Model} {A : Around} {T : Sem Value} {E : Value → Shared → Prop} {s s₁ : Shared} {h₀ : Heap} {L : Addr} {m : Str → Option Value} {own : List (Addr × Obj)} {J : Value → List (Addr × Obj) → Prop}
    (H : ∀ (Q1 : Value → Shared → Prop), (∀ y h' tk nw, Fr h₀ L h' m → News h₀ L h' (own ++ nw) → (∀ p ∈ nw, ∀ q ∈ own, p.1 ≠ q.1) → J y nw → Q1 y { s₁ with heap := h', toks := tk }) → wpAny M A T Q1 E s) : wpAny M A T (CEnd0 h₀ L m own J s₁) E s :=
  H _ (fun _ _ _ _ a b c d => ⟨_, _, _, rfl, a, b, c, d⟩)
section
variable {prog : Program} {w : World} {A : Around} {E : Value → Shared → Prop} {s s₂ : Shared} {env : Env} {h₀ : Heap} {L : Addr} {x : Str} {m : Str → Option Value} {news : List (Addr × Obj)} {Q : Value → Shared → Prop} {elt ct iter : PySem.Expr} {px pos : Pos} {scope : Scope} {cl : List (Str × Addr)}
noncomputable def CompAt (prog : Program) (w : World) (A : Around) (E : Value → Shared → Prop) (env : Env) (e : PySem.Expr) (scope : Scope) (cl : List (Str × Addr)) (Q : Value → Shared → Prop) (it : Value) (s₂ : Shared) : Prop :=
  wpAny (model prog w) A (newList []) (fun acc s₃ => wpAny (model prog w) A (newFunctionEnv scope env.globals cl [] env.qual none .none (some env)) (fun cenv s₄ =>
    codeAny (model prog w) A (.compStart e 0 it acc { cenv with scope := relabel scope env }) (compPost (model prog w) A E none Q acc cenv.locals) s₄) E s₃) E s₂
theorem comp_in {e : PySem.Expr} {g : Comprehension} {gs : List Comprehension} (hcl : clausesOf e = g :: gs) (hclos : closureFor scope env = pure cl) (hkind : scope.kind = .function)
    (hnames : ∀ y ∈ scope.names, y.2 = .local → scope.names.lookup y.1 = some .local) (hev : eval e env = comprehension e scope env pos (newList []) false (eval g.iter env) none)
    (h : wpAny (model prog w) A (eval g.iter env) (fun xv s₁ => wpAny (model prog w) A (pyIter xv) (fun it s₂ => CompAt prog w A E env e scope cl Q it s₂) E s₁) E s)
    (hs : ∀ x, foldedSetIterable g.iter env x = pure x := by intro _; rfl) : wpAny (model prog w) A (eval e env) Q E s := by
  rw [hev]
  exact wpAny_comprehension_free (use := none) hcl hs hclos hkind hnames h
inductive CInv (h₀ : Heap) (L : Addr) (m : Str → Option Value) (s₂ : Shared) (n D C I : Nat) (St : Nat → Heap → Prop) (J : Nat → List Value → List (Addr × Obj) → Prop) (k : Nat) : Shared → Prop
  | mk (h' : Heap) (tk : Nat) (d : Drawn) (i : Nat) (ys : List Value) (m' : Str → Option Value) (nw : List (Addr × Obj)) (hi : i ≤ n) (hk : k = n + 1 - i) (hst : St i h') (F' : Fr h₀ L h' m) (hn' : h'.Ns C m') (N' : News h₀ L h' ((D, lst ys) :: nw)) (off' : ∀ p ∈ nw, p.1 ≠ I ∧ p.1 ≠ C ∧ p.1 ≠ D) (hj : J i ys nw) : CInv h₀ L m s₂ n D C I St J k { s₂ with heap := h', toks := tk, drawn := d }
inductive CInv0 (h₀ : Heap) (L : Addr) (m : Str → Option Value) (s₂ : Shared) (n D C I : Nat) (St : Nat → Heap → Prop) (J : Nat → List Value → List (Addr × Obj) → Prop) (k : Nat) : Shared → Prop
  | mk (h' : Heap) (tk : Nat) (i : Nat) (ys : List Value) (m' : Str → Option Value) (nw : List (Addr × Obj)) (hi : i ≤ n) (hk : k = n + 1 - i) (hst : St i h') (F' : Fr h₀ L h' m) (hn' : h'.Ns C m') (N' : News h₀ L h' ((D, lst ys) :: nw)) (off' : ∀ p ∈ nw, p.1 ≠ I ∧ p.1 ≠ C ∧ p.1 ≠ D) (hj : J i ys nw) : CInv0 h₀ L m s₂ n D C I St J k { s₂ with heap := h', toks := tk }
theorem comp_inv {n : Nat} {I : Nat} {fp : List Addr} {P : Nat → Value → Prop} {St : Nat → Heap → Prop} (J : Nat → List Value → List (Addr × Obj) → Prop)
    (W : Walks prog w A I fp [I] n P St) (hn : n ≤ 1000) (hIo : ∀ i h, St i h → ∃ o, h.get? I = some o)
    (hSt : ∀ i ys nw h h' o, J i ys nw → St i h → h.get? I = some o → h'.get? I = some o → (∀ b o, h₀.get? b = some o → h'.get? b = some o) → News h₀ L h' nw → St i h')
    (hcell : ∀ y ∈ scope.names, y.2 ≠ .cell) (hkind : scope.kind = .function) (hx : scope.names.lookup x = some .local) (hst : St 0 s₂.heap) (hfp : ∀ b ∈ fp, b < s₂.heap.objs.size)
    (F : Fr h₀ L s₂.heap m) (N : News h₀ L s₂.heap news) (hIL : L ≠ I) (hI₀ : h₀.get? I = none) (off : ∀ p ∈ news, p.1 ≠ I) (hJ : J 0 [] news) (hJz : ∀ i ys nw, J i ys nw → ys.length ≤ i)
    (turn : ∀ i v ys nw (C D : Nat) oI oC m₂ h tk d, i < n → P i v → J i ys nw → NsObj oC m₂ → m₂ x = some v → Fr h₀ L h m → News h₀ L h ((I, oI) :: (C, oC) :: (D, lst ys) :: nw) → (∀ p ∈ nw, p.1 ≠ I ∧ p.1 ≠ C ∧ p.1 ≠ D) → I < D → D < C → (∀ p ∈ news, p.1 < D) →
      wpAny (model prog w) A (isTrue ct (compEnvC scope cl C env) (eval ct (compEnvC scope cl C env))) (fun ok s' => if ok = true then
        wpAny (model prog w) A (eval elt (compEnvC scope cl C env)) (CEnd h₀ L m [(I, oI), (C, oC), (D, lst ys)] (fun y nw' => J (i + 1) (ys ++ [y]) nw') { s₂ with heap := h, toks := tk, drawn := d }) (fun _ _ => False) s'
        else CEnd h₀ L m [(I, oI), (C, oC), (D, lst ys)] (fun _ nw' => J (i + 1) ys nw') { s₂ with heap := h, toks := tk, drawn := d } .none s') (fun _ _ => False) { s₂ with heap := h, toks := tk, drawn := d })
    (done : ∀ (D : Nat) h tk d nw ys, Fr h₀ L h m → News h₀ L h ((D, lst ys) :: nw) → (∀ p ∈ nw, p.1 ≠ D) → (∀ p ∈ news, p.1 < D) → J n ys nw → Q (.ref D) { s₂ with heap := h, toks := tk, drawn := d }) :
    CompAt prog w A E env (.ListComp elt [⟨.Name x px, iter, [ct], 0⟩] scope pos) scope cl Q (.ref I) s₂ := by
  unfold CompAt
  refine wpAny_newObj_type (wpAny_newFunctionEnv hcell (by intro y hy; simp at hy) (fun h₁ hns₁ hsb₁ => ?_) hkind)
  dsimp only at hns₁ hsb₁ ⊢
  have hD0 : s₂.heap.objs.size < (s₂.heap.push { cls := .type "list", dict := none, data := .seq ([] : List Value).toArray }).objs.size := by rw [Heap.size_push]; exact Nat.lt_succ_self _
  generalize hH2 : s₂.heap.push { cls := .type "list", dict := none, data := .seq ([] : List Value).toArray } = H2 at hns₁ hsb₁ hD0 ⊢
  have hC : H2.objs.size = s₂.heap.objs.size + 1 := by rw [← hH2, Heap.size_push]
  generalize hCe : H2.objs.size = C at *
  generalize hDe : s₂.heap.objs.size = D at *
  have hIlt : I < D := hfp I (W.sub I (List.mem_singleton.mpr rfl))
  have hNlt : ∀ p ∈ news, p.1 < D := fun p hp => by rw [← hDe]; exact Heap.lt_size (N p hp).1
  have old : ∀ b o, s₂.heap.get? b = some o → h₁.get? b = some o := fun b o e => by
    have hb : b < D := by rw [← hDe]; exact Heap.lt_size e
    exact hsb₁.extBut b o (Nat.ne_of_lt (Nat.lt_trans hb hD0)) (Heap.get?_push_of_some _ (hH2 ▸ Heap.get?_push_of_some _ e))
  have hacc : h₁.get? D = some (lst []) := by
    refine hsb₁.extBut _ _ (Nat.ne_of_lt hD0) (Heap.get?_push_of_some _ ?_)
    rw [← hH2, ← hDe]
    exact Heap.get?_push_size _ rfl
  have fresh₀ : ∀ a, D ≤ a → h₀.get? a = none := fun a ha => by
    cases e : h₀.get? a with
    | none => rfl
    | some o' => exact absurd (Heap.lt_size (F.keep a o' e)) (Nat.not_lt.mpr (by rw [hDe]; exact ha))
  have hLlt : L < D := by rw [← hDe]; exact F.ns.lt
  have hst₁ : St 0 h₁ := W.frame _ _ _ hst fun b _ o e => old b o e
  have loop : ∀ s₃ : Shared, s₃ = { s₂ with heap := h₁, toks := s₂.toks + ([] : List (Str × Value)).length } →
      codeAny (model prog w) A (.compLoop (.ListComp elt [⟨.Name x px, iter, [ct], 0⟩] scope pos) 0 (.ref I) (.ref D) (compEnvC scope cl C env)) (compPost (model prog w) A E none Q (.ref D) C) s₃ := by
    rintro s₃ rfl
    refine codeAny_compLoop_tests
      (CInv h₀ L m s₂ n D C I St J) ?_ (n + 1)
      ⟨h₁, _, s₂.drawn, 0, [], _, news, Nat.zero_le _, rfl, hst₁, F.keeps old, hns₁, fun p hp => ?_, fun p hp => ?_, hJ⟩
    · rintro k s' ⟨h', tk, d, i, ys, m', nw, hi, rfl, hst', F', hn', N', off', hj⟩
      by_cases hlt : i < n
      · refine W.item i _ _ _ hlt hst' fun v h₂ tk₂ hPv hst₂ hk₂ => ?_
        have hCI : C ≠ I := Nat.ne_of_gt (Nat.lt_trans hIlt hD0)
        refine wpAny_assign_Name (wpAny_storeName_local (lookup_relabel_local hx) (hn'.at' fun o e => hk₂ _ o (by simpa using hCI) e) (fun h₃ hn₃ hs₃ => ?_) (by simp [compEnvC, relabel, hkind]))
        refine wpAny_tests_one ?_
        have hst₃ : St (i + 1) h₃ := W.frame _ _ _ hst₂ fun b hb o e => hs₃.extBut b o (fun q => by
          have q' : b = C := q
          have := hfp b hb
          rw [q'] at this
          exact absurd this (Nat.not_lt.mpr (Nat.le_of_lt hD0))) e
        obtain ⟨oI, heI⟩ := hIo _ _ hst₃
        obtain ⟨oC, heC, hoC⟩ := ns_obj hn₃
        have F₃ : Fr h₀ L h₃ m := (fr_but F' hk₂ hIL hI₀).change hs₃ (Nat.ne_of_gt (Nat.lt_trans hLlt hD0)) (fresh₀ _ (Nat.le_of_lt hD0))
        have N₂ : News h₀ L h₂ ((D, lst ys) :: nw) := news_but N' hk₂ fun p hp => by
          rcases List.mem_cons.mp hp with rfl | hp
          · exact Nat.ne_of_gt hIlt
          · exact (off' p hp).1
        have N₃ : News h₀ L h₃ ((I, oI) :: (C, oC) :: (D, lst ys) :: nw) := fun p hp => by
          rcases List.mem_cons.mp hp with rfl | hp
          · exact ⟨heI, Ne.symm hIL, hI₀⟩
          · rcases List.mem_cons.mp hp with rfl | hp
            · exact ⟨heC, Nat.ne_of_gt (Nat.lt_trans hLlt hD0), fresh₀ _ (Nat.le_of_lt hD0)⟩
            · have z := N₂ p hp
              refine ⟨hs₃.extBut _ _ ?_ z.1, z.2⟩
              rcases List.mem_cons.mp hp with rfl | hp
              · exact Nat.ne_of_lt hD0
              · exact (off' p hp).2.1
        have hm₂ : (fun y => if y = x then some v else m' y) x = some v := by simp
        have E0 : ∀ {R' : Value → Shared → Prop} (e : Value) (s' : Shared), (fun _ _ => False : Value → Shared → Prop) e s' → R' e s' := fun _ _ h => h.elim
        refine wpAny_mono (turn i v ys nw C D oI oC _ h₃ _ d hlt hPv hj hoC hm₂ F₃ N₃ off' hIlt hD0 hNlt) (fun ok s₄ h₄ => ?_) E0
        cases ok with
        | true =>
          simp only [if_true] at h₄ ⊢
          refine wpAny_mono h₄ (fun y s₅ h₅ => ?_) E0
          obtain ⟨h₄, tk₄, d₄, nw₄, rfl, F₄, N₄, off₄, hj₄⟩ := h₅
          have zI := (N₄ (I, oI) (by first | k_extra "MEM" | simp)).1
          have zC := (N₄ (C, oC) (by first | k_extra "MEM" | simp)).1
          have zD := (N₄ (D, lst ys) (by first | k_extra "MEM" | simp)).1
          have N₄' : News h₀ L h₄ nw₄ := fun p hp => N₄ p (List.mem_append_right _ hp)
          have hst₄ : St (i + 1) h₄ := hSt _ _ _ _ _ _ hj₄ hst₃ heI zI F₄.keep N₄'
          have hyz := hJz i ys nw hj
          refine append_at (hsz := by show ys.toArray.size ≤ sizeLine; rw [List.size_toArray, sizeLine_eq]; (first | lia | omega)) zD fun h₅ hs₅ hD₅ => ?_
          have offD : ∀ p ∈ nw₄, p.1 ≠ D := fun p hp => off₄ p hp (D, lst ys) (by first | k_extra "MEM" | simp)
          refine ⟨n + 1 - (i + 1), by first | exact sub_step (by assumption) | lia | omega, h₅, tk₄, d₄, i + 1, ys ++ [y], _, nw₄, hlt, rfl, W.frame _ _ _ hst₄ fun b hb o e => hs₅.extBut b o (fun q => by
              have q' : b = D := q
              have := hfp b hb
              rw [q'] at this
              exact absurd this (Nat.lt_irrefl _)) e, F₄.change hs₅ (Nat.ne_of_gt hLlt) (fresh₀ _ (Nat.le_refl _)),
            (hoC.ns zC).sameBut hs₅ (Nat.ne_of_gt hD0), fun p hp => ?_, fun p hp => ⟨off₄ p hp (I, oI) (by first | k_extra "MEM" | simp), off₄ p hp (C, oC) (by first | k_extra "MEM" | simp), offD p hp⟩, hj₄⟩
          rcases List.mem_cons.mp hp with rfl | hp
          · exact ⟨hD₅.trans (congrArg some (lst_snoc ys y)), Nat.ne_of_gt hLlt, fresh₀ _ (Nat.le_refl _)⟩
          · exact ⟨hs₅.extBut _ _ (offD p hp) (N₄' p hp).1, (N₄' p hp).2⟩
        | false =>
          simp only [Bool.false_eq_true, if_false] at h₄ ⊢
          obtain ⟨h₄, tk₄, d₄, nw₄, rfl, F₄, N₄, off₄, hj₄⟩ := h₄
          have zI := (N₄ (I, oI) (by first | k_extra "MEM" | simp)).1
          have zC := (N₄ (C, oC) (by first | k_extra "MEM" | simp)).1
          have zD := (N₄ (D, lst ys) (by first | k_extra "MEM" | simp))
          have N₄' : News h₀ L h₄ nw₄ := fun p hp => N₄ p (List.mem_append_right _ hp)
          have hst₄ : St (i + 1) h₄ := hSt _ _ _ _ _ _ hj₄ hst₃ heI zI F₄.keep N₄'
          refine ⟨n + 1 - (i + 1), by first | exact sub_step (by assumption) | lia | omega, h₄, tk₄, d₄, i + 1, ys, _, nw₄, hlt, rfl, hst₄, F₄, hoC.ns zC, fun p hp => ?_, fun p hp => ⟨off₄ p hp (I, oI) (by first | k_extra "MEM" | simp), off₄ p hp (C, oC) (by first | k_extra "MEM" | simp), off₄ p hp (D, lst ys) (by first | k_extra "MEM" | simp)⟩, hj₄⟩
          rcases List.mem_cons.mp hp with rfl | hp
          · exact zD
          · exact N₄' p hp
      · obtain rfl : i = n := Nat.le_antisymm hi (Nat.not_lt.mp hlt)
        refine W.done _ _ _ hst' fun h₂ tk₂ hk₂ => ?_
        have hCI : C ≠ I := Nat.ne_of_gt (Nat.lt_trans hIlt hD0)
        have F₂ : Fr h₀ L h₂ m := fr_but F' hk₂ hIL hI₀
        have N₂ : News h₀ L h₂ ((D, lst ys) :: nw) := news_but N' hk₂ fun p hp => by
          rcases List.mem_cons.mp hp with rfl | hp
          · exact Nat.ne_of_gt hIlt
          · exact (off' p hp).1
        refine ⟨m', hn'.at' fun o e => hk₂ _ o (by simpa using hCI) e, fun h'' hs'' => done D h'' tk₂ d nw ys (F₂.change hs'' (Nat.ne_of_gt (Nat.lt_trans hLlt hD0)) (fresh₀ _ (Nat.le_of_lt hD0))) (fun p hp => ⟨hs''.extBut _ _ ?_ (N₂ p hp).1, (N₂ p hp).2⟩) (fun p hp => (off' p hp).2.2) hNlt hj⟩
        rcases List.mem_cons.mp hp with rfl | hp
        · exact Nat.ne_of_lt hD0
        · exact (off' p hp).2.1
    · rcases List.mem_cons.mp hp with rfl | hp
      · exact ⟨hacc, Nat.ne_of_gt hLlt, fresh₀ _ (Nat.le_refl _)⟩
      · exact ⟨old _ _ (N p hp).1, (N p hp).2⟩
    · exact ⟨off p hp, Nat.ne_of_lt (Nat.lt_trans (hNlt p hp) hD0), Nat.ne_of_lt (hNlt p hp)⟩
  exact codeAny_compStart_list (loop _ rfl) (W.self 0 _ _ _ hst₁ (loop _ rfl))
theorem comp_inv0 {n : Nat} {I : Nat} {fp : List Addr} {P : Nat → Value → Prop} {St : Nat → Heap → Prop} (J : Nat → List Value → List (Addr × Obj) → Prop)
    (W : Walks prog w A I fp [I] n P St) (hn : n ≤ 1000) (hIo : ∀ i h, St i h → ∃ o, h.get? I = some o)
    (hSt : ∀ i ys nw h h' o, J i ys nw → St i h → h.get? I = some o → h'.get? I = some o → (∀ b o, h₀.get? b = some o → h'.get? b = some o) → News h₀ L h' nw → St i h')
    (hcell : ∀ y ∈ scope.names, y.2 ≠ .cell) (hkind : scope.kind = .function) (hx : scope.names.lookup x = some .local) (hst : St 0 s₂.heap) (hfp : ∀ b ∈ fp, b < s₂.heap.objs.size)
    (F : Fr h₀ L s₂.heap m) (N : News h₀ L s₂.heap news) (hIL : L ≠ I) (hI₀ : h₀.get? I = none) (off : ∀ p ∈ news, p.1 ≠ I) (hJ : J 0 [] news) (hJz : ∀ i ys nw, J i ys nw → ys.length ≤ i)
    (turn : ∀ i v ys nw (C D : Nat) oI oC m₂ h tk, i < n → P i v → J i ys nw → NsObj oC m₂ → m₂ x = some v → Fr h₀ L h m → News h₀ L h ((I, oI) :: (C, oC) :: (D, lst ys) :: nw) → (∀ p ∈ nw, p.1 ≠ I ∧ p.1 ≠ C ∧ p.1 ≠ D) → I < D → D < C → (∀ p ∈ news, p.1 < D) →
      wpAny (model prog w) A (eval elt (compEnvC scope cl C env)) (CEnd0 h₀ L m [(I, oI), (C, oC), (D, lst ys)] (fun y nw' => J (i + 1) (ys ++ [y]) nw') { s₂ with heap := h, toks := tk }) (fun _ _ => False) { s₂ with heap := h, toks := tk })
    (done : ∀ (D : Nat) h tk nw ys, Fr h₀ L h m → News h₀ L h ((D, lst ys) :: nw) → (∀ p ∈ nw, p.1 ≠ D) → (∀ p ∈ news, p.1 < D) → J n ys nw → Q (.ref D) { s₂ with heap := h, toks := tk }) :
    CompAt prog w A E env (.ListComp elt [⟨.Name x px, iter, [], 0⟩] scope pos) scope cl Q (.ref I) s₂ := by
  unfold CompAt
  refine wpAny_newObj_type (wpAny_newFunctionEnv hcell (by intro y hy; simp at hy) (fun h₁ hns₁ hsb₁ => ?_) hkind)
  dsimp only at hns₁ hsb₁ ⊢
  have hD0 : s₂.heap.objs.size < (s₂.heap.push { cls := .type "list", dict := none, data := .seq ([] : List Value).toArray }).objs.size := by rw [Heap.size_push]; exact Nat.lt_succ_self _
  generalize hH2 : s₂.heap.push { cls := .type "list", dict := none, data := .seq ([] : List Value).toArray } = H2 at hns₁ hsb₁ hD0 ⊢
  have hC : H2.objs.size = s₂.heap.objs.size + 1 := by rw [← hH2, Heap.size_push]
  generalize hCe : H2.objs.size = C at *
  generalize hDe : s₂.heap.objs.size = D at *
  have hIlt : I < D := hfp I (W.sub I (List.mem_singleton.mpr rfl))
  have hNlt : ∀ p ∈ news, p.1 < D := fun p hp => by rw [← hDe]; exact Heap.lt_size (N p hp).1
  have old : ∀ b o, s₂.heap.get? b = some o → h₁.get? b = some o := fun b o e => by
    have hb : b < D := by rw [← hDe]; exact Heap.lt_size e
    exact hsb₁.extBut b o (Nat.ne_of_lt (Nat.lt_trans hb hD0)) (Heap.get?_push_of_some _ (hH2 ▸ Heap.get?_push_of_some _ e))
  have hacc : h₁.get? D = some (lst []) := by
    refine hsb₁.extBut _ _ (Nat.ne_of_lt hD0) (Heap.get?_push_of_some _ ?_)
    rw [← hH2, ← hDe]
    exact Heap.get?_push_size _ rfl
  have fresh₀ : ∀ a, D ≤ a → h₀.get? a = none := fun a ha => by
    cases e : h₀.get? a with
    | none => rfl
    | some o' => exact absurd (Heap.lt_size (F.keep a o' e)) (Nat.not_lt.mpr (by rw [hDe]; exact ha))
  have hLlt : L < D := by rw [← hDe]; exact F.ns.lt
  have hst₁ : St 0 h₁ := W.frame _ _ _ hst fun b _ o e => old b o e
  have loop : ∀ s₃ : Shared, s₃ = { s₂ with heap := h₁, toks := s₂.toks + ([] : List (Str × Value)).length } →
      codeAny (model prog w) A (.compLoop (.ListComp elt [⟨.Name x px, iter, [], 0⟩] scope pos) 0 (.ref I) (.ref D) (compEnvC scope cl C env)) (compPost (model prog w) A E none Q (.ref D) C) s₃ := by
    rintro s₃ rfl
    refine codeAny_compLoop_tests
      (CInv0 h₀ L m s₂ n D C I St J) ?_ (n + 1)
      ⟨h₁, _, 0, [], _, news, Nat.zero_le _, rfl, hst₁, F.keeps old, hns₁, fun p hp => ?_, fun p hp => ?_, hJ⟩
    · rintro k s' ⟨h', tk, i, ys, m', nw, hi, rfl, hst', F', hn', N', off', hj⟩
      by_cases hlt : i < n
      · refine W.item i _ _ _ hlt hst' fun v h₂ tk₂ hPv hst₂ hk₂ => ?_
        have hCI : C ≠ I := Nat.ne_of_gt (Nat.lt_trans hIlt hD0)
        refine wpAny_assign_Name (wpAny_storeName_local (lookup_relabel_local hx) (hn'.at' fun o e => hk₂ _ o (by simpa using hCI) e) (fun h₃ hn₃ hs₃ => ?_) (by simp [compEnvC, relabel, hkind]))
        refine wpAny_pure ?_
        have hst₃ : St (i + 1) h₃ := W.frame _ _ _ hst₂ fun b hb o e => hs₃.extBut b o (fun q => by
          have q' : b = C := q
          have := hfp b hb
          rw [q'] at this
          exact absurd this (Nat.not_lt.mpr (Nat.le_of_lt hD0))) e
        obtain ⟨oI, heI⟩ := hIo _ _ hst₃
        obtain ⟨oC, heC, hoC⟩ := ns_obj hn₃
        have F₃ : Fr h₀ L h₃ m := (fr_but F' hk₂ hIL hI₀).change hs₃ (Nat.ne_of_gt (Nat.lt_trans hLlt hD0)) (fresh₀ _ (Nat.le_of_lt hD0))
        have N₂ : News h₀ L h₂ ((D, lst ys) :: nw) := news_but N' hk₂ fun p hp => by
          rcases List.mem_cons.mp hp with rfl | hp
          · exact Nat.ne_of_gt hIlt
          · exact (off' p hp).1
        have N₃ : News h₀ L h₃ ((I, oI) :: (C, oC) :: (D, lst ys) :: nw) := fun p hp => by
          rcases List.mem_cons.mp hp with rfl | hp
          · exact ⟨heI, Ne.symm hIL, hI₀⟩
          · rcases List.mem_cons.mp hp with rfl | hp
            · exact ⟨heC, Nat.ne_of_gt (Nat.lt_trans hLlt hD0), fresh₀ _ (Nat.le_of_lt hD0)⟩
            · have z := N₂ p hp
              refine ⟨hs₃.extBut _ _ ?_ z.1, z.2⟩
              rcases List.mem_cons.mp hp with rfl | hp
              · exact Nat.ne_of_lt hD0
              · exact (off' p hp).2.1
        have hm₂ : (fun y => if y = x then some v else m' y) x = some v := by simp
        have E0 : ∀ {R' : Value → Shared → Prop} (e : Value) (s' : Shared), (fun _ _ => False : Value → Shared → Prop) e s' → R' e s' := fun _ _ h => h.elim
        rw [if_pos rfl]
        refine wpAny_mono (turn i v ys nw C D oI oC _ h₃ _ hlt hPv hj hoC hm₂ F₃ N₃ off' hIlt hD0 hNlt) (fun y s₅ h₅ => ?_) E0
        obtain ⟨h₄, tk₄, nw₄, rfl, F₄, N₄, off₄, hj₄⟩ := h₅
        have zI := (N₄ (I, oI) (by first | k_extra "MEM" | simp)).1
        have zC := (N₄ (C, oC) (by first | k_extra "MEM" | simp)).1
        have zD := (N₄ (D, lst ys) (by first | k_extra "MEM" | simp)).1
        have N₄' : News h₀ L h₄ nw₄ := fun p hp => N₄ p (List.mem_append_right _ hp)
        have hst₄ : St (i + 1) h₄ := hSt _ _ _ _ _ _ hj₄ hst₃ heI zI F₄.keep N₄'
        have hyz := hJz i ys nw hj
        refine append_at (hsz := by show ys.toArray.size ≤ sizeLine; rw [List.size_toArray, sizeLine_eq]; (first | lia | omega)) zD fun h₅ hs₅ hD₅ => ?_
        have offD : ∀ p ∈ nw₄, p.1 ≠ D := fun p hp => off₄ p hp (D, lst ys) (by first | k_extra "MEM" | simp)
        refine ⟨n + 1 - (i + 1), by first | exact sub_step (by assumption) | lia | omega, h₅, tk₄, i + 1, ys ++ [y], _, nw₄, hlt, rfl, W.frame _ _ _ hst₄ fun b hb o e => hs₅.extBut b o (fun q => by
            have q' : b = D := q
            have := hfp b hb
            rw [q'] at this
            exact absurd this (Nat.lt_irrefl _)) e, F₄.change hs₅ (Nat.ne_of_gt hLlt) (fresh₀ _ (Nat.le_refl _)),
          (hoC.ns zC).sameBut hs₅ (Nat.ne_of_gt hD0), fun p hp => ?_, fun p hp => ⟨off₄ p hp (I, oI) (by first | k_extra "MEM" | simp), off₄ p hp (C, oC) (by first | k_extra "MEM" | simp), offD p hp⟩, hj₄⟩
        rcases List.mem_cons.mp hp with rfl | hp
        · exact ⟨hD₅.trans (congrArg some (lst_snoc ys y)), Nat.ne_of_gt hLlt, fresh₀ _ (Nat.le_refl _)⟩
        · exact ⟨hs₅.extBut _ _ (offD p hp) (N₄' p hp).1, (N₄' p hp).2⟩
      · obtain rfl : i = n := Nat.le_antisymm hi (Nat.not_lt.mp hlt)
        refine W.done _ _ _ hst' fun h₂ tk₂ hk₂ => ?_
        have hCI : C ≠ I := Nat.ne_of_gt (Nat.lt_trans hIlt hD0)
        have F₂ : Fr h₀ L h₂ m := fr_but F' hk₂ hIL hI₀
        have N₂ : News h₀ L h₂ ((D, lst ys) :: nw) := news_but N' hk₂ fun p hp => by
          rcases List.mem_cons.mp hp with rfl | hp
          · exact Nat.ne_of_gt hIlt
          · exact (off' p hp).1
        refine ⟨m', hn'.at' fun o e => hk₂ _ o (by simpa using hCI) e, fun h'' hs'' => done D h'' tk₂ nw ys (F₂.change hs'' (Nat.ne_of_gt (Nat.lt_trans hLlt hD0)) (fresh₀ _ (Nat.le_of_lt hD0))) (fun p hp => ⟨hs''.extBut _ _ ?_ (N₂ p hp).1, (N₂ p hp).2⟩) (fun p hp => (off' p hp).2.2) hNlt hj⟩
        rcases List.mem_cons.mp hp with rfl | hp
        · exact Nat.ne_of_lt hD0
        · exact (off' p hp).2.1
    · rcases List.mem_cons.mp hp with rfl | hp
      · exact ⟨hacc, Nat.ne_of_gt hLlt, fresh₀ _ (Nat.le_refl _)⟩
      · exact ⟨old _ _ (N p hp).1, (N p hp).2⟩
    · exact ⟨off p hp, Nat.ne_of_lt (Nat.lt_trans (hNlt p hp) hD0), Nat.ne_of_lt (hNlt p hp)⟩
  exact codeAny_compStart_list (loop _ rfl) (W.self 0 _ _ _ hst₁ (loop _ rfl))
end
end
section
open PySem PySem.W PySem.Calls PyProof.Rows PyProof.Rows.LCg
set_option maxHeartbeats 4000000
set_option tactic.hygienic false
section
variable {prog : Program} {w : World} {A : Around} {E : Value → Shared → Prop} {s : Shared} {env : Env} {h₀ : Heap} {L : Addr} {x : Str} {m : Str → Option Value} {news : List (Addr × Obj)} {Q : Value → Shared → Prop} {elt ct iter : PySem.Expr} {px pos : Pos} {scope : Scope} {cl : List (Str × Addr)}
noncomputable abbrev kiObj (d n ep : Nat) : Obj := { cls := .type "dict_keyiterator", data := .fields #[.ref d, .int 0 0, .int n 0, .int ep 0] }
theorem comp_list0 {l : Nat} {vs : Array Value} {c : Nat} (J : Nat → List Value → List (Addr × Obj) → Prop) (hh : A.handled = none) (hz : vs.size ≤ 1000) (hcell : ∀ y ∈ scope.names, y.2 ≠ .cell) (hkind : scope.kind = .function) (hx : scope.names.lookup x = some .local)
    (F : Fr h₀ L s.heap m) (N : News h₀ L s.heap news) (hm : (l, listOf vs c) ∈ news) (hJ : J 0 [] news) (hJl : ∀ i ys nw, J i ys nw → (l, listOf vs c) ∈ nw) (hJz : ∀ i ys nw, J i ys nw → ys.length ≤ i)
    (turn : ∀ i v ys nw (I C D : Nat) oI oC m₂ h tk, i < vs.size → vs[i]? = some v → J i ys nw → NsObj oC m₂ → m₂ x = some v → Fr h₀ L h m → News h₀ L h ((I, oI) :: (C, oC) :: (D, lst ys) :: nw) → (∀ p ∈ nw, p.1 ≠ I ∧ p.1 ≠ C ∧ p.1 ≠ D) → I < D → D < C → (∀ p ∈ news, p.1 < I) →
      wpAny (model prog w) A (eval elt (compEnvC scope cl C env)) (CEnd0 h₀ L m [(I, oI), (C, oC), (D, lst ys)] (fun y nw' => J (i + 1) (ys ++ [y]) nw') { s with heap := h, toks := tk }) (fun _ _ => False) { s with heap := h, toks := tk })
    (done : ∀ (D : Nat) h tk nw ys, Fr h₀ L h m → News h₀ L h ((D, lst ys) :: nw) → (∀ p ∈ nw, p.1 ≠ D) → (∀ p ∈ news, p.1 < D) → J vs.size ys nw → Q (.ref D) { s with heap := h, toks := tk }) :
    wpAny (model prog w) A (pyIter (.ref l)) (fun it s₂ => CompAt prog w A E env (.ListComp elt [⟨.Name x px, iter, [], 0⟩] scope pos) scope cl Q it s₂) E s := by
  have hl : s.heap.IsList l vs := ⟨_, (N _ hm).1, rfl, c, rfl⟩
  have hlt : ∀ p ∈ news, p.1 < s.heap.objs.size := fun p hp => Heap.lt_size (N p hp).1
  have hne : (l : Addr) ≠ s.heap.objs.size := Nat.ne_of_lt (hlt _ hm)
  refine wpAny_pyIter_list hl ?_
  have W := Walks.list (prog := prog) (w := w) hh s.heap.objs.size l hne vs
  refine comp_inv0 (s₂ := { s with heap := s.heap.push _ }) J W hz (fun i h st => by obtain ⟨⟨o, ho, _⟩, _⟩ := st; exact ⟨o, ho⟩) (fun i ys nw h h' o hj st e e' hk N' => ?_) hcell hkind hx ⟨⟨_, Heap.get?_push_size _ rfl, rfl, rfl⟩, hl.at fun o e => Heap.get?_push_of_some _ e⟩ (fun b hb => ?_)
    (F.push _) (fun p hp => ⟨Heap.get?_push_of_some _ (N p hp).1, (N p hp).2⟩) (Nat.ne_of_lt F.ns.lt) (next_is_new F) (fun p hp => Nat.ne_of_lt (hlt p hp)) hJ hJz
    (fun i v ys nw C D oI oC m₂ h tk hi hv hj hC hx' F' N' off h1 h2 h3 => turn i v ys nw s.heap.objs.size C D oI oC m₂ h tk hi hv hj hC hx' F' N' off h1 h2 hlt) done
  · obtain ⟨⟨o1, ho1, r⟩, hl1⟩ := st
    rw [e] at ho1
    obtain rfl := Option.some.inj ho1
    exact ⟨⟨o, e', r⟩, ⟨_, (N' _ (hJl _ _ _ hj)).1, rfl, c, rfl⟩⟩
  · rw [Heap.size_push]
    revert b hb
    refine allP_cons ?_ (allP_cons ?_ allP_nil)
    · exact Nat.lt_succ_self _
    · exact Nat.lt_succ_of_lt (hlt _ hm)
theorem comp_dict {d0 : Nat} {o0 : Obj} {kvs : List (Str × Value)} (J : Nat → List Value → List (Addr × Obj) → Prop) (hh : A.handled = none) (hz : kvs.length ≤ 1000) (hcell : ∀ y ∈ scope.names, y.2 ≠ .cell) (hkind : scope.kind = .function) (hx : scope.names.lookup x = some .local)
    (F : Fr h₀ L s.heap m) (N : News h₀ L s.heap news) (hm : (d0, o0) ∈ news) (hd : o0.IsDictOf (strKind prog w) kvs) (lo : (d0 == sysModules) = false) (hJ : J 0 [] news) (hJl : ∀ i ys nw, J i ys nw → (d0, o0) ∈ nw) (hJz : ∀ i ys nw, J i ys nw → ys.length ≤ i)
    (turn : ∀ i v k t ys nw (I C D : Nat) oI oC m₂ h tk d, kvs[i]? = some (k, v) → J i ys nw → NsObj oC m₂ → m₂ x = some (.str k t) → Fr h₀ L h m → News h₀ L h ((I, oI) :: (C, oC) :: (D, lst ys) :: nw) → (∀ p ∈ nw, p.1 ≠ I ∧ p.1 ≠ C ∧ p.1 ≠ D) → I < D → D < C → (∀ p ∈ news, p.1 < I) →
      wpAny (model prog w) A (isTrue ct (compEnvC scope cl C env) (eval ct (compEnvC scope cl C env))) (fun ok s' => if ok = true then
        wpAny (model prog w) A (eval elt (compEnvC scope cl C env)) (CEnd h₀ L m [(I, oI), (C, oC), (D, lst ys)] (fun y nw' => J (i + 1) (ys ++ [y]) nw') { s with heap := h, toks := tk, drawn := d }) (fun _ _ => False) s'
        else CEnd h₀ L m [(I, oI), (C, oC), (D, lst ys)] (fun _ nw' => J (i + 1) ys nw') { s with heap := h, toks := tk, drawn := d } .none s') (fun _ _ => False) { s with heap := h, toks := tk, drawn := d })
    (done : ∀ (D : Nat) h tk d nw ys, Fr h₀ L h m → News h₀ L h ((D, lst ys) :: nw) → (∀ p ∈ nw, p.1 ≠ D) → (∀ p ∈ news, p.1 < D) → J kvs.length ys nw → Q (.ref D) { s with heap := h, toks := tk, drawn := d }) :
    wpAny (model prog w) A (pyIter (.ref d0)) (fun it s₂ => CompAt prog w A E env (.ListComp elt [⟨.Name x px, iter, [ct], 0⟩] scope pos) scope cl Q it s₂) E s := by
  obtain ⟨es, ep, hr9⟩ := hd
  have hat9 : ∀ h' : Heap, h'.get? d0 = some o0 → h'.DictAt (strKind prog w) d0 kvs ep := fun h' e => ⟨o0, es, e, hr9⟩
  have hat := hat9 _ (N _ hm).1
  have hlt : ∀ p ∈ news, p.1 < s.heap.objs.size := fun p hp => Heap.lt_size (N p hp).1
  have hne : (d0 : Addr) ≠ s.heap.objs.size := Nat.ne_of_lt (hlt _ hm)
  refine wpAny_pyIter_dict lo hat ?_
  have W := Walks.dictKeys (prog := prog) (w := w) hh s.heap.objs.size d0 hne kvs ep (knd := strKind prog w)
  refine comp_inv (s₂ := { s with heap := s.heap.push _ }) J W hz (fun i h st => by obtain ⟨⟨o, ho, _⟩, _⟩ := st; exact ⟨o, ho⟩) (fun i ys nw h h' o hj st e e' hk N' => ?_) hcell hkind hx ⟨⟨_, Heap.get?_push_size _ rfl, rfl, rfl⟩, hat9 _ (Heap.get?_push_of_some _ (N _ hm).1)⟩ (fun b hb => ?_)
    (F.push _) (fun p hp => ⟨Heap.get?_push_of_some _ (N p hp).1, (N p hp).2⟩) (Nat.ne_of_lt F.ns.lt) (next_is_new F) (fun p hp => Nat.ne_of_lt (hlt p hp)) hJ hJz
    (fun i v ys nw C D oI oC m₂ h tk d hi hv hj hC hx' F' N' off h1 h2 h3 => ?_) done
  · obtain ⟨⟨o1, ho1, r⟩, hl1⟩ := st
    rw [e] at ho1
    obtain rfl := Option.some.inj ho1
    exact ⟨⟨o, e', r⟩, hat9 _ (N' _ (hJl _ _ _ hj)).1⟩
  · rw [Heap.size_push]
    revert b hb
    refine allP_cons ?_ (allP_cons ?_ allP_nil)
    · exact Nat.lt_succ_self _
    · exact Nat.lt_succ_of_lt (hlt _ hm)
  · obtain ⟨k, v', hk, hkey⟩ := hv
    obtain ⟨t, rfl⟩ := Value.isStrOf_shape (x := k) (v := v) hkey
    exact turn i v' k t ys nw s.heap.objs.size C D oI oC m₂ h tk d hk hj hC hx' F' N' off h1 h2 hlt
inductive DInv (s : Shared) (I d0 : Nat) (n ep : Nat) (h₀ : Heap) (L : Addr) (J : Nat → (Str → Option Value) → List (Addr × Obj) → Prop) (kk : Nat) : Shared → Prop
  | mk (hp : Heap) (tk : Nat) (m' : Str → Option Value) (news' : List (Addr × Obj)) (i : Nat) (hit : hp.IsKeyIter I d0 i n ep) (F' : Fr h₀ L hp m') (N' : News h₀ L hp news') (hd' : ∀ p ∈ news', p.1 ≠ I) (hj : J i m' news') (hi : i ≤ n) (hk : kk = n + 1 - i) : DInv s I d0 n ep h₀ L J kk { s with heap := hp, toks := tk }
theorem dict_inv {body : List Stmt} {Qf : Flow → Shared → Prop} {d0 : Nat} {o0 : Obj} {kvs : List (Str × Value)} {m₀ : Str → Option Value} (J : Nat → (Str → Option Value) → List (Addr × Obj) → Prop) (hh : A.handled = none) (F : Fr h₀ env.locals s.heap m₀) (N : News h₀ env.locals s.heap news) (hm : (d0, o0) ∈ news) (hd : o0.IsDictOf (strKind prog w) kvs) (lo : (d0 == sysModules) = false) (h0 : J 0 m₀ news)
    (hJ : ∀ i m₁ news₁, J i m₁ news₁ → (d0, o0) ∈ news₁) (target : PySem.Expr) (htg : ∀ it v, letOwnedTupleGo target it v = pure ()) (hE : PassesOwn (model prog w) A env E)
    (turn : ∀ i k v t m₁ news₁ h tk (I : Nat) io, kvs[i]? = some (k, v) → J i m₁ news₁ → (∀ p ∈ news₁, p.1 ≠ I) → (∀ p ∈ news, p.1 < I) → Fr h₀ env.locals h m₁ → News h₀ env.locals h ((I, io) :: news₁) →
      wpAny (model prog w) A (assign target env (.str k t)) (fun _ s₂ => wpAny (model prog w) A (execs body env) (RPost h₀ env.locals [(I, io)] (J (i + 1)) { s with heap := h, toks := tk } Qf) E s₂) E { s with heap := h, toks := tk })
    (done : ∀ h tk m' news', Fr h₀ env.locals h m' → News h₀ env.locals h news' → J kvs.length m' news' → Qf .next { s with heap := h, toks := tk }) :
    wpAny (model prog w) A (pyIter (.ref d0)) (fun it s₂ => EnumAt prog w A env target body Qf E it s₂) E s := by
  obtain ⟨es, ep, hr9⟩ := hd
  have hat9 : ∀ h' : Heap, h'.get? d0 = some o0 → h'.DictAt (strKind prog w) d0 kvs ep := fun h' e => ⟨o0, es, e, hr9⟩
  have hlt : ∀ p ∈ news, p.1 < s.heap.objs.size := fun p hp => Heap.lt_size (N p hp).1
  have hne : (d0 : Addr) ≠ s.heap.objs.size := Nat.ne_of_lt (hlt _ hm)
  refine wpAny_pyIter_dict lo (hat9 _ (N _ hm).1) ?_
  have W := Walks.dictKeys (prog := prog) (w := w) hh s.heap.objs.size d0 hne kvs ep (knd := strKind prog w)
  unfold EnumAt
  have hI₀ : h₀.get? s.heap.objs.size = none := next_is_new F
  have hLI : env.locals ≠ s.heap.objs.size := Nat.ne_of_lt F.ns.lt
  refine codeAny_forLoop_any (DInv s s.heap.objs.size d0 kvs.length ep h₀ env.locals J) ?_ (kvs.length + 1) ⟨s.heap.push _, s.toks, m₀, news, 0, ⟨_, Heap.get?_push_size _ rfl, rfl, rfl⟩, F.push _, fun p hp => ⟨Heap.get?_push_of_some _ (N p hp).1, (N p hp).2⟩, fun p hp => Nat.ne_of_lt (hlt p hp), h0, Nat.zero_le _, rfl⟩
  rintro kk s' ⟨hp, tk, m', news', i, hit, F', N', hd', hj, hi, rfl⟩
  have st : hp.IsKeyIter s.heap.objs.size d0 i kvs.length ep ∧ hp.DictAt (strKind prog w) d0 kvs ep := ⟨hit, hat9 _ (N' _ (hJ _ _ _ hj)).1⟩
  by_cases hlt' : i < kvs.length
  · refine W.item i _ _ _ hlt' st fun v h₂ tk₂ hPv st₂ hk₂ => ?_
    refine wpAny_of_eq (htg _ _) ?_
    obtain ⟨k, v', hk, hkey⟩ := hPv
    obtain ⟨t, rfl⟩ := Value.isStrOf_shape (x := k) (v := v) hkey
    obtain ⟨io, hio, hr⟩ := st₂.1
    have F₂ : Fr h₀ env.locals h₂ m' := fr_but F' hk₂ hLI hI₀
    have N₂ : News h₀ env.locals h₂ news' := news_but N' hk₂ hd'
    have N₃ : News h₀ env.locals h₂ ((s.heap.objs.size, io) :: news') := fun p hp => by
      rcases List.mem_cons.mp hp with rfl | hp
      · exact ⟨hio, Ne.symm hLI, hI₀⟩
      · exact N₂ p hp
    refine wpAny_mono (turn i k v' t m' news' h₂ tk₂ s.heap.objs.size io hk hj hd' hlt F₂ N₃) (fun _ s₂ hx => wpAny_mono (wpAny_passesOwn hE hx) (fun f s₃ p => ?_) fun _ _ e => e) hE
    have fin : REnd h₀ env.locals [(s.heap.objs.size, io)] (J (i + 1)) { s with heap := h₂, toks := tk₂ } s₃ → ∃ mm, mm < kvs.length + 1 - i ∧ DInv s s.heap.objs.size d0 kvs.length ep h₀ env.locals J mm s₃ := by
      rintro ⟨h4, tk4, m4, news4, rfl, F4, N4, hd4, hj4⟩
      exact ⟨kvs.length + 1 - (i + 1), by first | exact sub_step (by assumption) | lia | omega, h4, tk4, m4, news4, i + 1, ⟨io, (N4 _ (.head _)).1, hr⟩, F4, fun q hq => N4 q (List.mem_append_right _ hq), fun q hq => hd4 q hq _ (.head _), hj4, hlt', rfl⟩
    cases f with
    | ret v => exact p
    | brk => exact p
    | next => exact fin p
    | cont => exact fin p
  · obtain rfl : i = kvs.length := by (first | lia | omega)
    refine W.done _ _ _ st fun h₂ tk₂ hk₂ => ?_
    refine wpAny_execs_nil ?_
    exact done h₂ tk₂ m' news' (fr_but F' hk₂ hLI hI₀) (news_but N' hk₂ hd') hj
end
end
section
set_option tactic.hygienic false
section
variable {prog : Program} {w : World} {p : Program} {loose : List Str} {mean : ExcName → Option Value} {mg mb : Str → Option Value} {dp un : Nat} {gd : Option (List Code)} {cn : Str} {cs : Scope} {a : Addr} {ccd : Value} {cl : List (Str × Addr)} {outer : List Env} {A₀ : Around} {base h₀ : Heap} {L : Addr} {m : Str → Option Value} {news rest : List (Addr × Obj)} {s : Shared} {Q E : Value → Shared → Prop}
open PyProof.Rows.LCg
theorem comp_go {prog : Program} {w : World} {A : Around} {E : Value → Shared → Prop} {s : Shared} {env : Env} {x : Str} {Q : Value → Shared → Prop} {elt iter : PySem.Expr} {ifs : List PySem.Expr} {px pos : Pos} {scope : Scope} {cl : List (Str × Addr)}
    (hclos : closureFor scope env = pure cl) (hkind : scope.kind = .function) (hnames : ∀ y ∈ scope.names, y.2 = .local → scope.names.lookup y.1 = some .local)
    (h : wpAny (model prog w) A (eval iter env) (fun xv s₁ => wpAny (model prog w) A (pyIter xv) (fun it s₂ => CompAt prog w A E env (.ListComp elt [⟨.Name x px, iter, ifs, 0⟩] scope pos) scope cl Q it s₂) E s₁) E s)
    (hs : ∀ x, foldedSetIterable iter env x = pure x := by intro _; rfl) : wpAny (model prog w) A (eval (.ListComp elt [⟨.Name x px, iter, ifs, 0⟩] scope pos) env) Q E s := by
  rw [eval_ListComp]
  exact wpAny_comprehension_free (use := none) rfl hs hclos hkind hnames h
variable {g : Heap} {L' : Nat} {QF : Flow → Shared → Prop} {tups big : List (Addr × Obj)}
theorem wd_KN2_40 : True := by
  k_with "exec For Name Name cons nil" => (k_here; (with_unfolding_all refine' For_enum ?_; k_whole))
  k_with "pyIter ref" => ((with_reducible show wpAny _ _ (pyIter (Value.ref _)) (fun it s₂ => EnumAt _ _ _ _ _ _ _ _ it s₂) _ _); refine mark ?_)
  k_with "pyIter ref" => ((with_reducible show wpAny _ _ (pyIter (Value.ref _)) (fun it s₂ => CompAt _ _ _ _ _ _ _ _ _ it s₂) _ _); refine mark ?_)
  k_with "eval ListComp" => (k_here; k_dflt (refine comp_go (by with_unfolding_all rfl) (by rfl) (by decide) ?_); k_whole)
  k_with "subscriptTail Name Name ref str" => (k_here; k_dflt (refine kda_item (knd := PySem.strKind _ _) (by k_asm) (by k_mem) (by assumption) (isStr _ _) (by assumption) ?_))
  trivial
noncomputable def ltB : List Stmt := match st 36 with | .FunctionDef _ _ b .. => b | _ => []
noncomputable def ltScope : Scope := match st 36 with | .FunctionDef _ _ _ _ _ _ sc .. => sc | _ => default
noncomputable abbrev ltEnv (L' : Addr) : Env := envOfC (Str.ofString "_law_told") ltScope L' 932 (.ref 931)
noncomputable def lt1Body : List Stmt := match ltB with | _ :: .For _ _ b _ _ :: _ => b | _ => []
noncomputable def mlt (pages page said left words told : Option Value) : Str → Option Value := fun z =>
  if z = Str.ofString "pages" then pages else if z = Str.ofString "page" then page else if z = Str.ofString "said" then said else if z = Str.ofString "left" then left else if z = Str.ofString "words" then words else if z = Str.ofString "told" then told else none
theorem CEnd_off {I C D : Nat} {oI oC oD : Obj} {nw : List (Addr × Obj)} (off : ∀ p ∈ nw, p.1 ≠ I ∧ p.1 ≠ C ∧ p.1 ≠ D) : ∀ p ∈ nw, ∀ q ∈ [((I, oI) : Addr × Obj), (C, oC), (D, oD)], p.1 ≠ q.1 := by
  intro p hp q hq
  revert q hq
  refine allP_cons ?_ (allP_cons ?_ (allP_cons ?_ allP_nil))
  · exact (off p hp).1
  · exact (off p hp).2.1
  · exact (off p hp).2.2
theorem lst_listOf (ys : List Value) : listOf ys.toArray ys.length = lst ys := rfl
theorem add1K {A : Around} {l b : Nat} {xs ys : List Value} {Q : Value → Shared → Prop} {news : List (Addr × Obj)} (F : Fr h₀ L s.heap m) (N : News h₀ L s.heap news) (hl : (l, lst xs) ∈ news) (hb : (b, lst ys) ∈ news) (hz : xs.length + ys.length ≤ 1000)
    (h : ∀ (D : Nat) h', (∀ p ∈ news, p.1 < D) → Fr h₀ L h' m → News h₀ L h' ((D, listOf (xs ++ ys).toArray 0) :: news) → Q (.ref D) { s with heap := h' }) : wpAny (model prog w) A (binaryOp .Add (.ref l) (.ref b)) Q E s :=
  add_lists F N ⟨_, (N _ hl).1, rfl, _, rfl⟩ ⟨_, (N _ hb).1, rfl, _, rfl⟩ (fun h' F' N' => h _ h' (fun p hp => Heap.lt_size (N p hp).1) F' N') (by rw [sizeLine_eq]; (first | lia | omega))
theorem wd_KN2_41 : True := by
  k_with "binaryOp Add ref ref" => (k_here; k_dflt (refine' add1K ?zF ?zN ?zl ?zb ?zz ?_; (case zF => k_asm); (case zN => k_asm); (case zl => k_mem); (case zb => k_mem); (case zz => assumption)); intro _ _ zl9 _ _; (try k_lt zl9))
  trivial
theorem mlt_pages {pages page said left words told : Option Value} {v : Value} (z : Str) : (if z = Str.ofString "pages" then some v else mlt pages page said left words told z) = mlt (some v) page said left words told z := by
  by_cases h : z = Str.ofString "pages"
  · subst h; rfl
  · simp only [mlt, if_neg h]
theorem mlt_page {pages page said left words told : Option Value} {v : Value} (z : Str) : (if z = Str.ofString "page" then some v else mlt pages page said left words told z) = mlt pages (some v) said left words told z := by
  by_cases h : z = Str.ofString "page"
  · subst h; rfl
  · simp only [mlt, if_neg h]
theorem mlt_said {pages page said left words told : Option Value} {v : Value} (z : Str) : (if z = Str.ofString "said" then some v else mlt pages page said left words told z) = mlt pages page (some v) left words told z := by
  by_cases h : z = Str.ofString "said"
  · subst h; rfl
  · simp only [mlt, if_neg h]
theorem mlt_left {pages page said left words told : Option Value} {v : Value} (z : Str) : (if z = Str.ofString "left" then some v else mlt pages page said left words told z) = mlt pages page said (some v) words told z := by
  by_cases h : z = Str.ofString "left"
  · subst h; rfl
  · simp only [mlt, if_neg h]
theorem mlt_words {pages page said left words told : Option Value} {v : Value} (z : Str) : (if z = Str.ofString "words" then some v else mlt pages page said left words told z) = mlt pages page said left (some v) told z := by
  by_cases h : z = Str.ofString "words"
  · subst h; rfl
  · simp only [mlt, if_neg h]
theorem mlt_told {pages page said left words told : Option Value} {v : Value} (z : Str) : (if z = Str.ofString "told" then some v else mlt pages page said left words told z) = mlt pages page said left words (some v) z := by
  by_cases h : z = Str.ofString "told"
  · subst h; rfl
  · simp only [mlt, if_neg h]
theorem strs_app : ∀ {vs ws : List Value} {xs ys : List Str}, StrsAre vs xs → StrsAre ws ys → StrsAre (vs ++ ws) (xs ++ ys)
  | _, _, _, _, .nil, h => h
  | _, _, _, _, .cons x t r, h => .cons x t (strs_app r h)
theorem lt1_turn {P D I : Nat} {io oD o1 o2 o3 : Obj} {pv : Array Value} {pc : Nat} {ps : List Str} {nm row : Str} {tn tr : Tok} {kvs : List (Str × Value)} (hp : Strs ps pv) (hpz : ps.length ≤ 100) (hpl : ∀ q ∈ ps, q.length ≤ 500) (hrl : row.length ≤ 50) (hd9 : oD.IsDictOf (strKind prog w) kvs) (hat : valueAt kvs nm = some (.str row tr))
    (h1 : D < L') (hPL : L' + 1 + 1 + 1 < P) (hbig : ∀ p ∈ big, p.1 < D)
    (c2 : o2.data = .cell (some (.str nm tn))) (c3 : o3.data = .cell (some (.ref D)))
    (Y : Ty 8 w p loose mean mg mb dp un gd cn cs L a ccd cl outer base g)
    (F : Fr g L' s.heap (mlt (some (.ref P)) none none none none none))
    (N : News g L' s.heap ((I, io) :: (P, listOf pv pc) :: (L' + 1 + 1 + 1, o1) :: (L' + 1 + 1, o2) :: (L' + 1, o3) :: (D, oD) :: big))
    (hq : ∀ (P2 : Nat) pv2 pc2 h' tk', Strs (ps.map (fun q => q ++ Str.ofString "#" ++ row) ++ ps.map fun q => q ++ row) pv2 → (∀ p ∈ ((I, io) :: (P, listOf pv pc) :: (L' + 1 + 1 + 1, o1) :: (L' + 1 + 1, o2) :: (L' + 1, o3) :: (D, oD) :: big), p.1 < P2) →
      Fr g L' h' (mlt (some (.ref P2)) none none none none none) → News g L' h' ((I, io) :: (P2, listOf pv2 pc2) :: (L' + 1 + 1 + 1, o1) :: (L' + 1 + 1, o2) :: (L' + 1, o3) :: (D, oD) :: big) → QF .next { s with heap := h', toks := tk' }) :
    wpAny (model prog w) ((ktrTop dp un gd cn cs L a ccd cl outer).deeper (ltEnv L')) (execs lt1Body (ltEnv L')) QF (fun _ _ => False) s := by
  obtain ⟨hk, hd, hun, B, X, T0⟩ := Y
  have hpz9 : pv.size ≤ 1000 := by rw [hp.size]; (first | lia | omega)
  k_steps
  unfold Marked
  refine comp_list0 (fun i ys nw => StrsAre ys ((ps.take i).map fun q => q ++ Str.ofString "#" ++ row) ∧ nw = ((I, io) :: (P, listOf pv pc) :: (L' + 1 + 1 + 1, o1) :: (L' + 1 + 1, o2) :: (L' + 1, o3) :: (D, oD) :: big)) rfl hpz9 (by decide) rfl rfl F N (by k_mem) ⟨.nil, rfl⟩ ?_ ?_ ?_ ?_
  · rintro i ys nw ⟨h8, rfl⟩
    k_mem
  · rintro i ys nw ⟨h8, rfl⟩
    rw [h8.length, List.length_map, List.length_take]
    first | k_extra "OM" | (first | lia | omega)
  · rintro i v ys nw I2 C2 D2 oI oC m₂ h tk hi hv ⟨h8, rfl⟩ hC' hx' F4 N4 off hID hDC hlt
    obtain ⟨q, tq, rfl, hq⟩ := StrsAre.item hp i v (by rw [Array.getElem?_toList]; exact hv)
    have hql := hpl q (List.mem_of_getElem? hq)
    have hI2 : P < I2 := hlt (P, listOf pv pc) (by first | k_extra "MEM" | simp)
    refine cend0_gen fun Q1 hy => ?_
    k_steps
    rename News _ _ _ _ => N5
    rename Fr _ _ _ _ => F5
    exact hy _ _ _ _ F5 N5 (CEnd_off off) ⟨by
      rw [List.take_add_one, hq, List.map_append]
      exact strs_snoc h8, rfl⟩
  · rintro D2 h tk nw ys F4 N4 off hlt ⟨h8, rfl⟩
    have hIo : ∀ p ∈ ((I, io) :: (P, listOf pv pc) :: (L' + 1 + 1 + 1, o1) :: (L' + 1 + 1, o2) :: (L' + 1, o3) :: (D, oD) :: big), p.1 < D2 := hlt
    have hID2 : I < D2 := hlt (I, io) (by first | k_extra "MEM" | simp)
    rw [← lst_listOf] at N4
    k_steps
    unfold Marked
    have lt2 : (ys.toArray).size ≤ 1000 := by
      have q := h8.length
      simp at q
      simp
      first | k_extra "OM" | (first | lia | omega)
    have hys : StrsAre ys (ps.map fun q => q ++ Str.ofString "#" ++ row) := by
      have e9 : ps.take pv.size = ps := by rw [hp.size]; exact List.take_length
      rw [e9] at h8
      exact h8
    refine comp_list0 (fun i zs nw => StrsAre zs ((ps.take i).map fun q => q ++ row) ∧ nw = ((D2, lst ys) :: (I, io) :: (P, listOf pv pc) :: (L' + 1 + 1 + 1, o1) :: (L' + 1 + 1, o2) :: (L' + 1, o3) :: (D, oD) :: big)) rfl hpz9 (by decide) rfl rfl F4 N4 (by k_mem) ⟨.nil, rfl⟩ ?_ ?_ ?_ ?_
    · rintro i ys nw ⟨h8, rfl⟩
      k_mem
    · rintro i ys nw ⟨h8, rfl⟩
      rw [h8.length, List.length_map, List.length_take]
      first | k_extra "OM" | (first | lia | omega)
    · rintro i v zs nw I2 C2 D3 oI oC m₂ h tk hi hv ⟨h8, rfl⟩ hC' hx' F4 N4 off hID hDC hlt
      obtain ⟨q, tq, rfl, hq⟩ := StrsAre.item hp i v (by rw [Array.getElem?_toList]; exact hv)
      have hql := hpl q (List.mem_of_getElem? hq)
      have hI2 : D2 < I2 := hlt (D2, lst ys) (by first | k_extra "MEM" | simp)
      refine cend0_gen fun Q1 hy => ?_
      k_steps
      rename News _ _ _ _ => N5
      rename Fr _ _ _ _ => F5
      exact hy _ _ _ _ F5 N5 (CEnd_off off) ⟨by
        rw [List.take_add_one, hq, List.map_append]
        exact strs_snoc h8, rfl⟩
    · rintro D3 h tk nw zs F4 N4 off hlt3 ⟨h8, rfl⟩
      have hzs : StrsAre zs (ps.map fun q => q ++ row) := by
        have e9 : ps.take pv.size = ps := by rw [hp.size]; exact List.take_length
        rw [e9] at h8
        exact h8
      have lt3 : ys.length + zs.length ≤ 1000 := by
        rw [hys.length, hzs.length, List.length_map, List.length_map]
        first | k_extra "OM" | (first | lia | omega)
      have hID3 : D2 < D3 := hlt3 (D2, lst ys) (by first | k_extra "MEM" | simp)
      rw [← lst_listOf] at N4
      k_steps
      rename News _ _ _ _ => N5
      rename Fr _ _ _ _ => F5
      rename D3 < _ ∧ _ => hl9
      obtain ⟨q0, q1, q2, q3, q4, q5, q6, q7, q8⟩ := hl9
      have F6 := Fr.cast F5 mlt_pages
      refine hq _ _ 0 _ _ (by show StrsAre (ys ++ zs).toArray.toList _; simpa using strs_app hys hzs) ?_ F6 (news_sub N5 fun p hp => ?_)
      · intro p hp
        revert p hp
        refine allP_cons ?_ (allP_cons ?_ (allP_cons ?_ (allP_cons ?_ (allP_cons ?_ (allP_cons ?_ (fun p hp => ?_))))))
        · exact q2
        · exact q3
        · exact q4
        · exact q5
        · exact q6
        · exact q7
        · exact of_allLt q8 p hp
      · first | (refine sub_use ?_ hp; k_extra "SUB") | (simp only [List.mem_cons, List.mem_append, List.cons_append, List.nil_append] at hp ⊢; grind)
theorem BookV.get : ∀ {bk : List (Str × Str)} {kvs : List (Str × Value)}, BookV bk kvs → ∀ {k : Nat} {nm : Str} {v : Value}, kvs[k]? = some (nm, v) → ∃ row t, bk[k]? = some (nm, row) ∧ v = .str row t
  | [], [], _, k, nm, v, h => by simp at h
  | e :: bk, f :: kvs, hb, 0, nm, v, h => by
    simp at h
    obtain ⟨e1, t, e2⟩ := hb.1
    refine ⟨e.2, t, ?_, by rw [← e2, h]⟩
    simp
    rw [h] at e1
    exact Prod.ext e1 rfl
  | e :: bk, f :: kvs, hb, k + 1, nm, v, h => by
    simp at h
    obtain ⟨row, t, h1, h2⟩ := BookV.get hb.2 h
    exact ⟨row, t, by simpa using h1, h2⟩
  | [], _ :: _, h, _, _, _, _ => h.elim
  | _ :: _, [], h, _, _, _, _ => h.elim
noncomputable def lt1 : List Stmt := match ltB with | _ :: c :: _ => [c] | _ => []
noncomputable def pageAdd (ps : List Str) (e : Str × Str) : List Str := ps.map (fun q => q ++ Str.ofString "#" ++ e.2) ++ ps.map fun q => q ++ e.2
noncomputable def pagesOf (bk : List (Str × Str)) : List Str := bk.foldl pageAdd [Str.ofString ""]
inductive JT1 (bk : List (Str × Str)) (big : List (Addr × Obj)) (D L' : Nat) (oD o1 o3 : Obj) (k : Nat) : (Str → Option Value) → List (Addr × Obj) → Prop
  | mk (P2 : Nat) (pv2 : Array Value) (pc2 : Nat) (o2' : Obj) (cv' : Option Value) (c2' : o2'.data = .cell cv') (hp' : Strs (pagesOf (bk.take k)) pv2) (hPL' : L' + 1 + 1 + 1 < P2) :
    JT1 bk big D L' oD o1 o3 k (mlt (some (.ref P2)) none none none none none) ((P2, listOf pv2 pc2) :: (L' + 1 + 1 + 1, o1) :: (L' + 1 + 1, o2') :: (L' + 1, o3) :: (D, oD) :: big)
theorem lt1_loop {P D : Nat} {oD o1 o2 o3 : Obj} {pv : Array Value} {pc : Nat} {bk : List (Str × Str)} {kvs : List (Str × Value)} (hp : Strs [Str.ofString ""] pv) (hd9 : oD.IsDictOf (strKind prog w) kvs) (hbk : BookV bk kvs) (lo : (D == sysModules) = false)
    (hpz : ∀ k ≤ bk.length, (pagesOf (bk.take k)).length ≤ 100) (hpl : ∀ k ≤ bk.length, ∀ q ∈ pagesOf (bk.take k), q.length ≤ 500) (hrl : ∀ e ∈ bk, e.2.length ≤ 50) (hat : ∀ (k : Nat) (nm : Str) (v : Value), kvs[k]? = some (nm, v) → valueAt kvs nm = some v)
    (h1 : D < L') (hPL : L' + 1 + 1 + 1 < P) (hbig : ∀ p ∈ big, p.1 < D) {cv : Option Value}
    (c2 : o2.data = .cell cv) (c3 : o3.data = .cell (some (.ref D)))
    (Y : Ty 8 w p loose mean mg mb dp un gd cn cs L a ccd cl outer base g)
    (F : Fr g L' s.heap (mlt (some (.ref P)) none none none none none))
    (N : News g L' s.heap ((P, listOf pv pc) :: (L' + 1 + 1 + 1, o1) :: (L' + 1 + 1, o2) :: (L' + 1, o3) :: (D, oD) :: big))
    (hq : ∀ (P2 : Nat) pv2 pc2 o2' cv' h' tk', o2'.data = .cell cv' → Strs (pagesOf bk) pv2 → L' + 1 + 1 + 1 < P2 →
      Fr g L' h' (mlt (some (.ref P2)) none none none none none) → News g L' h' ((P2, listOf pv2 pc2) :: (L' + 1 + 1 + 1, o1) :: (L' + 1 + 1, o2') :: (L' + 1, o3) :: (D, oD) :: big) → QF .next { s with heap := h', toks := tk' }) :
    wpAny (model prog w) ((ktrTop dp un gd cn cs L a ccd cl outer).deeper (ltEnv L')) (execs lt1 (ltEnv L')) QF (fun _ _ => False) s := by
  have Y' := Y
  obtain ⟨hk, hd, hun, B, X, T0⟩ := Y
  k_steps
  unfold Marked
  refine dict_inv (h₀ := g) (JT1 bk big D L' oD o1 o3)
    rfl F N (by k_mem) hd9 lo ?_ ?_ _ (by intro _ _; rfl) (fun _ _ h => h.elim) ?_ ?_
  · exact ⟨P, pv, pc, o2, cv, c2, hp, hPL⟩
  · rintro k m₁ news₁ ⟨P2, pv2, pc2, o2', cv', c2', hp', hPL'⟩
    k_mem
  · rintro k nm v t m₁ news₁ h tk I io hkv ⟨P2, pv2, pc2, o2', cv', c2', hp', hPL'⟩ hni hlI F4 N4
    obtain ⟨row, tr, hbk9, rfl⟩ := hbk.get hkv
    have hklt : k < bk.length := by
      rcases Nat.lt_or_ge k bk.length with q | q
      · exact q
      · rw [List.getElem?_eq_none q] at hbk9; cases hbk9
    have hIP : P < I := hlI (P, listOf pv pc) (by first | k_extra "MEM" | simp)
    have hIL : L' + 1 + 1 + 1 < I := hlI (L' + 1 + 1 + 1, o1) (by first | k_extra "MEM" | simp)
    have hPI : P2 ≠ I := hni (P2, listOf pv2 pc2) (by first | k_extra "MEM" | simp)
    have hbL : ∀ p ∈ big, p.1 ≠ L' + 1 + 1 := fun p hp => Nat.ne_of_lt (by have := hbig p hp; exact Nat.lt_trans this (by first | k_extra "OM" | (first | lia | omega)))
    show wpAny _ _ (assign _ (ltEnv L') _) (fun _ s₂ => wpAny _ _ (execs lt1Body (ltEnv L')) _ _ s₂) _ _
    refine wpAny_mono (Q := fun _ s₂ => Marked (∃ h2 tk2 o2'', s₂ = { s with heap := h2, toks := tk2 } ∧ o2''.data = .cell (some (.str nm t)) ∧ Fr g L' h2 (mlt (some (.ref P2)) none none none none none) ∧
      News g L' h2 ((I, io) :: (P2, listOf pv2 pc2) :: (L' + 1 + 1 + 1, o1) :: (L' + 1 + 1, o2'') :: (L' + 1, o3) :: (D, oD) :: big))) ?_ (fun _ s₂ hh => ?_) (fun _ _ h => h)
    · k_steps
      rename News _ _ _ _ => N5
      rename Fr _ _ _ _ => F5
      exact ⟨_, _, _, rfl, by first | assumption | rfl, F5, N5⟩
    · obtain ⟨h2, tk2, o2'', rfl, c2'', F5, N5⟩ := hh
      have hb9 : pagesOf (bk.take (k + 1)) = pageAdd (pagesOf (bk.take k)) (nm, row) := by
        unfold pagesOf
        rw [List.take_add_one, hbk9, List.foldl_append]
        rfl
      refine lt1_turn (row := row) hp' (hpz k (Nat.le_of_lt hklt)) (hpl k (Nat.le_of_lt hklt)) (hrl _ (List.mem_of_getElem? hbk9)) hd9 (hat k nm _ hkv) h1 hPL' hbig c2'' c3 Y' F5 N5 fun P3 pv3 pc3 h3 tk3 hp3 hlt3 F6 N6 => ?_
      refine ⟨_, _, _, _, rfl, F6, N6, fun p hp q hq => ?_, P3, pv3, pc3, o2'', _, c2'', ?_, hlt3 (L' + 1 + 1 + 1, o1) (by first | k_extra "MEM" | simp)⟩
      · rw [List.mem_singleton.mp hq]
        have hIP3 : I < P3 := hlt3 (I, io) (by first | k_extra "MEM" | simp)
        revert p hp
        refine allP_cons ?_ (allP_cons ?_ (allP_cons ?_ (allP_cons ?_ (allP_cons ?_ (fun p hp => ?_)))))
        · exact Nat.ne_of_gt hIP3
        · exact hni (L' + 1 + 1 + 1, o1) (by first | k_extra "MEM" | simp)
        · exact hni (L' + 1 + 1, o2') (by first | k_extra "MEM" | simp)
        · exact hni (L' + 1, o3) (by first | k_extra "MEM" | simp)
        · exact hni (D, oD) (by first | k_extra "MEM" | simp)
        · exact hni p (by first | (have hzz := hp; k_extra "MEM") | simp [hp])
      · rw [hb9]; exact hp3
  · rintro h tk m' news' F4 N4 ⟨P2, pv2, pc2, o2', cv', c2', hp', hPL'⟩
    rw [← hbk.len, List.take_length] at hp'
    refine wpAny_execs_nil ?_
    exact hq _ _ _ _ _ _ _ c2' hp' hPL' F4 N4
end
end
section
open PySem PySem.W PySem.Calls PyProof.Rows PyProof.Rows.LCg
set_option maxHeartbeats 4000000
set_option tactic.hygienic false
/-- what is left to show when a comprehension's list is stored in the local y -/
noncomputable def AssignQ (h₀ : Heap) (L : Addr) (m : Str → Option Value) (y : Str) (QF : Flow → Shared → Prop) (acc : Value) (s₁ : Shared) : Prop :=
  ∃ nw, Fr h₀ L s₁.heap m ∧ News h₀ L s₁.heap nw ∧ ∀ h' tk', Fr h₀ L h' (fun z => if z = y then some acc else m z) → News h₀ L h' nw → QF .next { s₁ with heap := h', toks := tk' }
section
variable {prog : Program} {w : World} {A : Around} {E : Value → Shared → Prop} {s : Shared} {env : Env} {h₀ : Heap} {m : Str → Option Value} {x y : Str} {QF : Flow → Shared → Prop} {elt iter : PySem.Expr} {ifs : List PySem.Expr} {px py pos spos : Pos} {scope : Scope} {cl : List (Str × Addr)}
theorem compPost_use {acc : Value} {C : Addr} {r : Result} {s' : Shared} (hy : env.kindOf y = some .local) (hp : (env.scope.kind == .class || (env.scope.kind == .module && env.locals != env.globals)) = false)
    (h : compPost (model prog w) A E none (AssignQ h₀ env.locals m y QF) acc C r s') : compPost (model prog w) A E (some (assign (.Name y py) env)) (fun _ s₁ => QF .next s₁) acc C r s' := by
  cases r with
  | error e => exact h
  | ok f =>
    obtain ⟨mC, hnC, H⟩ := h
    show wpAny _ A (assign (.Name y py) env acc) _ _ _
    obtain ⟨nw0, F0, N0, k0⟩ := H _ (Heap.SameBut.refl _ _)
    have hLC : env.locals ≠ C := by
      intro e
      obtain ⟨oC, _, _, hoC, _⟩ := hnC
      obtain ⟨nw1, F1, N1, k1⟩ := H _ (Heap.SameBut.update s'.heap C fun _ => { cls := .type "object", data := .plain })
      obtain ⟨o1, es, ep, ho1, hd1, _⟩ := F1.ns
      have := Heap.get?_update_self (fun _ => ({ cls := .type "object", data := .plain } : Obj)) hoC rfl
      rw [e] at ho1
      dsimp only at ho1
      rw [this] at ho1
      injection ho1 with ho1
      rw [← ho1] at hd1
      cases hd1
    refine wpAny_assign_Name (wpAny_storeName_local hy F0.ns (fun h₂ hn₂ hs₂ => ?_) hp)
    refine ⟨mC, hnC.sameBut hs₂ (Ne.symm hLC), fun h' hs₃ => ?_⟩
    have hCs : C < h'.objs.size := by rw [hs₃.1, hs₂.1]; exact hnC.lt
    obtain ⟨oC, _, _, hoC, _⟩ := hnC
    obtain ⟨nw, F2, N2, k⟩ := H _ (Heap.SameBut.update s'.heap C fun _ => h'.objs[C])
    have eC : (s'.heap.update C fun _ => h'.objs[C]).get? C = h'.get? C := by
      have hraw : (s'.heap.update C fun _ => h'.objs[C]).objs[C]? = h'.objs[C]? := by
        have h1 := (Heap.get?_some_iff.mp hoC).1
        have h2 : h'.objs[C]? = some h'.objs[C] := Array.getElem?_eq_getElem hCs
        rw [h2]
        generalize h'.objs[C] = raw
        generalize s'.heap = hh at h1
        cases hh
        simp only [Heap.update, Array.getElem?_modify, if_true]
        simp only at h1
        rw [h1]
        rfl
      apply Option.ext
      intro o
      show _ = some o ↔ _ = some o
      rw [Heap.get?_some_iff, Heap.get?_some_iff, hraw]
    have eq9 : ∀ b, b ≠ env.locals → h'.get? b = (s'.heap.update C fun _ => h'.objs[C]).get? b := fun b hb => by
      by_cases hbC : b = C
      · rw [hbC, eC]
      · rw [Heap.get?_update_other _ _ (Ne.symm hbC), hs₃.2 b hbC, hs₂.2 b hb]
    refine k _ _ ⟨hn₂.sameBut hs₃ hLC, fun b o e => ?_, F0.above⟩ fun p hp => ⟨?_, (N2 p hp).2⟩
    · rw [eq9 b (fun q => by rw [q] at e; exact absurd (Heap.lt_size e) (Nat.not_lt.mpr F0.above))]
      exact F2.keep b o e
    · rw [eq9 _ (N2 p hp).2.1]
      exact (N2 p hp).1
theorem CompAt.mono {e : PySem.Expr} {Q : Value → Shared → Prop} {it : Value} {s₂ : Shared} {use : Value → Sem Unit} {Q' : Value → Shared → Prop} (hm : ∀ acc C r s', compPost (model prog w) A E none Q acc C r s' → compPost (model prog w) A E (some use) Q' acc C r s') (h : CompAt prog w A E env e scope cl Q it s₂) :
    wpAny (model prog w) A (newList []) (fun acc s₃ => wpAny (model prog w) A (newFunctionEnv scope env.globals cl [] env.qual none .none (some env)) (fun cenv s₄ =>
    codeAny (model prog w) A (.compStart e 0 it acc { cenv with scope := relabel scope env }) (compPost (model prog w) A E (some use) Q' acc cenv.locals) s₄) E s₃) E s₂ :=
  wpAny_mono h (fun acc s₃ h₃ => wpAny_mono h₃ (fun cenv s₄ h₄ => codeAny_mono h₄ fun r s' hh => hm _ _ _ _ hh) fun _ _ e => e) fun _ _ e => e
theorem assign_comp (hsw : swapsWith (.ListComp elt [⟨.Name x px, iter, ifs, 0⟩] scope pos) (some (.Name y py)) spos.line env = pure true) (hclos : closureFor scope env = pure cl) (hkind : scope.kind = .function)
    (hnames : ∀ z ∈ scope.names, z.2 = .local → scope.names.lookup z.1 = some .local) (hy : env.kindOf y = some .local) (hp : (env.scope.kind == .class || (env.scope.kind == .module && env.locals != env.globals)) = false) (F : Fr h₀ env.locals s.heap m)
    (h : wpAny (model prog w) A (eval iter env) (fun xv s₁ => wpAny (model prog w) A (pyIter xv) (fun it s₂ => CompAt prog w A E env (.ListComp elt [⟨.Name x px, iter, ifs, 0⟩] scope pos) scope cl (AssignQ h₀ env.locals m y QF) it s₂) E s₁) E s)
    (hs : ∀ x, foldedSetIterable iter env x = pure x := by intro _; rfl) :
    wpAny (model prog w) A (exec (.Assign [.Name y py] (.ListComp elt [⟨.Name x px, iter, ifs, 0⟩] scope pos) spos) env) QF E s := by
  rw [exec_Assign_Name_used _ _ _ _ hsw]
  refine wpAny_bind (wpAny_standAt (wpAny_bind ?_))
  show wpAny _ A (do let _ ← comprehension (.ListComp elt [⟨.Name x px, iter, ifs, 0⟩] scope pos) scope env _ (newList []) false (eval iter env) (some (assign (.Name y py) env))) _ _ s
  refine wpAny_bind (wpAny_mono (wpAny_comprehension_free (use := some (assign (.Name y py) env)) (Q := fun _ s' => QF .next s') rfl hs hclos hkind hnames
    (wpAny_mono h (fun xv s₁ h₁ => wpAny_mono h₁ (fun it s₂ h₂ => h₂.mono fun acc C r s' hh => compPost_use hy hp hh) fun _ _ e => e) fun _ _ e => e)) (fun _ s' hq => wpAny_pure (wpAny_pure hq)) fun _ _ e => e)
end
end
section
open PySem PySem.W PySem.Calls PyProof.Rows PyProof.Rows.LCg
set_option maxHeartbeats 4000000
set_option tactic.hygienic false
section
variable {prog : Program} {w : World} {A : Around} {E : Value → Shared → Prop} {s s₂ : Shared} {env : Env} {h₀ : Heap} {L : Addr} {x : Str} {m : Str → Option Value} {news : List (Addr × Obj)} {Q : Value → Shared → Prop} {elt ct iter : PySem.Expr} {px pos : Pos} {scope : Scope} {cl : List (Str × Addr)}
theorem newEnv_cell1 {Qe : Env → Shared → Prop} (hcf : ∀ n acc, cellsFrom n scope.names acc = (x, n) :: acc) (hpc : ∀ h : Heap, pushCells h scope.names = h.push { cls := .type "cell", data := .cell none })
    (h : Qe { scope := scope, locals := s.heap.objs.size, globals := env.globals, cells := (x, s.heap.objs.size + 1) :: cl, qual := env.qual, func := none, code := env.code, frame := env.frame, builtins := env.builtins }
      { s with heap := (s.heap.push { cls := .type "dict", data := .dict #[] }).push { cls := .type "cell", data := .cell none } }) :
    wpAny (model prog w) A (newFunctionEnv scope env.globals cl [] env.qual none .none (some env)) Qe E s := by
  simp only [newFunctionEnv, Option.isSome_some, if_true]
  refine wpAny_bind (wpAny_alloc ?_)
  refine wpAny_bind (wpAny_layCells _ (fun name kind cells => by cases hkc : kind == NameKind.cell <;> simp [hkc]) _ _ _ _ ?_)
  rw [hcf, hpc]
  rw [show ({ s with heap := s.heap.push { cls := .type "dict", data := .dict #[] } } : Shared).heap.objs.size = s.heap.objs.size + 1 from Heap.size_push ..]
  refine wpAny_bind ?_
  rw [List.forIn_nil]
  exact wpAny_pure (wpAny_pure h)
inductive CInvC (h₀ : Heap) (L : Addr) (m : Str → Option Value) (s₂ : Shared) (n D C K I : Nat) (St : Nat → Heap → Prop) (J : Nat → List Value → List (Addr × Obj) → Prop) (k : Nat) : Shared → Prop
  | mk (h' : Heap) (tk : Nat) (d : Drawn) (i : Nat) (ys : List Value) (m' : Str → Option Value) (cv : Option Value) (nw : List (Addr × Obj)) (hi : i ≤ n) (hk : k = n + 1 - i) (hst : St i h') (F' : Fr h₀ L h' m) (hn' : h'.Ns C m') (hc' : h'.IsCell K cv) (N' : News h₀ L h' ((D, lst ys) :: nw)) (off' : ∀ p ∈ nw, p.1 ≠ I ∧ p.1 ≠ C ∧ p.1 ≠ K ∧ p.1 ≠ D) (hj : J i ys nw) : CInvC h₀ L m s₂ n D C K I St J k { s₂ with heap := h', toks := tk, drawn := d }
theorem comp_invC {n : Nat} {I : Nat} {fp : List Addr} {P : Nat → Value → Prop} {St : Nat → Heap → Prop} (J : Nat → List Value → List (Addr × Obj) → Prop)
    (W : Walks prog w A I fp [I] n P St) (hn : n ≤ 1000) (hIo : ∀ i h, St i h → ∃ o, h.get? I = some o)
    (hSt : ∀ i ys nw h h' o, J i ys nw → St i h → h.get? I = some o → h'.get? I = some o → (∀ b o, h₀.get? b = some o → h'.get? b = some o) → News h₀ L h' nw → St i h')
    (hcf : ∀ n acc, cellsFrom n scope.names acc = (x, n) :: acc) (hpc : ∀ h : Heap, pushCells h scope.names = h.push { cls := .type "cell", data := .cell none }) (hkind : scope.kind = .function) (hkx : ∀ cl' C, (compEnvC scope cl' C env).kindOf x = some .cell) (hst : St 0 s₂.heap) (hfp : ∀ b ∈ fp, b < s₂.heap.objs.size)
    (F : Fr h₀ L s₂.heap m) (N : News h₀ L s₂.heap news) (hIL : L ≠ I) (hI₀ : h₀.get? I = none) (off : ∀ p ∈ news, p.1 ≠ I) (hJ : J 0 [] news) (hJz : ∀ i ys nw, J i ys nw → ys.length ≤ i)
    (turn : ∀ i v ys nw (C K D : Nat) oI oC oK m₂ h tk d, i < n → P i v → J i ys nw → NsObj oC m₂ → oK.data = .cell (some v) → Fr h₀ L h m → News h₀ L h ((I, oI) :: (C, oC) :: (K, oK) :: (D, lst ys) :: nw) → (∀ p ∈ nw, p.1 ≠ I ∧ p.1 ≠ C ∧ p.1 ≠ K ∧ p.1 ≠ D) → I < D → D < C → C < K → (∀ p ∈ news, p.1 < D) →
      wpAny (model prog w) A (isTrue ct (compEnvC scope ((x, K) :: cl) C env) (eval ct (compEnvC scope ((x, K) :: cl) C env))) (fun ok s' => if ok = true then
        wpAny (model prog w) A (eval elt (compEnvC scope ((x, K) :: cl) C env)) (CEnd h₀ L m [(I, oI), (C, oC), (K, oK), (D, lst ys)] (fun y nw' => J (i + 1) (ys ++ [y]) nw') { s₂ with heap := h, toks := tk, drawn := d }) (fun _ _ => False) s'
        else CEnd h₀ L m [(I, oI), (C, oC), (K, oK), (D, lst ys)] (fun _ nw' => J (i + 1) ys nw') { s₂ with heap := h, toks := tk, drawn := d } .none s') (fun _ _ => False) { s₂ with heap := h, toks := tk, drawn := d })
    (done : ∀ (D : Nat) h tk d nw ys, Fr h₀ L h m → News h₀ L h ((D, lst ys) :: nw) → (∀ p ∈ nw, p.1 ≠ D) → (∀ p ∈ news, p.1 < D) → J n ys nw → Q (.ref D) { s₂ with heap := h, toks := tk, drawn := d }) :
    CompAt prog w A E env (.ListComp elt [⟨.Name x px, iter, [ct], 0⟩] scope pos) scope cl Q (.ref I) s₂ := by
  unfold CompAt
  refine wpAny_newObj_type (newEnv_cell1 hcf hpc ?_)
  try dsimp only
  generalize hH2 : s₂.heap.push { cls := .type "list", dict := none, data := .seq ([] : List Value).toArray } = H2
  have hC : H2.objs.size = s₂.heap.objs.size + 1 := by rw [← hH2, Heap.size_push]
  have hD0 : s₂.heap.objs.size < H2.objs.size := by rw [hC]; exact Nat.lt_succ_self _
  generalize hh1 : (H2.push { cls := .type "dict", data := .dict #[] }).push { cls := .type "cell", data := .cell none } = h₁
  have up2 : ∀ b o, H2.get? b = some o → h₁.get? b = some o := fun b o e => by
    rw [← hh1]; exact Heap.get?_push_of_some _ (Heap.get?_push_of_some _ e)
  have hns₁ : h₁.Ns H2.objs.size fun _ => none := by
    rw [← hh1]
    exact (Heap.Ns.new H2 (.type "dict")).keeps fun b o e => Heap.get?_push_of_some _ e
  have hcl₁ : h₁.IsCell (H2.objs.size + 1) none := by
    rw [← hh1, ← Heap.size_push H2 { cls := .type "dict", data := .dict #[] }]
    exact ⟨_, Heap.get?_push_size _ rfl, rfl⟩
  have old : ∀ b o, s₂.heap.get? b = some o → h₁.get? b = some o := fun b o e => up2 _ _ (by rw [← hH2]; exact Heap.get?_push_of_some _ e)
  have hacc : h₁.get? s₂.heap.objs.size = some (lst []) := up2 _ _ (by rw [← hH2]; exact Heap.get?_push_size _ rfl)
  generalize hCe : H2.objs.size = C at *
  generalize hDe : s₂.heap.objs.size = D at *
  have hCK : C < C + 1 := Nat.lt_succ_self _
  generalize C + 1 = K at *
  have hDK : D < K := Nat.lt_trans hD0 hCK
  have hIlt : I < D := hfp I (W.sub I (List.mem_singleton.mpr rfl))
  have hNlt : ∀ p ∈ news, p.1 < D := fun p hp => by rw [← hDe]; exact Heap.lt_size (N p hp).1
  have fresh₀ : ∀ a, D ≤ a → h₀.get? a = none := fun a ha => by
    cases e : h₀.get? a with
    | none => rfl
    | some o' => exact absurd (Heap.lt_size (F.keep a o' e)) (Nat.not_lt.mpr (by rw [hDe]; exact ha))
  have hLlt : L < D := by rw [← hDe]; exact F.ns.lt
  have hst₁ : St 0 h₁ := W.frame _ _ _ hst fun b _ o e => old b o e
  have loop : ∀ s₃ : Shared, s₃ = { s₂ with heap := h₁ } →
      codeAny (model prog w) A (.compLoop (.ListComp elt [⟨.Name x px, iter, [ct], 0⟩] scope pos) 0 (.ref I) (.ref D) (compEnvC scope ((x, K) :: cl) C env)) (compPost (model prog w) A E none Q (.ref D) C) s₃ := by
    rintro s₃ rfl
    refine codeAny_compLoop_tests
      (CInvC h₀ L m s₂ n D C K I St J) ?_ (n + 1)
      ⟨h₁, s₂.toks, s₂.drawn, 0, [], _, _, news, Nat.zero_le _, rfl, hst₁, F.keeps old, hns₁, hcl₁, fun p hp => ?_, fun p hp => ?_, hJ⟩
    · rintro k s' ⟨h', tk, d, i, ys, m', cv, nw, hi, rfl, hst', F', hn', hc', N', off', hj⟩
      have hCI : C ≠ I := Nat.ne_of_gt (Nat.lt_trans hIlt hD0)
      have hKI : K ≠ I := Nat.ne_of_gt (Nat.lt_trans hIlt hDK)
      by_cases hlt : i < n
      · refine W.item i _ _ _ hlt hst' fun v h₂ tk₂ hPv hst₂ hk₂ => ?_
        have hc2 : h₂.IsCell K cv := by
          obtain ⟨o, ho, hd⟩ := hc'
          exact ⟨o, hk₂ _ o (by simpa using hKI) ho, hd⟩
        refine wpAny_assign_Name (wpAny_storeName_cell (by simp [compEnvC, relabel, hkind]) (hkx _ _) (by simp [compEnvC]) hc2 fun h₃ hc₃ hs₃ => ?_)
        refine wpAny_tests_one ?_
        have hst₃ : St (i + 1) h₃ := W.frame _ _ _ hst₂ fun b hb o e => hs₃.extBut b o (fun q => by
          have q' : b = K := q
          have := hfp b hb
          rw [q'] at this
          exact absurd this (Nat.not_lt.mpr (Nat.le_of_lt hDK))) e
        obtain ⟨oI, heI⟩ := hIo _ _ hst₃
        have hn2 : h₂.Ns C m' := hn'.at' fun o e => hk₂ _ o (by simpa using hCI) e
        obtain ⟨oC, heC, hoC⟩ := ns_obj (hn2.sameBut hs₃ (Nat.ne_of_lt hCK))
        obtain ⟨oK, heK, hoK⟩ := hc₃
        have F₃ : Fr h₀ L h₃ m := (fr_but F' hk₂ hIL hI₀).change hs₃ (Nat.ne_of_gt (Nat.lt_trans hLlt hDK)) (fresh₀ _ (Nat.le_of_lt hDK))
        have N₂ : News h₀ L h₂ ((D, lst ys) :: nw) := news_but N' hk₂ fun p hp => by
          rcases List.mem_cons.mp hp with rfl | hp
          · exact Nat.ne_of_gt hIlt
          · exact (off' p hp).1
        have N₃ : News h₀ L h₃ ((I, oI) :: (C, oC) :: (K, oK) :: (D, lst ys) :: nw) := fun p hp => by
          rcases List.mem_cons.mp hp with rfl | hp
          · exact ⟨heI, Ne.symm hIL, hI₀⟩
          · rcases List.mem_cons.mp hp with rfl | hp
            · exact ⟨heC, Nat.ne_of_gt (Nat.lt_trans hLlt hD0), fresh₀ _ (Nat.le_of_lt hD0)⟩
            · rcases List.mem_cons.mp hp with rfl | hp
              · exact ⟨heK, Nat.ne_of_gt (Nat.lt_trans hLlt hDK), fresh₀ _ (Nat.le_of_lt hDK)⟩
              · have z := N₂ p hp
                refine ⟨hs₃.extBut _ _ ?_ z.1, z.2⟩
                rcases List.mem_cons.mp hp with rfl | hp
                · exact Nat.ne_of_lt hDK
                · exact (off' p hp).2.2.1
        have E0 : ∀ {R' : Value → Shared → Prop} (e : Value) (s' : Shared), (fun _ _ => False : Value → Shared → Prop) e s' → R' e s' := fun _ _ h => h.elim
        refine wpAny_mono (turn i v ys nw C K D oI oC oK _ h₃ _ d hlt hPv hj hoC hoK F₃ N₃ off' hIlt hD0 hCK hNlt) (fun ok s₄ h₄ => ?_) E0
        cases ok with
        | true =>
          simp only [if_true] at h₄ ⊢
          refine wpAny_mono h₄ (fun y s₅ h₅ => ?_) E0
          obtain ⟨h₄, tk₄, d₄, nw₄, rfl, F₄, N₄, off₄, hj₄⟩ := h₅
          have zI := (N₄ (I, oI) (by first | k_extra "MEM" | simp)).1
          have zC := (N₄ (C, oC) (by first | k_extra "MEM" | simp)).1
          have zK := (N₄ (K, oK) (by first | k_extra "MEM" | simp)).1
          have zD := (N₄ (D, lst ys) (by first | k_extra "MEM" | simp)).1
          have N₄' : News h₀ L h₄ nw₄ := fun p hp => N₄ p (List.mem_append_right _ hp)
          have hst₄ : St (i + 1) h₄ := hSt _ _ _ _ _ _ hj₄ hst₃ heI zI F₄.keep N₄'
          have hyz := hJz i ys nw hj
          refine append_at (hsz := by show ys.toArray.size ≤ sizeLine; rw [List.size_toArray, sizeLine_eq]; (first | lia | omega)) zD fun h₅ hs₅ hD₅ => ?_
          have offD : ∀ p ∈ nw₄, p.1 ≠ D := fun p hp => off₄ p hp (D, lst ys) (by first | k_extra "MEM" | simp)
          refine ⟨n + 1 - (i + 1), by first | exact sub_step (by assumption) | lia | omega, h₅, tk₄, d₄, i + 1, ys ++ [y], _, _, nw₄, hlt, rfl, W.frame _ _ _ hst₄ fun b hb o e => hs₅.extBut b o (fun q => by
              have q' : b = D := q
              have := hfp b hb
              rw [q'] at this
              exact absurd this (Nat.lt_irrefl _)) e, F₄.change hs₅ (Nat.ne_of_gt hLlt) (fresh₀ _ (Nat.le_refl _)),
            (hoC.ns zC).sameBut hs₅ (Nat.ne_of_gt hD0), ⟨oK, hs₅.extBut _ _ (Nat.ne_of_gt hDK) zK, hoK⟩, fun p hp => ?_, fun p hp => ⟨off₄ p hp (I, oI) (by first | k_extra "MEM" | simp), off₄ p hp (C, oC) (by first | k_extra "MEM" | simp), off₄ p hp (K, oK) (by first | k_extra "MEM" | simp), offD p hp⟩, hj₄⟩
          rcases List.mem_cons.mp hp with rfl | hp
          · exact ⟨hD₅.trans (congrArg some (lst_snoc ys y)), Nat.ne_of_gt hLlt, fresh₀ _ (Nat.le_refl _)⟩
          · exact ⟨hs₅.extBut _ _ (offD p hp) (N₄' p hp).1, (N₄' p hp).2⟩
        | false =>
          simp only [Bool.false_eq_true, if_false] at h₄ ⊢
          obtain ⟨h₄, tk₄, d₄, nw₄, rfl, F₄, N₄, off₄, hj₄⟩ := h₄
          have zI := (N₄ (I, oI) (by first | k_extra "MEM" | simp)).1
          have zC := (N₄ (C, oC) (by first | k_extra "MEM" | simp)).1
          have zK := (N₄ (K, oK) (by first | k_extra "MEM" | simp)).1
          have zD := (N₄ (D, lst ys) (by first | k_extra "MEM" | simp))
          have N₄' : News h₀ L h₄ nw₄ := fun p hp => N₄ p (List.mem_append_right _ hp)
          have hst₄ : St (i + 1) h₄ := hSt _ _ _ _ _ _ hj₄ hst₃ heI zI F₄.keep N₄'
          refine ⟨n + 1 - (i + 1), by first | exact sub_step (by assumption) | lia | omega, h₄, tk₄, d₄, i + 1, ys, _, _, nw₄, hlt, rfl, hst₄, F₄, hoC.ns zC, ⟨oK, zK, hoK⟩, fun p hp => ?_, fun p hp => ⟨off₄ p hp (I, oI) (by first | k_extra "MEM" | simp), off₄ p hp (C, oC) (by first | k_extra "MEM" | simp), off₄ p hp (K, oK) (by first | k_extra "MEM" | simp), off₄ p hp (D, lst ys) (by first | k_extra "MEM" | simp)⟩, hj₄⟩
          rcases List.mem_cons.mp hp with rfl | hp
          · exact zD
          · exact N₄' p hp
      · obtain rfl : i = n := Nat.le_antisymm hi (Nat.not_lt.mp hlt)
        refine W.done _ _ _ hst' fun h₂ tk₂ hk₂ => ?_
        have F₂ : Fr h₀ L h₂ m := fr_but F' hk₂ hIL hI₀
        have N₂ : News h₀ L h₂ ((D, lst ys) :: nw) := news_but N' hk₂ fun p hp => by
          rcases List.mem_cons.mp hp with rfl | hp
          · exact Nat.ne_of_gt hIlt
          · exact (off' p hp).1
        refine ⟨m', hn'.at' fun o e => hk₂ _ o (by simpa using hCI) e, fun h'' hs'' => done D h'' tk₂ d nw ys (F₂.change hs'' (Nat.ne_of_gt (Nat.lt_trans hLlt hD0)) (fresh₀ _ (Nat.le_of_lt hD0))) (fun p hp => ⟨hs''.extBut _ _ ?_ (N₂ p hp).1, (N₂ p hp).2⟩) (fun p hp => (off' p hp).2.2.2) hNlt hj⟩
        rcases List.mem_cons.mp hp with rfl | hp
        · exact Nat.ne_of_lt hD0
        · exact (off' p hp).2.1
    · rcases List.mem_cons.mp hp with rfl | hp
      · exact ⟨hacc, Nat.ne_of_gt hLlt, fresh₀ _ (Nat.le_refl _)⟩
      · exact ⟨old _ _ (N p hp).1, (N p hp).2⟩
    · exact ⟨off p hp, Nat.ne_of_lt (Nat.lt_trans (hNlt p hp) hD0), Nat.ne_of_lt (Nat.lt_trans (hNlt p hp) hDK), Nat.ne_of_lt (hNlt p hp)⟩
  exact codeAny_compStart_list (loop _ rfl) (W.self 0 _ _ _ hst₁ (loop _ rfl))
end
end
section
open PySem PySem.W PySem.Calls PyProof.Rows PyProof.Rows.LCg
set_option maxHeartbeats 4000000
set_option tactic.hygienic false
noncomputable def GEnd (L : Addr) (own : List (Addr × Obj)) (J : Heap → (Str → Option Value) → List (Addr × Obj) → Prop) (s₁ s₂ : Shared) : Prop :=
  ∃ g h' tk d m' news', s₂ = { s₁ with heap := h', toks := tk, drawn := d } ∧ Fr g L h' m' ∧ News g L h' (own ++ news') ∧ (∀ p ∈ news', ∀ q ∈ own, p.1 ≠ q.1) ∧ J g m' news'
noncomputable def GPost (L : Addr) (own : List (Addr × Obj)) (J : Heap → (Str → Option Value) → List (Addr × Obj) → Prop) (s₁ : Shared) (Q : Flow → Shared → Prop) (f : Flow) (s₂ : Shared) : Prop :=
  match f with
  | .ret v => Q (.ret v) s₂
  | .brk => Q .next s₂
  | _ => GEnd L own J s₁ s₂
section
variable {prog : Program} {w : World} {A : Around} {E : Value → Shared → Prop} {s : Shared} {env : Env} {h₀ : Heap} {m₀ : Str → Option Value} {news : List (Addr × Obj)} {Q : Flow → Shared → Prop} {body : List Stmt}
/-- a for loop over a list of the ledger, in which the ground may change -/
inductive LInv (s : Shared) (I l : Nat) (L : Addr) (n : Nat) (J : Nat → Heap → (Str → Option Value) → List (Addr × Obj) → Prop) (kk : Nat) : Shared → Prop
  | mk (g hp : Heap) (tk : Nat) (d : Drawn) (m' : Str → Option Value) (news' : List (Addr × Obj)) (i : Nat) (hit : hp.IsListIter I l i) (hI₀ : g.get? I = none) (F' : Fr g L hp m') (N' : News g L hp news') (hd' : ∀ p ∈ news', p.1 ≠ I) (hj : J i g m' news') (hi : i ≤ n) (hk : kk = n + 1 - i) : LInv s I l L n J kk { s with heap := hp, toks := tk, drawn := d }
theorem listg_inv {l : Nat} {vs : Array Value} {c : Nat} {x : Str} {px : Pos} (J : Nat → Heap → (Str → Option Value) → List (Addr × Obj) → Prop) (hh : A.handled = none) (hx : env.kindOf x = some .local) (hp : (env.scope.kind == .class || (env.scope.kind == .module && env.locals != env.globals)) = false)
    (F : Fr h₀ env.locals s.heap m₀) (N : News h₀ env.locals s.heap news) (hm : (l, listOf vs c) ∈ news) (h0 : J 0 h₀ m₀ news)
    (hJ : ∀ i g m₁ news₁, J i g m₁ news₁ → (l, listOf vs c) ∈ news₁) (hE : PassesOwn (model prog w) A env E)
    (turn : ∀ i v g m₁ news₁ h tk d (I : Nat) io, vs[i]? = some v → J i g m₁ news₁ → (∀ p ∈ news₁, p.1 ≠ I) → (∀ p ∈ news, p.1 < I) → Fr g env.locals h (fun y => if y = x then some v else m₁ y) → News g env.locals h ((I, io) :: news₁) →
      wpAny (model prog w) A (execs body env) (GPost env.locals [(I, io)] (J (i + 1)) { s with heap := h, toks := tk, drawn := d } Q) E { s with heap := h, toks := tk, drawn := d })
    (done : ∀ g h tk d m' news', Fr g env.locals h m' → News g env.locals h news' → J vs.size g m' news' → Q .next { s with heap := h, toks := tk, drawn := d }) :
    wpAny (model prog w) A (pyIter (.ref l)) (fun it s₂ => EnumAt prog w A env (.Name x px) body Q E it s₂) E s := by
  have hl : s.heap.IsList l vs := ⟨_, (N _ hm).1, rfl, c, rfl⟩
  have hlt : ∀ p ∈ news, p.1 < s.heap.objs.size := fun p hp => Heap.lt_size (N p hp).1
  have hne : (l : Addr) ≠ s.heap.objs.size := Nat.ne_of_lt (hlt _ hm)
  refine wpAny_pyIter_list hl ?_
  have W := Walks.list (prog := prog) (w := w) hh s.heap.objs.size l hne vs
  unfold EnumAt
  have hLI : env.locals ≠ s.heap.objs.size := Nat.ne_of_lt F.ns.lt
  refine codeAny_forLoop_any (LInv s s.heap.objs.size l env.locals vs.size J) ?_ (vs.size + 1) ⟨h₀, s.heap.push _, s.toks, s.drawn, m₀, news, 0, ⟨_, Heap.get?_push_size _ rfl, rfl, rfl⟩, next_is_new F, F.push _, fun p hp => ⟨Heap.get?_push_of_some _ (N p hp).1, (N p hp).2⟩, fun p hp => Nat.ne_of_lt (hlt p hp), h0, Nat.zero_le _, rfl⟩
  rintro kk s' ⟨g, hp', tk, d, m', news', i, hit, hI₀, F', N', hd', hj, hi, rfl⟩
  have st : hp'.IsListIter s.heap.objs.size l i ∧ hp'.IsList l vs := ⟨hit, ⟨_, (N' _ (hJ _ _ _ _ hj)).1, rfl, c, rfl⟩⟩
  by_cases hlt' : i < vs.size
  · refine W.item i _ _ _ hlt' st fun v h₂ tk₂ hPv st₂ hk₂ => ?_
    refine wpAny_of_eq (by rfl) ?_
    have F₂ : Fr g env.locals h₂ m' := fr_but F' hk₂ hLI hI₀
    have N₂ : News g env.locals h₂ news' := news_but N' hk₂ hd'
    obtain ⟨io, hio, hr⟩ := st₂.1
    refine wpAny_assign_Name (wpAny_storeName_local hx F₂.ns (fun h₃ hn₃ hs₃ => ?_) hp)
    have hgL : g.get? env.locals = none := by
      cases e : g.get? env.locals with
      | none => rfl
      | some o => exact absurd (Heap.lt_size e) (Nat.not_lt.mpr F₂.above)
    have F₃ : Fr g env.locals h₃ (fun y => if y = x then some v else m' y) := ⟨hn₃, fun b o e => hs₃.extBut b o (fun q => by
      have q' : b = env.locals := q
      rw [q', hgL] at e; cases e) (F₂.keep b o e), F₂.above⟩
    have N₃ : News g env.locals h₃ ((s.heap.objs.size, io) :: news') := fun p hp => by
      rcases List.mem_cons.mp hp with rfl | hp
      · exact ⟨hs₃.extBut _ _ (Ne.symm hLI) hio, Ne.symm hLI, hI₀⟩
      · exact ⟨hs₃.extBut _ _ (N₂ p hp).2.1 (N₂ p hp).1, (N₂ p hp).2⟩
    refine wpAny_mono (wpAny_passesOwn hE (turn i v g m' news' h₃ _ d s.heap.objs.size io hPv hj hd' hlt F₃ N₃)) (fun f s₃ p => ?_) fun _ _ e => e
    have fin : GEnd env.locals [(s.heap.objs.size, io)] (J (i + 1)) { s with heap := h₃, toks := tk₂, drawn := d } s₃ → ∃ mm, mm < vs.size + 1 - i ∧ LInv s s.heap.objs.size l env.locals vs.size J mm s₃ := by
      rintro ⟨g4, h4, tk4, d4, m4, news4, rfl, F4, N4, hd4, hj4⟩
      exact ⟨vs.size + 1 - (i + 1), by first | exact sub_step (by assumption) | lia | omega, g4, h4, tk4, d4, m4, news4, i + 1, ⟨io, (N4 _ (.head _)).1, hr⟩, (N4 _ (.head _)).2.2, F4, fun q hq => N4 q (List.mem_append_right _ hq), fun q hq => hd4 q hq _ (.head _), hj4, hlt', rfl⟩
    cases f with
    | ret v => exact p
    | brk => exact p
    | next => exact fin p
    | cont => exact fin p
  · obtain rfl : i = vs.size := by (first | lia | omega)
    refine W.done _ _ _ st fun h₂ tk₂ hk₂ => ?_
    refine wpAny_execs_nil ?_
    exact done g h₂ tk₂ d m' news' (fr_but F' hk₂ hLI hI₀) (news_but N' hk₂ hd') hj
end
end
section
open PySem PySem.W PySem.Calls PyProof.Rows PyProof.Rows.LCg
set_option maxHeartbeats 4000000
set_option tactic.hygienic false
section
variable {prog : Program} {w : World} {A : Around} {E : Value → Shared → Prop} {s : Shared} {env : Env} {h₀ : Heap} {L : Addr} {x : Str} {m : Str → Option Value} {news : List (Addr × Obj)} {Q : Value → Shared → Prop} {elt ct iter : PySem.Expr} {px pos : Pos} {scope : Scope} {cl : List (Str × Addr)}
theorem comp_listT {l : Nat} {vs : Array Value} {c : Nat} (J : Nat → List Value → List (Addr × Obj) → Prop) (hh : A.handled = none) (hz : vs.size ≤ 1000) (hcell : ∀ y ∈ scope.names, y.2 ≠ .cell) (hkind : scope.kind = .function) (hx : scope.names.lookup x = some .local)
    (F : Fr h₀ L s.heap m) (N : News h₀ L s.heap news) (hm : (l, listOf vs c) ∈ news) (hJ : J 0 [] news) (hJl : ∀ i ys nw, J i ys nw → (l, listOf vs c) ∈ nw) (hJz : ∀ i ys nw, J i ys nw → ys.length ≤ i)
    (turn : ∀ i v ys nw (I C D : Nat) oI oC m₂ h tk d, i < vs.size → vs[i]? = some v → J i ys nw → NsObj oC m₂ → m₂ x = some v → Fr h₀ L h m → News h₀ L h ((I, oI) :: (C, oC) :: (D, lst ys) :: nw) → (∀ p ∈ nw, p.1 ≠ I ∧ p.1 ≠ C ∧ p.1 ≠ D) → I < D → D < C → (∀ p ∈ news, p.1 < I) →
      wpAny (model prog w) A (isTrue ct (compEnvC scope cl C env) (eval ct (compEnvC scope cl C env))) (fun ok s' => if ok = true then
        wpAny (model prog w) A (eval elt (compEnvC scope cl C env)) (CEnd h₀ L m [(I, oI), (C, oC), (D, lst ys)] (fun y nw' => J (i + 1) (ys ++ [y]) nw') { s with heap := h, toks := tk, drawn := d }) (fun _ _ => False) s'
        else CEnd h₀ L m [(I, oI), (C, oC), (D, lst ys)] (fun _ nw' => J (i + 1) ys nw') { s with heap := h, toks := tk, drawn := d } .none s') (fun _ _ => False) { s with heap := h, toks := tk, drawn := d })
    (done : ∀ (D : Nat) h tk d nw ys, Fr h₀ L h m → News h₀ L h ((D, lst ys) :: nw) → (∀ p ∈ nw, p.1 ≠ D) → (∀ p ∈ news, p.1 < D) → J vs.size ys nw → Q (.ref D) { s with heap := h, toks := tk, drawn := d }) :
    wpAny (model prog w) A (pyIter (.ref l)) (fun it s₂ => CompAt prog w A E env (.ListComp elt [⟨.Name x px, iter, [ct], 0⟩] scope pos) scope cl Q it s₂) E s := by
  have hl : s.heap.IsList l vs := ⟨_, (N _ hm).1, rfl, c, rfl⟩
  have hlt : ∀ p ∈ news, p.1 < s.heap.objs.size := fun p hp => Heap.lt_size (N p hp).1
  have hne : (l : Addr) ≠ s.heap.objs.size := Nat.ne_of_lt (hlt _ hm)
  refine wpAny_pyIter_list hl ?_
  have W := Walks.list (prog := prog) (w := w) hh s.heap.objs.size l hne vs
  refine comp_inv (s₂ := { s with heap := s.heap.push _ }) J W hz (fun i h st => by obtain ⟨⟨o, ho, _⟩, _⟩ := st; exact ⟨o, ho⟩) (fun i ys nw h h' o hj st e e' hk N' => ?_) hcell hkind hx ⟨⟨_, Heap.get?_push_size _ rfl, rfl, rfl⟩, hl.at fun o e => Heap.get?_push_of_some _ e⟩ (fun b hb => ?_)
    (F.push _) (fun p hp => ⟨Heap.get?_push_of_some _ (N p hp).1, (N p hp).2⟩) (Nat.ne_of_lt F.ns.lt) (next_is_new F) (fun p hp => Nat.ne_of_lt (hlt p hp)) hJ hJz
    (fun i v ys nw C D oI oC m₂ h tk d hi hv hj hC hx' F' N' off h1 h2 h3 => turn i v ys nw s.heap.objs.size C D oI oC m₂ h tk d hi hv hj hC hx' F' N' off h1 h2 hlt) done
  · obtain ⟨⟨o1, ho1, r⟩, hl1⟩ := st
    rw [e] at ho1
    obtain rfl := Option.some.inj ho1
    exact ⟨⟨o, e', r⟩, ⟨_, (N' _ (hJl _ _ _ hj)).1, rfl, c, rfl⟩⟩
  · rw [Heap.size_push]
    revert b hb
    refine allP_cons ?_ (allP_cons ?_ allP_nil)
    · exact Nat.lt_succ_self _
    · exact Nat.lt_succ_of_lt (hlt _ hm)
theorem comp_tupT {l : Nat} {vs : Array Value} {c : Nat} (J : Nat → List Value → List (Addr × Obj) → Prop) (hh : A.handled = none) (hz : vs.size ≤ 1000) (hcell : ∀ y ∈ scope.names, y.2 ≠ .cell) (hkind : scope.kind = .function) (hx : scope.names.lookup x = some .local)
    (F : Fr h₀ L s.heap m) (N : News h₀ L s.heap news) (hm : (l, tupO vs c) ∈ news) (hJ : J 0 [] news) (hJl : ∀ i ys nw, J i ys nw → (l, tupO vs c) ∈ nw) (hJz : ∀ i ys nw, J i ys nw → ys.length ≤ i)
    (turn : ∀ i v ys nw (I C D : Nat) oI oC m₂ h tk d, i < vs.size → vs[i]? = some v → J i ys nw → NsObj oC m₂ → m₂ x = some v → Fr h₀ L h m → News h₀ L h ((I, oI) :: (C, oC) :: (D, lst ys) :: nw) → (∀ p ∈ nw, p.1 ≠ I ∧ p.1 ≠ C ∧ p.1 ≠ D) → I < D → D < C → (∀ p ∈ news, p.1 < I) →
      wpAny (model prog w) A (isTrue ct (compEnvC scope cl C env) (eval ct (compEnvC scope cl C env))) (fun ok s' => if ok = true then
        wpAny (model prog w) A (eval elt (compEnvC scope cl C env)) (CEnd h₀ L m [(I, oI), (C, oC), (D, lst ys)] (fun y nw' => J (i + 1) (ys ++ [y]) nw') { s with heap := h, toks := tk, drawn := d }) (fun _ _ => False) s'
        else CEnd h₀ L m [(I, oI), (C, oC), (D, lst ys)] (fun _ nw' => J (i + 1) ys nw') { s with heap := h, toks := tk, drawn := d } .none s') (fun _ _ => False) { s with heap := h, toks := tk, drawn := d })
    (done : ∀ (D : Nat) h tk d nw ys, Fr h₀ L h m → News h₀ L h ((D, lst ys) :: nw) → (∀ p ∈ nw, p.1 ≠ D) → (∀ p ∈ news, p.1 < D) → J vs.size ys nw → Q (.ref D) { s with heap := h, toks := tk, drawn := d }) :
    wpAny (model prog w) A (pyIter (.ref l)) (fun it s₂ => CompAt prog w A E env (.ListComp elt [⟨.Name x px, iter, [ct], 0⟩] scope pos) scope cl Q it s₂) E s := by
  have hl : s.heap.IsTuple l vs := ⟨_, (N _ hm).1, rfl, c, rfl⟩
  have hlt : ∀ p ∈ news, p.1 < s.heap.objs.size := fun p hp => Heap.lt_size (N p hp).1
  have hne : (l : Addr) ≠ s.heap.objs.size := Nat.ne_of_lt (hlt _ hm)
  refine wpAny_pyIter_tuple hl ?_
  have W := Walks.tuple (prog := prog) (w := w) hh s.heap.objs.size l hne vs
  refine comp_inv (s₂ := { s with heap := s.heap.push _ }) J W hz (fun i h st => by obtain ⟨⟨o, ho, _⟩, _⟩ := st; exact ⟨o, ho⟩) (fun i ys nw h h' o hj st e e' hk N' => ?_) hcell hkind hx ⟨⟨_, Heap.get?_push_size _ rfl, rfl, rfl⟩, hl.at fun o e => Heap.get?_push_of_some _ e⟩ (fun b hb => ?_)
    (F.push _) (fun p hp => ⟨Heap.get?_push_of_some _ (N p hp).1, (N p hp).2⟩) (Nat.ne_of_lt F.ns.lt) (next_is_new F) (fun p hp => Nat.ne_of_lt (hlt p hp)) hJ hJz
    (fun i v ys nw C D oI oC m₂ h tk d hi hv hj hC hx' F' N' off h1 h2 h3 => turn i v ys nw s.heap.objs.size C D oI oC m₂ h tk d hi hv hj hC hx' F' N' off h1 h2 hlt) done
  · obtain ⟨⟨o1, ho1, r⟩, hl1⟩ := st
    rw [e] at ho1
    obtain rfl := Option.some.inj ho1
    exact ⟨⟨o, e', r⟩, ⟨_, (N' _ (hJl _ _ _ hj)).1, rfl, c, rfl⟩⟩
  · rw [Heap.size_push]
    revert b hb
    refine allP_cons ?_ (allP_cons ?_ allP_nil)
    · exact Nat.lt_succ_self _
    · exact Nat.lt_succ_of_lt (hlt _ hm)
theorem comp_listC {l : Nat} {vs : Array Value} {c : Nat} (J : Nat → List Value → List (Addr × Obj) → Prop) (hh : A.handled = none) (hz : vs.size ≤ 1000) (hcf : ∀ n acc, cellsFrom n scope.names acc = (x, n) :: acc) (hpc : ∀ h : Heap, pushCells h scope.names = h.push { cls := .type "cell", data := .cell none }) (hkind : scope.kind = .function) (hkx : ∀ cl' C, (compEnvC scope cl' C env).kindOf x = some .cell)
    (F : Fr h₀ L s.heap m) (N : News h₀ L s.heap news) (hm : (l, listOf vs c) ∈ news) (hJ : J 0 [] news) (hJl : ∀ i ys nw, J i ys nw → (l, listOf vs c) ∈ nw) (hJz : ∀ i ys nw, J i ys nw → ys.length ≤ i)
    (turn : ∀ i v ys nw (I C K D : Nat) oI oC oK m₂ h tk d, i < vs.size → vs[i]? = some v → J i ys nw → NsObj oC m₂ → oK.data = .cell (some v) → Fr h₀ L h m → News h₀ L h ((I, oI) :: (C, oC) :: (K, oK) :: (D, lst ys) :: nw) → (∀ p ∈ nw, p.1 ≠ I ∧ p.1 ≠ C ∧ p.1 ≠ K ∧ p.1 ≠ D) → I < D → D < C → C < K → (∀ p ∈ news, p.1 < I) →
      wpAny (model prog w) A (isTrue ct (compEnvC scope ((x, K) :: cl) C env) (eval ct (compEnvC scope ((x, K) :: cl) C env))) (fun ok s' => if ok = true then
        wpAny (model prog w) A (eval elt (compEnvC scope ((x, K) :: cl) C env)) (CEnd h₀ L m [(I, oI), (C, oC), (K, oK), (D, lst ys)] (fun y nw' => J (i + 1) (ys ++ [y]) nw') { s with heap := h, toks := tk, drawn := d }) (fun _ _ => False) s'
        else CEnd h₀ L m [(I, oI), (C, oC), (K, oK), (D, lst ys)] (fun _ nw' => J (i + 1) ys nw') { s with heap := h, toks := tk, drawn := d } .none s') (fun _ _ => False) { s with heap := h, toks := tk, drawn := d })
    (done : ∀ (D : Nat) h tk d nw ys, Fr h₀ L h m → News h₀ L h ((D, lst ys) :: nw) → (∀ p ∈ nw, p.1 ≠ D) → (∀ p ∈ news, p.1 < D) → J vs.size ys nw → Q (.ref D) { s with heap := h, toks := tk, drawn := d }) :
    wpAny (model prog w) A (pyIter (.ref l)) (fun it s₂ => CompAt prog w A E env (.ListComp elt [⟨.Name x px, iter, [ct], 0⟩] scope pos) scope cl Q it s₂) E s := by
  have hl : s.heap.IsList l vs := ⟨_, (N _ hm).1, rfl, c, rfl⟩
  have hlt : ∀ p ∈ news, p.1 < s.heap.objs.size := fun p hp => Heap.lt_size (N p hp).1
  have hne : (l : Addr) ≠ s.heap.objs.size := Nat.ne_of_lt (hlt _ hm)
  refine wpAny_pyIter_list hl ?_
  have W := Walks.list (prog := prog) (w := w) hh s.heap.objs.size l hne vs
  refine comp_invC (s₂ := { s with heap := s.heap.push _ }) J W hz (fun i h st => by obtain ⟨⟨o, ho, _⟩, _⟩ := st; exact ⟨o, ho⟩) (fun i ys nw h h' o hj st e e' hk N' => ?_) hcf hpc hkind hkx ⟨⟨_, Heap.get?_push_size _ rfl, rfl, rfl⟩, hl.at fun o e => Heap.get?_push_of_some _ e⟩ (fun b hb => ?_)
    (F.push _) (fun p hp => ⟨Heap.get?_push_of_some _ (N p hp).1, (N p hp).2⟩) (Nat.ne_of_lt F.ns.lt) (next_is_new F) (fun p hp => Nat.ne_of_lt (hlt p hp)) hJ hJz
    (fun i v ys nw C K D oI oC oK m₂ h tk d hi hv hj hC hK F' N' off h1 h2 h3 h4 => turn i v ys nw s.heap.objs.size C K D oI oC oK m₂ h tk d hi hv hj hC hK F' N' off h1 h2 h3 hlt) done
  · obtain ⟨⟨o1, ho1, r⟩, hl1⟩ := st
    rw [e] at ho1
    obtain rfl := Option.some.inj ho1
    exact ⟨⟨o, e', r⟩, ⟨_, (N' _ (hJl _ _ _ hj)).1, rfl, c, rfl⟩⟩
  · rw [Heap.size_push]
    revert b hb
    refine allP_cons ?_ (allP_cons ?_ allP_nil)
    · exact Nat.lt_succ_self _
    · exact Nat.lt_succ_of_lt (hlt _ hm)
theorem comp_tupC {l : Nat} {vs : Array Value} {c : Nat} (J : Nat → List Value → List (Addr × Obj) → Prop) (hh : A.handled = none) (hz : vs.size ≤ 1000) (hcf : ∀ n acc, cellsFrom n scope.names acc = (x, n) :: acc) (hpc : ∀ h : Heap, pushCells h scope.names = h.push { cls := .type "cell", data := .cell none }) (hkind : scope.kind = .function) (hkx : ∀ cl' C, (compEnvC scope cl' C env).kindOf x = some .cell)
    (F : Fr h₀ L s.heap m) (N : News h₀ L s.heap news) (hm : (l, tupO vs c) ∈ news) (hJ : J 0 [] news) (hJl : ∀ i ys nw, J i ys nw → (l, tupO vs c) ∈ nw) (hJz : ∀ i ys nw, J i ys nw → ys.length ≤ i)
    (turn : ∀ i v ys nw (I C K D : Nat) oI oC oK m₂ h tk d, i < vs.size → vs[i]? = some v → J i ys nw → NsObj oC m₂ → oK.data = .cell (some v) → Fr h₀ L h m → News h₀ L h ((I, oI) :: (C, oC) :: (K, oK) :: (D, lst ys) :: nw) → (∀ p ∈ nw, p.1 ≠ I ∧ p.1 ≠ C ∧ p.1 ≠ K ∧ p.1 ≠ D) → I < D → D < C → C < K → (∀ p ∈ news, p.1 < I) →
      wpAny (model prog w) A (isTrue ct (compEnvC scope ((x, K) :: cl) C env) (eval ct (compEnvC scope ((x, K) :: cl) C env))) (fun ok s' => if ok = true then
        wpAny (model prog w) A (eval elt (compEnvC scope ((x, K) :: cl) C env)) (CEnd h₀ L m [(I, oI), (C, oC), (K, oK), (D, lst ys)] (fun y nw' => J (i + 1) (ys ++ [y]) nw') { s with heap := h, toks := tk, drawn := d }) (fun _ _ => False) s'
        else CEnd h₀ L m [(I, oI), (C, oC), (K, oK), (D, lst ys)] (fun _ nw' => J (i + 1) ys nw') { s with heap := h, toks := tk, drawn := d } .none s') (fun _ _ => False) { s with heap := h, toks := tk, drawn := d })
    (done : ∀ (D : Nat) h tk d nw ys, Fr h₀ L h m → News h₀ L h ((D, lst ys) :: nw) → (∀ p ∈ nw, p.1 ≠ D) → (∀ p ∈ news, p.1 < D) → J vs.size ys nw → Q (.ref D) { s with heap := h, toks := tk, drawn := d }) :
    wpAny (model prog w) A (pyIter (.ref l)) (fun it s₂ => CompAt prog w A E env (.ListComp elt [⟨.Name x px, iter, [ct], 0⟩] scope pos) scope cl Q it s₂) E s := by
  have hl : s.heap.IsTuple l vs := ⟨_, (N _ hm).1, rfl, c, rfl⟩
  have hlt : ∀ p ∈ news, p.1 < s.heap.objs.size := fun p hp => Heap.lt_size (N p hp).1
  have hne : (l : Addr) ≠ s.heap.objs.size := Nat.ne_of_lt (hlt _ hm)
  refine wpAny_pyIter_tuple hl ?_
  have W := Walks.tuple (prog := prog) (w := w) hh s.heap.objs.size l hne vs
  refine comp_invC (s₂ := { s with heap := s.heap.push _ }) J W hz (fun i h st => by obtain ⟨⟨o, ho, _⟩, _⟩ := st; exact ⟨o, ho⟩) (fun i ys nw h h' o hj st e e' hk N' => ?_) hcf hpc hkind hkx ⟨⟨_, Heap.get?_push_size _ rfl, rfl, rfl⟩, hl.at fun o e => Heap.get?_push_of_some _ e⟩ (fun b hb => ?_)
    (F.push _) (fun p hp => ⟨Heap.get?_push_of_some _ (N p hp).1, (N p hp).2⟩) (Nat.ne_of_lt F.ns.lt) (next_is_new F) (fun p hp => Nat.ne_of_lt (hlt p hp)) hJ hJz
    (fun i v ys nw C K D oI oC oK m₂ h tk d hi hv hj hC hK F' N' off h1 h2 h3 h4 => turn i v ys nw s.heap.objs.size C K D oI oC oK m₂ h tk d hi hv hj hC hK F' N' off h1 h2 h3 hlt) done
  · obtain ⟨⟨o1, ho1, r⟩, hl1⟩ := st
    rw [e] at ho1
    obtain rfl := Option.some.inj ho1
    exact ⟨⟨o, e', r⟩, ⟨_, (N' _ (hJl _ _ _ hj)).1, rfl, c, rfl⟩⟩
  · rw [Heap.size_push]
    revert b hb
    refine allP_cons ?_ (allP_cons ?_ allP_nil)
    · exact Nat.lt_succ_self _
    · exact Nat.lt_succ_of_lt (hlt _ hm)
end
section
variable {prog : Program} {w : World} {A : Around} {E : Value → Shared → Prop} {s : Shared} {env : Env} {h₀ : Heap} {m₀ : Str → Option Value} {news : List (Addr × Obj)} {Q : Flow → Shared → Prop} {body : List Stmt}
/-- listg_inv with any target -/
theorem listt_inv {l : Nat} {vs : Array Value} {c : Nat} (J : Nat → Heap → (Str → Option Value) → List (Addr × Obj) → Prop) (hh : A.handled = none)
    (F : Fr h₀ env.locals s.heap m₀) (N : News h₀ env.locals s.heap news) (hm : (l, listOf vs c) ∈ news) (h0 : J 0 h₀ m₀ news)
    (hJ : ∀ i g m₁ news₁, J i g m₁ news₁ → (l, listOf vs c) ∈ news₁) (hE : PassesOwn (model prog w) A env E) (target : PySem.Expr) (htg : ∀ it v, letOwnedTupleGo target it v = pure ())
    (turn : ∀ i v g m₁ news₁ h tk d (I : Nat) io, vs[i]? = some v → J i g m₁ news₁ → (∀ p ∈ news₁, p.1 ≠ I) → (∀ p ∈ news, p.1 < I) → Fr g env.locals h m₁ → News g env.locals h ((I, io) :: news₁) →
      wpAny (model prog w) A (assign target env v) (fun _ s₂ => wpAny (model prog w) A (execs body env) (GPost env.locals [(I, io)] (J (i + 1)) { s with heap := h, toks := tk, drawn := d } Q) E s₂) E { s with heap := h, toks := tk, drawn := d })
    (done : ∀ g h tk d m' news', Fr g env.locals h m' → News g env.locals h news' → J vs.size g m' news' → Q .next { s with heap := h, toks := tk, drawn := d }) :
    wpAny (model prog w) A (pyIter (.ref l)) (fun it s₂ => EnumAt prog w A env target body Q E it s₂) E s := by
  have hl : s.heap.IsList l vs := ⟨_, (N _ hm).1, rfl, c, rfl⟩
  have hlt : ∀ p ∈ news, p.1 < s.heap.objs.size := fun p hp => Heap.lt_size (N p hp).1
  have hne : (l : Addr) ≠ s.heap.objs.size := Nat.ne_of_lt (hlt _ hm)
  refine wpAny_pyIter_list hl ?_
  have W := Walks.list (prog := prog) (w := w) hh s.heap.objs.size l hne vs
  unfold EnumAt
  have hLI : env.locals ≠ s.heap.objs.size := Nat.ne_of_lt F.ns.lt
  refine codeAny_forLoop_any (LInv s s.heap.objs.size l env.locals vs.size J) ?_ (vs.size + 1) ⟨h₀, s.heap.push _, s.toks, s.drawn, m₀, news, 0, ⟨_, Heap.get?_push_size _ rfl, rfl, rfl⟩, next_is_new F, F.push _, fun p hp => ⟨Heap.get?_push_of_some _ (N p hp).1, (N p hp).2⟩, fun p hp => Nat.ne_of_lt (hlt p hp), h0, Nat.zero_le _, rfl⟩
  rintro kk s' ⟨g, hp', tk, d, m', news', i, hit, hI₀, F', N', hd', hj, hi, rfl⟩
  have st : hp'.IsListIter s.heap.objs.size l i ∧ hp'.IsList l vs := ⟨hit, ⟨_, (N' _ (hJ _ _ _ _ hj)).1, rfl, c, rfl⟩⟩
  by_cases hlt' : i < vs.size
  · refine W.item i _ _ _ hlt' st fun v h₂ tk₂ hPv st₂ hk₂ => ?_
    refine wpAny_of_eq (htg _ _) ?_
    have F₂ : Fr g env.locals h₂ m' := fr_but F' hk₂ hLI hI₀
    have N₂ : News g env.locals h₂ news' := news_but N' hk₂ hd'
    obtain ⟨io, hio, hr⟩ := st₂.1
    have N₃ : News g env.locals h₂ ((s.heap.objs.size, io) :: news') := fun p hp => by
      rcases List.mem_cons.mp hp with rfl | hp
      · exact ⟨hio, Ne.symm hLI, hI₀⟩
      · exact N₂ p hp
    refine wpAny_mono (turn i v g m' news' h₂ tk₂ d s.heap.objs.size io hPv hj hd' hlt F₂ N₃) (fun _ s₂ hx => wpAny_mono (wpAny_passesOwn hE hx) (fun f s₃ p => ?_) fun _ _ e => e) hE
    have fin : GEnd env.locals [(s.heap.objs.size, io)] (J (i + 1)) { s with heap := h₂, toks := tk₂, drawn := d } s₃ → ∃ mm, mm < vs.size + 1 - i ∧ LInv s s.heap.objs.size l env.locals vs.size J mm s₃ := by
      rintro ⟨g4, h4, tk4, d4, m4, news4, rfl, F4, N4, hd4, hj4⟩
      exact ⟨vs.size + 1 - (i + 1), by first | exact sub_step (by assumption) | lia | omega, g4, h4, tk4, d4, m4, news4, i + 1, ⟨io, (N4 _ (.head _)).1, hr⟩, (N4 _ (.head _)).2.2, F4, fun q hq => N4 q (List.mem_append_right _ hq), fun q hq => hd4 q hq _ (.head _), hj4, hlt', rfl⟩
    cases f with
    | ret v => exact p
    | brk => exact p
    | next => exact fin p
    | cont => exact fin p
  · obtain rfl : i = vs.size := by (first | lia | omega)
    refine W.done _ _ _ st fun h₂ tk₂ hk₂ => ?_
    refine wpAny_execs_nil ?_
    exact done g h₂ tk₂ d m' news' (fr_but F' hk₂ hLI hI₀) (news_but N' hk₂ hd') hj
end
end
section
set_option tactic.hygienic false
section
variable {prog : Program} {w : World} {p : Program} {loose : List Str} {mean : ExcName → Option Value} {mg mb : Str → Option Value} {dp un : Nat} {gd : Option (List Code)} {cn : Str} {cs : Scope} {a : Addr} {ccd : Value} {cl : List (Str × Addr)} {outer : List Env} {A₀ : Around} {base h₀ : Heap} {L : Addr} {m : Str → Option Value} {news rest : List (Addr × Obj)} {s : Shared} {Q E : Value → Shared → Prop}
section
variable {A : Around} {g₀ : Heap} {env : Env} {KF : Frag} {R : Result → Shared → Prop} {name qual : Str} {params : Arguments} {body : List Stmt} {scope : Scope} {dV kV doc pm cdv ct oc : Value} {an od : Option Addr} {osl : Array (Option Value)} {f : Addr} {args : Args} {binds : List (Str × Value)}
theorem kts_memX {b : Addr} (hf : env.frame = some L) (h : b ∈ (env :: outer).filterMap (·.frame)) : b = L ∨ b ∈ outer.filterMap (·.frame) := by
  rw [List.filterMap_cons, hf] at h
  exact List.mem_cons.mp h
theorem kts_enterX (B : Below A₀ base outer h₀) (F : Fr h₀ L s.heap m) (N : News h₀ L s.heap news) (hA : A.frames = some (env :: outer)) (hf : env.frame = some L) (hke : env.scope.kind = .function) :
    ∃ oL es ep, (hideAll s.heap (news.map (·.1))).get? L = some oL ∧ oL.data = .dict es ep ∧ (∀ h', h'.get? L = some oL → Heap.Ns h' L m) ∧ (∀ (sl : Array (Option Value)) h', h'.get? L = some { oL with slots := sl } → Heap.Ns h' L m) ∧
      h₀.StaysIn (hideAll s.heap (news.map (·.1))) ∧ Below A base (env :: outer) (hideAll s.heap (news.map (·.1))) := by
  have nm : ∀ b o, h₀.get? b = some o → b ∉ news.map (·.1) := fun b o e q => by
    obtain ⟨p, hp, rfl⟩ := List.mem_map.mp q
    rw [(N p hp).2.2] at e; cases e
  have st : h₀.StaysIn (hideAll s.heap (news.map (·.1))) := fun b o e => hideAll_get _ (F.keep b o e) (nm b o e)
  obtain ⟨oL, es, ep, hL, hLd, hLk, hLf⟩ := F.ns
  have nL : L ∉ news.map (·.1) := fun q => by
    obtain ⟨p, hp, e⟩ := List.mem_map.mp q
    exact (N p hp).2.1 e
  have hLg := hideAll_get (news.map (·.1)) hL nL
  have B₁ := pushX (env := env) B F hf hke
  exact ⟨oL, es, ep, hLg, hLd, fun h' e => ⟨oL, es, ep, e, hLd, hLk, hLf⟩, fun sl h' e => ⟨_, es, ep, e, hLd, hLk, hLf⟩, st, ⟨hA, fun b o e => st b o (B.stays b o e), funFrames_hideAll B₁.frames fun env' he b hb hf' => by
    cases he with
    | head => exact nL ((Option.some.inj (hf.symm.trans hf') : L = b) ▸ hb)
    | tail _ he =>
      obtain ⟨L₁, o₁, hf₁, ho₁⟩ := funFrames_in B.frames env' he
      rw [hf₁] at hf'
      exact nm L₁ o₁ ho₁ ((Option.some.inj hf' : L₁ = b) ▸ hb)⟩⟩
/-- code_defS for a caller of any making -/
theorem code_defSX (B : Below A₀ base outer h₀) (F : Fr h₀ L s.heap m) (X₀ : KF.In h₀) (N : News h₀ L s.heap news) (T : Top p loose mean mg mb h₀) (XB : KF.In base) (TB : Top p loose mean mg mb base) (D : KtsDicts (outer.filterMap (·.frame)) h₀)
    (T0 : KtsTurn (outer.filterMap (·.frame)) g₀ h₀) (hA : A.frames = some (env :: outer)) (hf : env.frame = some L) (hke : env.scope.kind = .function)
    (ho : KF.lookup f = some ⟨oc, od, .func (fnOf name qual params body scope dV kV doc pm an cdv ct), osl⟩) (hcd : codeIn KF cdv qual = true) (hroom : A.depth < recursionLimit)
    (hbind : BindsTo s (fnOf name qual params body scope dV kV doc pm an cdv ct) args binds) (hloc : ∀ y ∈ binds, scope.names.lookup y.1 = some .local)
    (h : ∀ g L' h₁, Fr h₀ L g m → Fr g L' h₁ (fun y => binds.reverse.lookup y) → News g L' h₁ news → Below A base (env :: outer) g → KF.In g → Top p loose mean mg mb g → KtsDicts ((env :: outer).filterMap (·.frame)) g →
      wpAny (model prog w) (A.deeper (envOf qual scope L' f cdv)) (execs body (envOf qual scope L' f cdv))
        (fun fl s' => LeaveS ((env :: outer).filterMap (·.frame)) A₀ base outer KF p loose mean mg mb g₀ h₀ L m g R (match fl with | .ret v => v | _ => .none) s')
        (fun e s' => wpAny (model prog w) (A.deeper (envOf qual scope L' f cdv)) (leaving (envOf qual scope L' f cdv) e) (fun _ s'' => R (.error e) s'') (fun e' s'' => R (.error e') s'') s')
        { s with heap := h₁, toks := s.toks + binds.length })
    (hco : scope.isCoroutine = false) (hgen : scope.isGenerator = false) (hk : scope.kind = .function)
    (hcell : ∀ x ∈ scope.names, x.2 ≠ .cell) : codeAny (model prog w) A (.call (.ref f) args) R s := by
  have X := X₀.keeps F.keep
  refine codeAny_call_def (fd := fnOf name qual params body scope dV kV doc pm an cdv ct) (body := body) (binds := binds) hroom (X _ _ ho) rfl (T.nolimit.keeps F.keep) (codeRec_of X hcd) rfl hbind hcell hloc (fun h₁ hns hk₁ => ?_) hco hgen hk
  obtain ⟨oL, es, ep, hLg, hLd, hN, hNs, st, B₂⟩ := kts_enterX B F N hA hf hke
  refine wpAny_mono (h _ s.heap.objs.size h₁ ⟨hN _ hLg, st, F.above⟩ ⟨hns, fun b o e => hk₁ b o (of_hideAll _ e), Nat.le_of_eq (hideAll_size _ _)⟩
    (fun p hp => ⟨hk₁ _ _ (N p hp).1, Nat.ne_of_lt (Heap.lt_size (N p hp).1), hideAll_none _ (List.mem_map_of_mem hp)⟩) B₂ (X₀.keeps st) (T.keeps st) (fun b hb => by
      rcases kts_memX hf hb with rfl | hb
      · exact ⟨oL, es, ep, hLg, hLd⟩
      · obtain ⟨o, es', n', ho', hd'⟩ := D b hb
        exact ⟨o, es', n', st b o ho', hd'⟩)) (fun fl s' hl => ?_) fun _ _ y => y
  have nL₀ : h₀.get? L = none := kts_self F
  rcases hl with ⟨L', m', news', F', N', k⟩ | ⟨g', L', m', news', T', F', N', k⟩
  · refine k ⟨hN _ (F'.keep _ _ hLg), fun b o e => F'.keep b o (st b o e), F.above⟩ fun p hp => ⟨(N' p hp).1, fun q => ?_, ?_⟩
    · have := (N' p hp).2.2; rw [q, hLg] at this; cases this
    · cases q : h₀.get? p.1 with
      | none => rfl
      | some o => have := (N' p hp).2.2; rw [st _ _ q] at this; cases this
  obtain ⟨sl, hs⟩ := T'.up hLg
  obtain ⟨T₁, S₁⟩ := kts_turn_at (h := s'.heap) (fs := outer.filterMap (·.frame)) (g := h₀)
    (fun b hb => by
      obtain ⟨_, o, ho', _⟩ := B.frames.mem hb
      exact ⟨o, ho'⟩)
    (fun b o e nmem => F'.keep b o (T'.other b o (st b o e) (fun q => by
      rcases kts_memX hf q with z | z
      · rw [z, nL₀] at e
        cases e
      · exact nmem z)))
    (fun b o e hm => by
      obtain ⟨sl', hs'⟩ := T'.up (st b o e)
      exact ⟨sl', F'.keep _ _ hs'⟩)
  have B₃ : Below A₀ base outer (ktsHeap s'.heap (outer.filterMap (·.frame)) h₀) := ⟨B.stack, fun b o e => T₁.other b o (B.stays b o e) (fun hm => by
    rw [(B.frames.mem hm).1] at e
    cases e), B.frames.of_keeps fun b o e _ => by
    obtain ⟨sl', hs'⟩ := T₁.up e
    exact ⟨_, hs', rfl⟩⟩
  refine k _ (T0.trans T₁) ⟨hNs sl _ (F'.keep _ _ hs), S₁, by rw [T₁.size]; exact F.above⟩ (fun p hp => ⟨(N' p hp).1, fun q => ?_, ?_⟩) B₃ (XB.keeps B₃.stays) (TB.keeps B₃.stays) (D.turn T₁)
  · have := (N' p hp).2.2; rw [q, hs] at this; cases this
  · refine T₁.none_ _ ?_
    cases q : h₀.get? p.1 with
    | none => rfl
    | some o =>
      obtain ⟨sl', hs'⟩ := T'.up (st _ _ q)
      have := (N' p hp).2.2
      rw [hs'] at this
      cases this
end
theorem wd_KN3_42 : True := by
  k_with "truthy str" => first | refine truthy_one ?_ | (refine truthy_full (by assumption) (by assumption) ?_)
  trivial
theorem wd_KN3_ke : True := by
  k_with "K_ENTERX" => (rw [under_make2]; refine' sh_init ?kenC ?kenh1 ?kenh2 ?_; (case kenC => walk_at "CX"); (case kenh1 => assumption); (case kenh2 => first | assumption | exact of_allLt (by assumption)); intro ts9 xi9 di9 pb9 fs9 t19 t29 t39 t49 tb9 tst9 tt9 tl9 tp9 h9 tk9 o19 o29 o39 o49 F9 N9; dsimp only [InitBack]; refine And.intro rfl ?_; (try dsimp only))
  trivial
theorem wd_KN3_43 : True := by
  k_with "ENTERSX" => (refine wpAny_call ?_; k_dflt (refine' code_defSX ?k1 ?k2 ?k3 ?k4 ?k5 ?XB ?TB ?D ?T0 ?kA ?kF ?kK ?k6 ?k7 ?k8 ?k9 ?kB ?_ ?c2 ?c3 ?c4 ?c5; (case kA => exact rfl); (case kF => exact rfl); (case kK => assumption); (case k2 => k_asm); (case k1 => k_asm); (case XB => assumption); (case TB => assumption); (case D => assumption); (case T0 => first | assumption | exact KtsTurn.refl); (case k3 => k_asm); (case k4 => k_asm); (case k5 => k_asm); (case k6 => k_is); (case k7 => k_is); (case k8 => ktr_room); (case k9 => first | exact binds_K (by k_in) rfl (by k_is) rfl rfl rfl | exact BindsTo.of_eq rfl | fail "kts_go: no rule for these arguments"); (case kB => exact locs rfl); (case c2 => exact rfl); (case c3 => exact rfl); (case c4 => exact rfl); (case c5 => decide); k_whole; intro _ _ _ _ _ _ _ _ _ _; (try dsimp only); (try k_fold)))
  trivial
theorem split_callX {b : Str} {tb : Tok} {n k : Nat} {ws : List (List Nat)} (hlen : b.length ≤ 1000) (hlx : lexs n k b.cps.toList = some ws) (hws : ws.length ≤ 1000)
    (C : Cx 14 w p loose mean mg mb dp un cs outer A₀ base h₀ L m s.heap news) (XB : (K w.params).In base) (TB : Top p loose mean mg mb base) (D : KtsDicts (outer.filterMap (·.frame)) h₀)
    (hret : ∀ (S : Nat) vs c g' h' tk', Strs (ws.map toS) vs → (∀ p ∈ news, p.1 < S) → KtsTurn (outer.filterMap (·.frame)) h₀ g' → Fr g' L h' m → News g' L h' ((S, listOf vs c) :: news) → Below A₀ base outer g' → (K w.params).In g' → Top p loose mean mg mb g' →
      KtsDicts (outer.filterMap (·.frame)) g' → Q (.ref S) { s with heap := h', toks := tk' }) :
    wpAny (model prog w) (ktrTop dp un gd cn cs L a ccd cl outer) (call (.ref 796) [.str b tb] [(Str.ofString "comments", .bool true)]) Q E s := by
  obtain ⟨B, F, X, N, T, hk, hd, hu⟩ := C
  walk_at "ENTERSX"
  k_steps
  rename News _ _ _ _ => N9
  have N10 := lex_news (rest := news) N9
  clear N9
  rename (∀ p ∈ news, p.1 < _) => l9
  refine' list_lex (rest := news) (pos := 0) ?zzhx ?zzhi ?zzhxi ?zzhr1 ?zzhr2 hlen ?zzhpi ?zzhpl ?zzhlx hws ?zzC ?zzhret
  case zzC => walk_at "CX"
  case zzhx => assumption
  case zzhi => assumption
  case zzhxi => exact .inl (by assumption)
  case zzhpi => rfl
  case zzhpl => exact Nat.zero_le _
  case zzhlx => rw [List.drop_zero]; exact hlx
  case zzhr1 =>
    intro p hp
    revert p hp
    refine allP_cons ?_ (allP_cons ?_ (fun p hp => ?_))
    · exact Nat.ne_of_gt (by first | k_extra "OM" | (first | lia | omega))
    · exact Nat.ne_of_gt (by first | k_extra "OM" | (first | lia | omega))
    · exact Nat.ne_of_lt (l9 p hp)
  case zzhr2 =>
    intro p hp
    revert p hp
    refine allP_cons ?_ (allP_cons ?_ (fun p hp => ?_))
    · exact Nat.ne_of_gt (by first | k_extra "OM" | (first | lia | omega))
    · exact Nat.ne_of_gt (by first | k_extra "OM" | (first | lia | omega))
    · have := l9 p hp
      exact Nat.ne_of_lt (Nat.lt_trans this (by first | k_extra "OM" | (first | lia | omega)))
  case zzhret =>
    intro S vs c g' h' tk' hS hst T9 F9 B9 N9
    exact leaveS_r F9 N9 T9 fun h₀' T' F' N' B' X' T2 D' => hret S vs c h₀' _ _ hst hS T' F' N' B' X' T2 D'
end
end
section
set_option tactic.hygienic false
section
variable {prog : Program} {w : World} {p : Program} {loose : List Str} {mean : ExcName → Option Value} {mg mb : Str → Option Value} {dp un : Nat} {gd : Option (List Code)} {cn : Str} {cs : Scope} {a : Addr} {ccd : Value} {cl : List (Str × Addr)} {outer : List Env} {A₀ : Around} {base h₀ : Heap} {L : Addr} {m : Str → Option Value} {news rest : List (Addr × Obj)} {s : Shared} {Q E : Value → Shared → Prop}
open PyProof.Rows.LCg
variable {g : Heap} {L' : Nat} {QF : Flow → Shared → Prop} {tups big : List (Addr × Obj)}
theorem tupleL {A : Around} {l : Nat} {vs : Array Value} {c : Nat} {Q : Value → Shared → Prop} {news : List (Addr × Obj)} (F : Fr h₀ L s.heap m) (N : News h₀ L s.heap news) (hm : (l, listOf vs c) ∈ news) (hz : vs.size ≤ 1000)
    (h : ∀ (T : Nat) h', (∀ p ∈ news, p.1 < T) → Fr h₀ L h' m → News h₀ L h' ((T, tupO vs 0) :: news) → Q (.ref T) { s with heap := h' }) :
    wpAny (model prog w) A (call (.type "tuple") [.ref l]) Q E s := by
  refine call_tuple_list ⟨_, (N _ hm).1, rfl, c, rfl⟩ (fun h' hk => ?_) (by rw [sizeLine_eq]; (first | lia | omega))
  have F1 : Fr h₀ L h' m := F.keeps hk
  have N1 : News h₀ L h' news := fun p hp => ⟨hk _ _ (N p hp).1, (N p hp).2⟩
  exact h _ _ (fun p hp => Heap.lt_size (N1 p hp).1) (F1.push _) (N1.push F1 _)
theorem tupleS {A : Around} {l : Nat} {vs : Array Value} {c : Nat} {ws : List Str} {Q : Value → Shared → Prop} {news : List (Addr × Obj)} (hst : Strs ws vs) (hz : ws.length ≤ 1000) (F : Fr h₀ L s.heap m) (N : News h₀ L s.heap news) (hm : (l, listOf vs c) ∈ news)
    (h : ∀ (T : Nat) h', (∀ p ∈ news, p.1 < T) → Fr h₀ L h' m → News h₀ L h' ((T, tupO vs 0) :: news) → Q (.ref T) { s with heap := h' }) :
    wpAny (model prog w) A (call (.type "tuple") [.ref l]) Q E s := tupleL F N hm (by rw [hst.size]; exact hz) h
theorem wd_KN5_44 : True := by
  k_with "call type:tuple" => (k_here; k_dflt (refine' tupleS ?zst ?zz ?zF ?zN ?zm ?_; (case zst => assumption); (case zz => assumption); (case zF => k_asm); (case zN => k_asm); (case zm => k_mem)); intro _ _ zl9 _ _; (try k_lt zl9))
  trivial
theorem append1K' {A : Around} {R : Addr} {rv : Array Value} {rc : Nat} {x : Value} {Q : Value → Shared → Prop} {news news' : List (Addr × Obj)} (F : Fr h₀ L s.heap m) (N : News h₀ L s.heap news) (U : Upd R (listOf rv rc) (listOf (rv.push x) (rc + 1)) news news') (hz : rv.size ≤ 1000)
    (h : ∀ h', Fr h₀ L h' m → News h₀ L h' news' → Q .none { s with heap := h' }) : wpAny (model prog w) A (call (.builtin "list.append") [.ref R, x]) Q E s := append_K F N U h (by rw [sizeLine_eq]; (first | lia | omega))
theorem wd_KN5_45 : True := by
  k_with "call builtin:list.append" => (k_here; k_dflt (refine' append1K' ?zF ?zN ?zU ?zz ?_; (case zF => k_asm); (case zN => k_asm); (case zU => k_upd); (case zz => assumption)); intro _ _ _)
  k_with "call ref" => (k_here; k_dflt (refine' split_callX ?z1 ?z2 ?z3 ?zC ?zXB ?zTB ?zD ?_; (case z1 => assumption); (case z2 => assumption); (case z3 => assumption); (case zC => walk_at "CX"); (case zXB => assumption); (case zTB => assumption); (case zD => assumption)); intro _ _ _ _ _ _ _ zl9 _ _ _ _ _ _ _; (try k_lt zl9))
  trivial
theorem ig_initK {R : Result → Shared → Prop} {x dx l : Nat} {vs : Array Value} {c : Nat} {ws : List Str} {b : Bool} (hst : Strs ws vs) (hb : vs.isEmpty = b) (hz : ws.length ≤ 1000)
    (C : Cx 4 w p loose mean mg mb dp un cs outer A₀ base h₀ L m s.heap ((x, instObj 139 dx) :: (dx, emptyDict) :: (l, listOf vs c) :: rest)) (hx : dx < x) (hl : l < dx) (hr : ∀ p ∈ rest, p.1 < dx)
    (hret : ∀ (S D G : Nat) oS oG n k1 k2 k3 t1 h' tk', x < S → S < D → D < G → Fr h₀ L h' m →
      News h₀ L h' ((G, oG) :: (D, listOf #[] 0) :: (S, oS) :: (x, instObj 139 dx) :: (dx, dictOf (igE w.params k1 k2 k3 S D G) 3) :: (l, listOf vs c) :: rest) →
      SetO w (strKind prog w) oS (fun k => decide (k ∈ ws)) n → n ≤ ws.length → oG.IsDictOf (strKind prog w) [(Str.ofString "<string>", .int 1 t1)] → (G == sysModules) = false → R (.ok (.ret .none)) { s with heap := h', toks := tk' }) :
    codeAny (model prog w) (ktrTop dp un gd cn cs L a ccd cl outer) (.call (.ref 129) ⟨[.ref x, .ref l], []⟩) R s :=
  ig_init hst hb hz (by rw [hst.size]; exact hz) C hx hl hr hret
theorem mv5 {α : Type} {p a b c d e t : α} {l : List α} (h : p ∈ a :: b :: c :: d :: e :: t :: l) : p ∈ t :: a :: b :: c :: d :: e :: l := by
  first | (refine sub_use ?_ h; k_extra "SUB") | (simp only [List.mem_cons, List.mem_append, List.cons_append, List.nil_append] at h ⊢; grind)
theorem allLt_tail {a d : Nat} {l : List (Addr × Obj)} (h : a < d ∧ AllLt d l) : AllLt d l := h.2
theorem wd_KN5_ke : True := by
  k_with "K_ENTERX" => (rw [under_make2]; refine' ig_initK ?zst ?zb ?zz ?zC ?zh1 ?zh2 ?zh3 ?_; (case zst => assumption); (case zb => rfl); (case zz => assumption); (case zC => walk_at "CX"); (case zh1 => assumption); (case zh2 => first | assumption | (first | lia | omega)); (case zh3 => first | assumption | exact of_allLt (by assumption) | exact of_allLt (allLt_tail (by assumption))); intro S9 D9 G9 oS9 oG9 n9 k19 k29 k39 t19 h9 tk9 o19 o29 o39 F9 N9 so9 sn9 od9 gm9; dsimp only [InitBack]; refine And.intro rfl ?_; (try dsimp only))
  trivial
noncomputable def lt2Body : List Stmt := match ltB with | _ :: _ :: _ :: _ :: .For _ _ b _ _ :: _ => b | _ => []
noncomputable def lt2p : List Stmt := match lt2Body with | a :: b :: c :: _ => [a, b, c] | _ => []
noncomputable def lt2q : List Stmt := match lt2Body with | _ :: _ :: _ :: r => r | _ => []
theorem lt2Body_is : lt2Body = lt2p ++ lt2q := by rfl
theorem lt2a {SA LE P D I : Nat} {io oD o1 o2 o3 : Obj} {sav lev pv : Array Value} {sac lec pc : Nat} {pg : Str} {tp : Tok} {w9 : Option Value} {n k : Nat} {ws : List (List Nat)} {cv : Option Value}
    (hlen : pg.length ≤ 1000) (hlx : lexs n k pg.cps.toList = some ws) (hws : ws.length ≤ 1000) (hws' : (ws.map toS).length ≤ 1000) (hsz : sav.size ≤ 1000)
    (c1 : o1.data = .cell cv) (XB : (K w.params).In base) (TB : Top p loose mean mg mb base) (DD : KtsDicts ((envX cn cs L a ccd cl :: outer).filterMap (·.frame)) g)
    (h1 : D < L') (h2 : L' + 1 + 1 + 1 < P) (h3 : P < SA) (h4 : SA < LE) (h5 : LE < I) (hbig : ∀ p ∈ big, p.1 ≠ SA ∧ p.1 ≠ L' + 1 + 1 + 1)
    (Y : Ty 20 w p loose mean mg mb dp un gd cn cs L a ccd cl outer base g)
    (F : Fr g L' s.heap (mlt (some (.ref P)) (some (.str pg tp)) (some (.ref SA)) (some (.ref LE)) w9 none))
    (N : News g L' s.heap ((I, io) :: (LE, listOf lev lec) :: (SA, listOf sav sac) :: (P, listOf pv pc) :: (L' + 1 + 1 + 1, o1) :: (L' + 1 + 1, o2) :: (L' + 1, o3) :: (D, oD) :: big))
    (hq : ∀ (x dx S2 D2 G T S : Nat) vs c oS oG n k1 k2 k3 t1 o1' g' h' tk', Strs (ws.map toS) vs → I < S → S < dx → dx < x → x < S2 → S2 < D2 → D2 < G → G < T → (∀ p ∈ big, p.1 < S) →
      SetO w (strKind prog w) oS (fun k => decide (k ∈ ws.map toS)) n → n ≤ (ws.map toS).length → oG.IsDictOf (strKind prog w) [(Str.ofString "<string>", .int 1 t1)] → (G == sysModules) = false → o1'.data = .cell (some (.ref x)) →
      KtsTurn ((envX cn cs L a ccd cl :: outer).filterMap (·.frame)) g g' → Below (ktrTop dp un gd cn cs L a ccd cl outer) base (envX cn cs L a ccd cl :: outer) g' → (K w.params).In g' → Top p loose mean mg mb g' → KtsDicts ((envX cn cs L a ccd cl :: outer).filterMap (·.frame)) g' →
      Fr g' L' h' (mlt (some (.ref P)) (some (.str pg tp)) (some (.ref SA)) (some (.ref LE)) (some (.ref S)) none) →
      News g' L' h' ((G, oG) :: (D2, listOf #[] 0) :: (S2, oS) :: (x, instObj 139 dx) :: (dx, dictOf (igE w.params k1 k2 k3 S2 D2 G) 3) :: (T, tupO vs 0) :: (S, listOf vs c) :: (I, io) :: (LE, listOf lev lec) :: (SA, listOf (sav.push (.ref T)) (sac + 1)) :: (P, listOf pv pc) :: (L' + 1 + 1 + 1, o1') :: (L' + 1 + 1, o2) :: (L' + 1, o3) :: (D, oD) :: big) →
      QF .next { s with heap := h', toks := tk' }) :
    wpAny (model prog w) ((ktrTop dp un gd cn cs L a ccd cl outer).deeper (ltEnv L')) (execs lt2p (ltEnv L')) QF (fun _ _ => False) s := by
  obtain ⟨hk, hd, hun, B, X, T0⟩ := Y
  have hbS : ∀ p ∈ big, p.1 ≠ SA := fun p hp => (hbig p hp).1
  have hbC : ∀ p ∈ big, p.1 ≠ L' + 1 + 1 + 1 := fun p hp => (hbig p hp).2
  k_steps
  rename News _ _ _ _ => N9
  rename Fr _ _ _ _ => F9
  rename SetO _ _ _ _ _ => so9
  rename Strs _ _ => st9
  rename Obj.IsDictOf _ _ _ => od9
  rename KtsTurn _ _ _ => KT9
  rename (_ == sysModules) = false => gm9
  rename Obj.data _ = _ => dd9
  rename I < _ ∧ LE < _ ∧ _ => lS9
  have F10 := Fr.cast F9 mlt_words
  refine hq _ _ _ _ _ _ _ _ _ _ _ _ _ _ _ _ _ _ _ _ st9 ?_ ?_ ?_ ?_ ?_ ?_ ?_ ?_ so9 (by assumption) od9 gm9 dd9 KT9 (by assumption) (by assumption) (by assumption) (by assumption) F10 (news_sub N9 fun p hp => mv5 hp)
  all_goals first | (first | lia | omega) | (obtain ⟨q0, q1, q2, q3, q4, q5, q6, q7, q8⟩ := lS9; exact of_allLt q8)
end
end
section
set_option tactic.hygienic false
section
variable {prog : Program} {w : World} {p : Program} {loose : List Str} {mean : ExcName → Option Value} {mg mb : Str → Option Value} {dp un : Nat} {gd : Option (List Code)} {cn : Str} {cs : Scope} {a : Addr} {ccd : Value} {cl : List (Str × Addr)} {outer : List Env} {A₀ : Around} {base h₀ : Heap} {L : Addr} {m : Str → Option Value} {news rest : List (Addr × Obj)} {s : Shared} {Q E : Value → Shared → Prop}
open PyProof.Rows.LCg
variable {g : Heap} {L' : Nat} {QF : Flow → Shared → Prop} {tups big : List (Addr × Obj)}
/-- is the name left out by an _Ignore of these words -/
noncomputable def outP (ws : List Str) (nm : Str) : Bool := decide (nm ∈ ws) || ws.any fun k => PySem.Txt.startswith nm (dotted k)
theorem outP_of {ws : List Str} {nm : Str} {b : Bool} (h : b = true ↔ (decide (nm ∈ ws) = true ∨ ∃ k, decide (k ∈ ws) = true ∧ PySem.Txt.startswith nm (dotted k) = true)) : b = outP ws nm := by
  have : outP ws nm = true ↔ (decide (nm ∈ ws) = true ∨ ∃ k, decide (k ∈ ws) = true ∧ PySem.Txt.startswith nm (dotted k) = true) := by
    unfold outP
    rw [Bool.or_eq_true, List.any_eq_true]
    constructor
    · rintro (q | ⟨k, q, r⟩)
      · exact .inl q
      · exact .inr ⟨k, decide_eq_true q, r⟩
    · rintro (q | ⟨k, q, r⟩)
      · exact .inl q
      · exact .inr ⟨k, of_decide_eq_true q, r⟩
  exact Bool.eq_iff_iff.mpr (h.trans this.symm)
theorem valueAt_snoc {kvs : List (Str × Value)} {nm k : Str} {v : Value} (h : valueAt kvs k = none) (hne : k ≠ nm) : valueAt (kvs ++ [(nm, v)]) k = none := by
  unfold valueAt at h ⊢
  rw [List.find?_append]
  have h1 : List.find? (fun kv : Str × Value => decide (kv.1 = k)) kvs = none := Option.map_eq_none_iff.mp h
  rw [h1]
  simp [Ne.symm hne]
theorem mv3 {α : Type} {p a b c g d s x y : α} {l : List α} (h : p ∈ a :: b :: c :: g :: d :: s :: x :: y :: l) : p ∈ g :: d :: s :: x :: y :: a :: b :: c :: l := by
  first | (refine sub_use ?_ h; k_extra "SUB") | (simp only [List.mem_cons, List.mem_append, List.cons_append, List.nil_append] at h ⊢; grind)
theorem mv3' {α : Type} {p a b c g d s x y : α} {l : List α} (h : p ∈ g :: d :: s :: x :: y :: a :: b :: c :: l) : p ∈ a :: b :: c :: g :: d :: s :: x :: y :: l := by
  first | (refine sub_use ?_ h; k_extra "SUB") | (simp only [List.mem_cons, List.mem_append, List.cons_append, List.nil_append] at h ⊢; grind)
theorem names_call3 {x dx S D G : Nat} {oS oG : Obj} {n : Nat} {k1 k2 k3 ty t2 : Tok} {ws : List Str} {kvs : List (Str × Value)} {name : Str} {e1 e2 e3 : Addr × Obj} (hso : SetO w (strKind prog w) oS (fun k => decide (k ∈ ws)) n) (hn : n ≤ 1000) (hd : oG.IsDictOf (strKind prog w) kvs) (hnot : valueAt kvs name = none) (hk : kvs.length ≤ 1000) (hGm : (G == sysModules) = false) (hTl : ∀ k ∈ ws, k.length ≤ 1000)
    (C : Cx 4 w p loose mean mg mb dp un cs outer A₀ base h₀ L m s.heap (e1 :: e2 :: e3 :: (G, oG) :: (D, listOf #[] 0) :: (S, oS) :: (x, instObj 139 dx) :: (dx, dictOf (igE w.params k1 k2 k3 S D G) 3) :: rest)) (h1 : x < S) (h2 : S < D) (h3 : D < G) (h4 : dx < x) (hrG : ∀ p ∈ rest, p.1 ≠ G) (he1 : e1.1 ≠ G) (he2 : e2.1 ≠ G) (he3 : e3.1 ≠ G)
    (hret : ∀ b oG' r t1 h' tk' d, b = outP ws name → oG'.IsDictOf (strKind prog w) (kvs ++ [(name, r)]) → Fr h₀ L h' m →
      News h₀ L h' (e1 :: e2 :: e3 :: (G, oG') :: (D, listOf #[] 0) :: (S, oS) :: (x, instObj 139 dx) :: (dx, dictOf (igE w.params k1 k2 k3 S D G) 3) :: rest) → Q (.int (if b then 1 else 0) t1) { s with heap := h', toks := tk', drawn := d }) :
    wpAny (model prog w) (ktrTop dp un gd cn cs L a ccd cl outer) (call (.ref 136) [.ref x, .str (Str.ofString "f") t2, .str name ty]) Q E s := by
  obtain ⟨B, F, X, N, T0, hk0, hd0, hu⟩ := C
  refine names_call (rest := e1 :: e2 :: e3 :: rest) hso hn hd hnot hk hGm (fun k q => hTl k (of_decide_eq_true q)) ⟨B, F, X, news_sub N fun p hp => mv3' hp, T0, hk0, hd0, hu⟩ h1 h2 h3 h4 (fun p hp => ?_) fun b oG' r t1 h' tk' d hb hd' F' N' => hret b oG' r t1 h' tk' d (outP_of hb) (by rw [stored_new (by rw [hnot]; rfl)] at hd'; exact hd') F' (news_sub N' fun p hp => mv3 hp)
  revert p hp
  refine allP_cons ?_ (allP_cons ?_ (allP_cons ?_ (fun p hp => ?_)))
  · exact he1
  · exact he2
  · exact he3
  · exact hrG p hp
theorem wd_KN6_46 : True := by
  k_with "pyIter ref" => ((with_reducible show wpAny _ _ (pyIter (Value.ref _)) (fun it s₂ => CompAt _ _ _ _ _ _ _ _ _ it s₂) _ _); refine mark ?_)
  k_with "eval ListComp" => (k_here; k_dflt (refine comp_go (by with_unfolding_all rfl) (by rfl) (by decide) ?_); k_whole)
  k_with "call type:tuple" => (k_here; k_dflt (refine' tupleS ?zst ?zz ?zF ?zN ?zm ?_; (case zst => assumption); (case zz => assumption); (case zF => k_asm); (case zN => k_asm); (case zm => k_mem)); intro _ _ zl9 _ _; (try k_lt zl9))
  k_with "call builtin:list.append" => (k_here; k_dflt (refine' append1K' ?zF ?zN ?zU ?zz ?_; (case zF => k_asm); (case zN => k_asm); (case zU => k_upd); (case zz => assumption)); intro _ _ _)
  k_with "call ref" => (k_here; k_dflt (refine' names_call3 ?z1 ?z2 ?z3 ?z4 ?z5 ?z6 ?z7 ?zC ?y1 ?y2 ?y3 ?y4 ?y5 ?y6 ?y7 ?y8 ?_; (case zC => walk_at "CX"); (case z1 => assumption); (case z2 => assumption); (case z3 => assumption); (case z4 => assumption); (case z5 => assumption); (case z6 => assumption); (case z7 => assumption); (case y1 => assumption); (case y2 => assumption); (case y3 => assumption); (case y4 => assumption); (case y5 => assumption); (case y6 => assumption); (case y7 => assumption); (case y8 => assumption)); intro zb9 _ _ _ _ _ _ _ _ _ _; cases zb9)
  trivial
theorem mv8 {α : Type} {p a b c d e f t : α} {l : List α} (h : p ∈ t :: a :: b :: c :: d :: e :: f :: l) : p ∈ a :: b :: c :: d :: e :: t :: f :: l := by
  first | (refine sub_use ?_ h; k_extra "SUB") | (simp only [List.mem_cons, List.mem_append, List.cons_append, List.nil_append] at h ⊢; grind)
theorem lt2b {x dx S2 D2 G LE D : Nat} {oS oG oD o1 o2 o3 : Obj} {n : Nat} {k1 k2 k3 : Tok} {ws : List Str} {lev : Array Value} {lec : Nat} {kvs ivs : List (Str × Value)} {pp gp sp wp : Option Value} (hso : SetO w (strKind prog w) oS (fun k => decide (k ∈ ws)) n) (hn : n ≤ 1000) (hdG : oG.IsDictOf (strKind prog w) ivs) (hGm : (G == sysModules) = false) (hTl : ∀ k ∈ ws, k.length ≤ 1000)
    (hdD : oD.IsDictOf (strKind prog w) kvs) (lo : (D == sysModules) = false) (hkz : kvs.length ≤ 500) (hiz : ivs.length ≤ 100) (hnd : (kvs.map (·.1)).Nodup) (hiv : ∀ k ∈ kvs.map (·.1), valueAt ivs k = none) (hsz : lev.size ≤ 1000)
    (c1 : o1.data = .cell (some (.ref x))) (c3 : o3.data = .cell (some (.ref D))) (h1 : x < S2) (h2 : S2 < D2) (h3 : D2 < G) (h4 : dx < x) (hL : L' + 1 + 1 + 1 < LE) (hLE : LE < dx) (hDL : D < L') (hbG : ∀ p ∈ big, p.1 ≠ G) (hbL : ∀ p ∈ big, p.1 ≠ LE)
    (Y : Ty 20 w p loose mean mg mb dp un gd cn cs L a ccd cl outer base g)
    (F : Fr g L' s.heap (mlt pp gp sp (some (.ref LE)) wp none))
    (N : News g L' s.heap ((G, oG) :: (D2, listOf #[] 0) :: (S2, oS) :: (x, instObj 139 dx) :: (dx, dictOf (igE w.params k1 k2 k3 S2 D2 G) 3) :: (LE, listOf lev lec) :: (L' + 1 + 1 + 1, o1) :: (L' + 1 + 1, o2) :: (L' + 1, o3) :: (D, oD) :: big))
    (hq : ∀ (T : Nat) ys h' tk' d oG', G < T → (∀ p ∈ big, p.1 < T) → StrsAre ys ((kvs.map (·.1)).filter (outP ws)) → Fr g L' h' (mlt pp gp sp (some (.ref LE)) wp none) →
      News g L' h' ((T, tupO ys.toArray 0) :: (G, oG') :: (D2, listOf #[] 0) :: (S2, oS) :: (x, instObj 139 dx) :: (dx, dictOf (igE w.params k1 k2 k3 S2 D2 G) 3) :: (LE, listOf (lev.push (.ref T)) (lec + 1)) :: (L' + 1 + 1 + 1, o1) :: (L' + 1 + 1, o2) :: (L' + 1, o3) :: (D, oD) :: big) →
      QF .next { s with heap := h', toks := tk', drawn := d }) :
    wpAny (model prog w) ((ktrTop dp un gd cn cs L a ccd cl outer).deeper (ltEnv L')) (execs lt2q (ltEnv L')) QF (fun _ _ => False) s := by
  obtain ⟨hk, hd, hun, B, X, T0⟩ := Y
  k_steps
  unfold Marked
  refine comp_dict (kvs := kvs) (fun i ys nw => ∃ oG' ivs', oG'.IsDictOf (strKind prog w) ivs' ∧ ivs'.length = ivs.length + i ∧ (∀ k ∈ (kvs.map (·.1)).drop i, valueAt ivs' k = none) ∧ StrsAre ys (((kvs.map (·.1)).take i).filter (outP ws)) ∧
    nw = ((G, oG') :: (D2, listOf #[] 0) :: (S2, oS) :: (x, instObj 139 dx) :: (dx, dictOf (igE w.params k1 k2 k3 S2 D2 G) 3) :: (LE, listOf lev lec) :: (L' + 1 + 1 + 1, o1) :: (L' + 1 + 1, o2) :: (L' + 1, o3) :: (D, oD) :: big)) rfl (by first | k_extra "OM" | (first | lia | omega)) (by decide) rfl rfl F N (by k_mem) hdD lo ?_ ?_ ?_ ?_ ?_
  · exact ⟨oG, ivs, hdG, rfl, hiv, .nil, rfl⟩
  · rintro i ys nw ⟨oG', ivs', h5, h6, h7, h8, rfl⟩
    k_mem
  · rintro i ys nw ⟨oG', ivs', h5, h6, h7, h8, rfl⟩
    rw [h8.length]
    exact Nat.le_trans (List.length_filter_le _ _) (by rw [List.length_take]; exact Nat.min_le_left _ _)
  · rintro i v k t ys nw I2 C2 D3 oI oC m₂ h tk d hkv ⟨oG', ivs', h5, h6, h7, h8, rfl⟩ hC' hx' F4 N4 off hID hDC hlt
    have hkn : (kvs.map (·.1))[i]? = some k := by rw [List.getElem?_map, hkv]; rfl
    have hil : i < kvs.length := (List.getElem?_eq_some_iff.mp hkv).1
    have hdr : (kvs.map (·.1)).drop i = k :: (kvs.map (·.1)).drop (i + 1) := by
      rw [List.drop_eq_getElem_cons (by rw [List.length_map]; exact hil)]
      rw [(List.getElem?_eq_some_iff.mp hkn).2]
    have hno : valueAt ivs' k = none := h7 k (by rw [hdr]; exact .head _)
    have hiz' : ivs'.length ≤ 1000 := by (first | lia | omega)
    have hGI : G < I2 := hlt (G, oG) (.head _)
    have he1 : ((I2, oI) : Addr × Obj).1 ≠ G := Nat.ne_of_gt hGI
    have he2 : ((C2, oC) : Addr × Obj).1 ≠ G := Nat.ne_of_gt (by first | k_extra "OM" | (first | lia | omega))
    have he3 : ((D3, lst ys) : Addr × Obj).1 ≠ G := Nat.ne_of_gt (by first | k_extra "OM" | (first | lia | omega))
    have hrG : ∀ p ∈ ((LE, listOf lev lec) :: (L' + 1 + 1 + 1, o1) :: (L' + 1 + 1, o2) :: (L' + 1, o3) :: (D, oD) :: big), p.1 ≠ G := by
      intro p hp
      revert p hp
      refine allP_cons ?_ (allP_cons ?_ (allP_cons ?_ (allP_cons ?_ (allP_cons ?_ (fun p hp => ?_)))))
      · exact Nat.ne_of_lt (by first | k_extra "OM" | (first | lia | omega))
      · exact Nat.ne_of_lt (by first | k_extra "OM" | (first | lia | omega))
      · exact Nat.ne_of_lt (by first | k_extra "OM" | (first | lia | omega))
      · exact Nat.ne_of_lt (by first | k_extra "OM" | (first | lia | omega))
      · exact Nat.ne_of_lt (by first | k_extra "OM" | (first | lia | omega))
      · exact hbG p hp
    have nxt : ∀ r, ∀ k' ∈ (kvs.map (·.1)).drop (i + 1), valueAt (ivs' ++ [(k, r)]) k' = none := fun r k' hk' => by
      refine valueAt_snoc (h7 k' (by rw [hdr]; exact .tail _ hk')) ?_
      rintro rfl
      have := hnd.sublist (List.drop_sublist i _)
      rw [hdr] at this
      exact (List.nodup_cons.mp this).1 hk'
    have tk1 : ((kvs.map (·.1)).take (i + 1)).filter (outP ws) = ((kvs.map (·.1)).take i).filter (outP ws) ++ if outP ws k then [k] else [] := by
      rw [List.take_add_one, hkn, List.filter_append]
      cases hq9 : outP ws k <;> simp [hq9]
    have offG : ∀ (o : Obj), ∀ p ∈ ((G, o) :: (D2, listOf #[] 0) :: (S2, oS) :: (x, instObj 139 dx) :: (dx, dictOf (igE w.params k1 k2 k3 S2 D2 G) 3) :: (LE, listOf lev lec) :: (L' + 1 + 1 + 1, o1) :: (L' + 1 + 1, o2) :: (L' + 1, o3) :: (D, oD) :: big), p.1 ≠ I2 ∧ p.1 ≠ C2 ∧ p.1 ≠ D3 := by
      intro o p hp
      rcases List.mem_cons.mp hp with rfl | hp
      · exact off (G, oG') (.head _)
      · exact off p (.tail _ hp)
    refine cend_gen fun Q1 Q2 hy hn => ?_
    k_steps
    · rename News _ _ _ _ => N9
      rename Fr _ _ _ _ => F9
      rename _ = outP ws k => hb9
      rename Obj.IsDictOf _ _ _ => od9
      refine hn _ _ _ _ F9 N9 (CEnd_off (offG _)) ⟨_, _, od9, ?_, nxt _, ?_, rfl⟩
      · rw [List.length_append, h6]; simp; (first | lia | omega)
      · rw [tk1, ← hb9]; simpa using h8
    · rename News _ _ _ _ => N9
      rename Fr _ _ _ _ => F9
      rename _ = outP ws k => hb9
      rename Obj.IsDictOf _ _ _ => od9
      refine hy _ _ _ _ _ F9 N9 (CEnd_off (offG _)) ⟨_, _, od9, ?_, nxt _, ?_, rfl⟩
      · rw [List.length_append, h6]; simp; (first | lia | omega)
      · rw [tk1, ← hb9]; exact strs_snoc h8
  · rintro D3 h tk d nw ys F4 N4 off hlt ⟨oG', ivs', h5, h6, h7, h8, rfl⟩
    have hst9 : Strs ((kvs.map (·.1)).filter (outP ws)) ys.toArray := by
      have e9 : (kvs.map (·.1)).take kvs.length = kvs.map (·.1) := by rw [← List.length_map (f := (·.1))]; exact List.take_length
      rw [e9] at h8
      exact h8
    have hlz : ((kvs.map (·.1)).filter (outP ws)).length ≤ 1000 := Nat.le_trans (List.length_filter_le _ _) (by rw [List.length_map]; (first | lia | omega))
    rw [← lst_listOf] at N4
    have hD3 : LE < D3 := hlt (LE, listOf lev lec) (by first | k_extra "MEM" | simp)
    k_steps
    rename News _ _ _ _ => N9
    rename Fr _ _ _ _ => F9
    rename D3 < _ ∧ _ => l9
    obtain ⟨q0, q1, q2, q3, q4, q5, q6, q7, q8, q9, q10, q11⟩ := l9
    refine hq _ ys _ _ _ oG' q1 (of_allLt q11) hst9 F9 (news_sub N9 fun p hp => ?_)
    rcases List.mem_cons.mp hp with rfl | hp
    · exact .head _
    · exact .tail _ (.tail _ hp)
end
end
section
set_option tactic.hygienic false
section
variable {prog : Program} {w : World} {p : Program} {loose : List Str} {mean : ExcName → Option Value} {mg mb : Str → Option Value} {dp un : Nat} {gd : Option (List Code)} {cn : Str} {cs : Scope} {a : Addr} {ccd : Value} {cl : List (Str × Addr)} {outer : List Env} {A₀ : Around} {base h₀ : Heap} {L : Addr} {m : Str → Option Value} {news rest : List (Addr × Obj)} {s : Shared} {Q E : Value → Shared → Prop}
open PyProof.Rows.LCg
variable {g : Heap} {L' : Nat} {QF : Flow → Shared → Prop} {tups big : List (Addr × Obj)}
theorem IsT.mono {tups' : List (Addr × Obj)} {x : List Str} {v : Value} (h : IsT tups x v) (ht : ∀ p ∈ tups, p ∈ tups') : IsT tups' x v := by
  obtain ⟨T, items, c, e, hm, hs, ho⟩ := h
  exact ⟨T, items, c, e, ht _ hm, hs, ho⟩
theorem ListT.snoc {tups' : List (Addr × Obj)} {As : List (List Str)} {vs : Array Value} {x : List Str} {v : Value} (h : ListT tups As vs) (ht : ∀ p ∈ tups, p ∈ tups') (hx : IsT tups' x v) : ListT tups' (As ++ [x]) (vs.push v) := by
  refine ⟨by simp [h.1], fun k y hk => ?_⟩
  rcases Nat.lt_trichotomy k As.length with hlt | rfl | hgt
  · rw [List.getElem?_append_left hlt] at hk
    obtain ⟨u, hu, hi⟩ := h.2 k y hk
    exact ⟨u, by rw [Array.getElem?_push_lt (by rw [h.1]; exact hlt)]; rw [Array.getElem?_eq_getElem (by rw [h.1]; exact hlt)] at hu; exact hu, hi.mono ht⟩
  · rw [List.getElem?_append_right (Nat.le_refl _), Nat.sub_self] at hk
    simp at hk
    subst hk
    exact ⟨v, by rw [← h.1]; simp, hx⟩
  · rw [List.getElem?_eq_none (by simp; (first | lia | omega))] at hk
    cases hk
theorem ListT.nil' : ListT tups [] #[] := ⟨rfl, fun k x h => by simp at h⟩
theorem wd_KN7_47 : True := by
  k_with "exec For Name Name cons nil" => (k_here; (with_unfolding_all refine' For_enum ?_; k_whole))
  k_with "pyIter ref" => ((with_reducible show wpAny _ _ (pyIter (Value.ref _)) (fun it s₂ => EnumAt _ _ _ _ _ _ _ _ it s₂) _ _); refine mark ?_)
  trivial
noncomputable def lt2 : List Stmt := match ltB with | _ :: _ :: _ :: _ :: c :: _ => [c] | _ => []
noncomputable def leftOf (names : List Str) (W : List Str) : List Str := names.filter (outP W)
theorem leftOf_ok {names W : List Str} (h : names.all PyData.strOk = true) : (leftOf names W).all PyData.strOk = true := by
  rw [List.all_eq_true] at h ⊢
  exact fun x hx => h x ((List.mem_filter.mp hx).1)
theorem hand9 {α : Type} {p a b c d e f : α} {l : List α} (h : p ∈ f :: e :: c :: a :: b :: d :: l) : p ∈ a :: b :: c :: d :: e :: f :: l := by
  first | (refine sub_use ?_ h; k_extra "SUB") | (simp only [List.mem_cons, List.mem_append, List.cons_append, List.nil_append] at h ⊢; grind)
inductive JT2 (w : World) (p : Program) (loose : List Str) (mean : ExcName → Option Value) (mg mb : Str → Option Value) (dp un : Nat) (gd : Option (List Code)) (cn : Str) (cs : Scope) (L a : Addr) (ccd : Value) (cl : List (Str × Addr)) (outer : List Env) (base g : Heap) (Ws : List (List Str)) (names : List Str) (P SA LE D L' pc : Nat) (pv : Array Value) (oD o2 o3 : Obj) (big : List (Addr × Obj)) (i : Nat) (g₁ : Heap) : (Str → Option Value) → List (Addr × Obj) → Prop
  | mk (pgv wpv : Option Value) (sav : Array Value) (sac : Nat) (lev : Array Value) (lec : Nat) (o1' : Obj) (cv' : Option Value) (tups : List (Addr × Obj)) (c1' : o1'.data = .cell cv') (t1 : ListT tups (Ws.take i) sav) (t2 : ListT tups ((Ws.take i).map (leftOf names)) lev) (ho : ∀ p ∈ tups, LE < p.1)
      (KT : KtsTurn ((envX cn cs L a ccd cl :: outer).filterMap (·.frame)) g g₁) (KD : KtsDicts ((envX cn cs L a ccd cl :: outer).filterMap (·.frame)) g₁) (Y1 : Ty 20 w p loose mean mg mb dp un gd cn cs L a ccd cl outer base g₁) :
    JT2 w p loose mean mg mb dp un gd cn cs L a ccd cl outer base g Ws names P SA LE D L' pc pv oD o2 o3 big i g₁ (mlt (some (.ref P)) pgv (some (.ref SA)) (some (.ref LE)) wpv none) ((LE, listOf lev lec) :: (SA, listOf sav sac) :: (P, listOf pv pc) :: (L' + 1 + 1 + 1, o1') :: (L' + 1 + 1, o2) :: (L' + 1, o3) :: (D, oD) :: (tups ++ big))
theorem lt2_loop {P SA LE D : Nat} {oD o1 o2 o3 : Obj} {pv : Array Value} {pc sac lec : Nat} {pages : List Str} {Ws : List (List Str)} {kvs : List (Str × Value)} {cv : Option Value} (hp : Strs pages pv) (hpz : pages.length ≤ 100) (hWl : Ws.length = pages.length)
    (hlx : ∀ (i : Nat) pg, pages[i]? = some pg → ∃ W n k ws, Ws[i]? = some W ∧ pg.length ≤ 1000 ∧ lexs n k pg.cps.toList = some ws ∧ ws.map toS = W ∧ W.length ≤ 50 ∧ W.all PyData.strOk = true ∧ ∀ k ∈ W, k.length ≤ 1000)
    (hnm : (kvs.map (·.1)).all PyData.strOk = true) (hdD : oD.IsDictOf (strKind prog w) kvs) (lo : (D == sysModules) = false) (hkz : kvs.length ≤ 500) (hnd : (kvs.map (·.1)).Nodup) (hiv : ∀ k ∈ kvs.map (·.1), k ≠ Str.ofString "<string>")
    (c1 : o1.data = .cell cv) (c3 : o3.data = .cell (some (.ref D))) (XB : (K w.params).In base) (TB : Top p loose mean mg mb base) (DD : KtsDicts ((envX cn cs L a ccd cl :: outer).filterMap (·.frame)) g)
    (h1 : D < L') (h2 : L' + 1 + 1 + 1 < P) (h3 : P < SA) (h4 : SA < LE) (hbig : ∀ p ∈ big, p.1 < D)
    (Y : Ty 20 w p loose mean mg mb dp un gd cn cs L a ccd cl outer base g)
    (F : Fr g L' s.heap (mlt (some (.ref P)) none (some (.ref SA)) (some (.ref LE)) none none))
    (N : News g L' s.heap ((LE, listOf #[] lec) :: (SA, listOf #[] sac) :: (P, listOf pv pc) :: (L' + 1 + 1 + 1, o1) :: (L' + 1 + 1, o2) :: (L' + 1, o3) :: (D, oD) :: big))
    (hq : ∀ pgv wpv sav sac lev lec o1' tups g' h' tk d, ListT tups Ws sav → ListT tups (Ws.map (leftOf (kvs.map (·.1)))) lev → (∀ p ∈ tups, LE < p.1) →
      KtsTurn ((envX cn cs L a ccd cl :: outer).filterMap (·.frame)) g g' → KtsDicts ((envX cn cs L a ccd cl :: outer).filterMap (·.frame)) g' → Ty 20 w p loose mean mg mb dp un gd cn cs L a ccd cl outer base g' →
      Fr g' L' h' (mlt (some (.ref P)) pgv (some (.ref SA)) (some (.ref LE)) wpv none) → News g' L' h' ((LE, listOf lev lec) :: (SA, listOf sav sac) :: (P, listOf pv pc) :: (L' + 1 + 1 + 1, o1') :: (L' + 1 + 1, o2) :: (L' + 1, o3) :: (D, oD) :: (tups ++ big)) → QF .next { s with heap := h', toks := tk, drawn := d }) :
    wpAny (model prog w) ((ktrTop dp un gd cn cs L a ccd cl outer).deeper (ltEnv L')) (execs lt2 (ltEnv L')) QF (fun _ _ => False) s := by
  have Y' := Y
  obtain ⟨hk, hd, hun, B, X, T0⟩ := Y
  k_steps
  unfold Marked
  refine listg_inv (h₀ := g) (JT2 w p loose mean mg mb dp un gd cn cs L a ccd cl outer base g Ws (kvs.map (·.1)) P SA LE D L' pc pv oD o2 o3 big)
    rfl (by rfl) (by rfl) F N (by k_mem) ?_ ?_ (fun _ _ h => h.elim) ?_ ?_
  · exact ⟨none, none, _, _, _, _, o1, _, [], c1, .nil', .nil', (fun p hp => by cases hp), KtsTurn.refl, DD, Y'⟩
  · rintro i g₁ m₁ news₁ ⟨pgv, wpv, sav, sac, lev, lec, o1', cv', tups, c1', t1, t2, ho, KT, KD, Y1⟩
    k_mem
  · rintro i v g₁ m₁ news₁ h tk d I io hv ⟨pgv, wpv, sav, sac, lev, lec, o1', cv', tups, c1', t1, t2, ho, KT, KD, Y1⟩ hni hlI F4 N4
    obtain ⟨pg, tp, rfl, hpg⟩ := StrsAre.item hp i v (by rw [Array.getElem?_toList]; exact hv)
    obtain ⟨W, n, k, ws, hW, hlen, hlx9, rfl, hW50, hWok, hW1000⟩ := hlx i pg hpg
    have hil : i < pages.length := (List.getElem?_eq_some_iff.mp hpg).1
    have F5 := Fr.cast F4 mlt_page
    have hLEI : LE < I := hlI (LE, listOf #[] _) (.head _)
    have hsv : sav.size = i := by rw [t1.1, List.length_take]; (first | lia | omega)
    have hlv : lev.size = i := by rw [t2.1, List.length_map, List.length_take]; (first | lia | omega)
    have htI : ∀ p ∈ tups, p.1 ≠ I := fun p hp => hni p (by first | (have hzz := hp; k_extra "MEM") | simp [hp])
    have hb9 : ∀ p ∈ tups ++ big, p.1 ≠ SA ∧ p.1 ≠ L' + 1 + 1 + 1 := fun p hp => by
      rcases List.mem_append.mp hp with q | q
      · have := ho p q
        exact ⟨Nat.ne_of_gt (Nat.lt_trans h4 this), Nat.ne_of_gt (Nat.lt_trans (by first | k_extra "OM" | (first | lia | omega)) this)⟩
      · have := hbig p q
        exact ⟨Nat.ne_of_lt (Nat.lt_trans this (by first | k_extra "OM" | (first | lia | omega))), Nat.ne_of_lt (Nat.lt_trans this (by first | k_extra "OM" | (first | lia | omega)))⟩
    show wpAny _ _ (execs lt2Body (ltEnv L')) _ _ _
    rw [lt2Body_is]
    refine execs_app _ _ ?_
    refine lt2a (big := tups ++ big) hlen hlx9 (by rw [List.length_map] at hW50; (first | lia | omega)) (by first | k_extra "OM" | (first | lia | omega)) (by first | k_extra "OM" | (first | lia | omega)) c1' XB TB KD h1 h2 h3 h4 hLEI hb9 Y1 F5 N4 ?_
    intro x dx S2 D2 G T S vs c oS oG n9 k1 k2 k3 t91 o1'' g' h' tk' hst hIS hSd hdx hx2 hS2 hD2 hGT hbS hso hn9 hod hgm c1'' KT' B' X' T' KD' F6 N6
    have Y2 : Ty 20 w p loose mean mg mb dp un gd cn cs L a ccd cl outer base g' := ⟨hk, hd, hun, B', X', T'⟩
    show wpAny _ _ (execs lt2q (ltEnv L')) _ _ _
    have hbb : ∀ p ∈ ((T, tupO vs 0) :: (S, listOf vs c) :: (I, io) :: (SA, listOf (sav.push (.ref T)) (sac + 1)) :: (P, listOf pv pc) :: (tups ++ big)), p.1 ≠ G ∧ p.1 ≠ LE := fun p hp => by
      revert p hp
      refine allP_cons ?_ (allP_cons ?_ (allP_cons ?_ (allP_cons ?_ (allP_cons ?_ (fun p hp => ?_)))))
      · exact ⟨Nat.ne_of_gt (by first | k_extra "OM" | (first | lia | omega)), Nat.ne_of_gt (by first | k_extra "OM" | (first | lia | omega))⟩
      · exact ⟨Nat.ne_of_lt (by first | k_extra "OM" | (first | lia | omega)), Nat.ne_of_gt (by first | k_extra "OM" | (first | lia | omega))⟩
      · exact ⟨Nat.ne_of_lt (by first | k_extra "OM" | (first | lia | omega)), Nat.ne_of_gt (by first | k_extra "OM" | (first | lia | omega))⟩
      · exact ⟨Nat.ne_of_lt (by first | k_extra "OM" | (first | lia | omega)), Nat.ne_of_lt (by first | k_extra "OM" | (first | lia | omega))⟩
      · exact ⟨Nat.ne_of_lt (by first | k_extra "OM" | (first | lia | omega)), Nat.ne_of_lt (by first | k_extra "OM" | (first | lia | omega))⟩
      · refine ⟨Nat.ne_of_lt (Nat.lt_trans (hbS p hp) (by first | k_extra "OM" | (first | lia | omega))), ?_⟩
        rcases List.mem_append.mp hp with q | q
        · exact Nat.ne_of_gt (ho p q)
        · exact Nat.ne_of_lt (Nat.lt_trans (hbig p q) (by first | k_extra "OM" | (first | lia | omega)))
    refine lt2b (lec := lec) (k1 := k1) (k2 := k2) (k3 := k3) (o2 := o2) (big := (T, tupO vs 0) :: (S, listOf vs c) :: (I, io) :: (SA, listOf (sav.push (.ref T)) (sac + 1)) :: (P, listOf pv pc) :: (tups ++ big)) hso (by first | k_extra "OM" | (first | lia | omega)) hod hgm hW1000 hdD lo hkz (Nat.le_of_lt_succ (by show 1 < 101; (first | lia | omega))) hnd ?_ (show lev.size ≤ 1000 by (first | lia | omega)) c1'' c3 hx2 hS2 hD2 hdx (by first | k_extra "OM" | (first | lia | omega)) (by first | k_extra "OM" | (first | lia | omega)) h1 (fun p hp => (hbb p hp).1) (fun p hp => (hbb p hp).2) Y2 F6 ?_ ?_
    · intro k hk
      have := hiv k hk
      unfold valueAt
      rw [List.find?_cons_of_neg (by simpa using Ne.symm this)]
      rfl
    · exact news_sub N6 fun p hp => by
        first | (refine sub_use ?_ hp; k_extra "SUB") | (simp only [List.mem_cons, List.mem_append, List.cons_append, List.nil_append] at hp ⊢; grind)
    · intro T2 ys h7 tk7 d7 oG7 hGT2 hbT2 hys F7 N7
      have hTT : T < T2 := hbT2 (T, tupO vs 0) (.head _)
      refine ⟨g', h7, tk7, d7, _, (LE, listOf (lev.push (.ref T2)) (lec + 1)) :: (SA, listOf (sav.push (.ref T)) (sac + 1)) :: (P, listOf pv pc) :: (L' + 1 + 1 + 1, o1'') :: (L' + 1 + 1, o2) :: (L' + 1, o3) :: (D, oD) :: (((T, tupO vs 0) :: (T2, tupO ys.toArray 0) :: tups) ++ big), rfl, F7, ?_, ?_, ?_⟩
      · exact news_sub N7 fun p hp => by
          first | (refine sub_use ?_ hp; k_extra "SUB") | (simp only [List.mem_cons, List.mem_append, List.cons_append, List.nil_append] at hp ⊢; grind)
      · intro p hp q hq
        rw [List.mem_singleton.mp hq]
        revert p hp
        refine allP_cons ?_ (allP_cons ?_ (allP_cons ?_ (allP_cons ?_ (allP_cons ?_ (allP_cons ?_ (allP_cons ?_ (allP_cons ?_ (allP_cons ?_ (fun p hp => ?_)))))))))
        · exact Nat.ne_of_lt (by first | k_extra "OM" | (first | lia | omega))
        · exact Nat.ne_of_lt (by first | k_extra "OM" | (first | lia | omega))
        · exact Nat.ne_of_lt (by first | k_extra "OM" | (first | lia | omega))
        · exact Nat.ne_of_lt (by first | k_extra "OM" | (first | lia | omega))
        · exact Nat.ne_of_lt (by first | k_extra "OM" | (first | lia | omega))
        · exact Nat.ne_of_lt (by first | k_extra "OM" | (first | lia | omega))
        · exact Nat.ne_of_lt (by first | k_extra "OM" | (first | lia | omega))
        · exact Nat.ne_of_gt (by first | k_extra "OM" | (first | lia | omega))
        · exact Nat.ne_of_gt (by first | k_extra "OM" | (first | lia | omega))
        · rcases List.mem_append.mp hp with q | q
          · exact htI p q
          · exact Nat.ne_of_lt (Nat.lt_trans (hbig p q) (by first | k_extra "OM" | (first | lia | omega)))
      · refine ⟨_, _, _, _, _, _, o1'', _, (T, tupO vs 0) :: (T2, tupO ys.toArray 0) :: tups, c1'', ?_, ?_, ?_, KT.trans KT', KD', Y2⟩
        · rw [List.take_add_one, hW]
          exact t1.snoc (fun p hp => .tail _ (.tail _ hp)) ⟨T, vs, 0, rfl, .head _, hst, hWok⟩
        · rw [List.take_add_one, hW, List.map_append]
          exact t2.snoc (fun p hp => .tail _ (.tail _ hp)) ⟨T2, ys.toArray, 0, rfl, .tail _ (.head _), hys, leftOf_ok hnm⟩
        · intro p hp
          revert p hp
          refine allP_cons ?_ (allP_cons ?_ (fun p hp => ?_))
          · show LE < T
            first | k_extra "OM" | (first | lia | omega)
          · show LE < T2
            first | k_extra "OM" | (first | lia | omega)
          · exact ho p hp
  · rintro g₁ h tk d m' news' F4 N4 ⟨pgv, wpv, sav, sac, lev, lec, o1', cv', tups, c1', t1, t2, ho, KT, KD, Y1⟩
    rw [hp.size, ← hWl, List.take_length] at t1 t2
    refine wpAny_execs_nil ?_
    exact hq _ _ _ _ _ _ o1' tups g₁ _ _ _ t1 t2 ho KT KD Y1 F4 N4
end
end
section
section
variable {prog : Program} {w : World} {p : Program} {loose : List Str} {mean : ExcName → Option Value} {mg mb : Str → Option Value} {dp un : Nat} {gd : Option (List Code)} {cn : Str} {cs : Scope} {a : Addr} {ccd : Value} {cl : List (Str × Addr)} {outer : List Env} {A₀ : Around} {base h₀ : Heap} {L : Addr} {m : Str → Option Value} {news rest : List (Addr × Obj)} {s : Shared} {Q E : Value → Shared → Prop}
open PyProof.Rows.LCg
variable {g : Heap} {L' : Nat} {QF : Flow → Shared → Prop} {tups big : List (Addr × Obj)}
theorem wd_KN8_48 : True := by
  k_with "eval ListComp" => (k_here; k_dflt (refine comp_go (by with_unfolding_all rfl) (by rfl) (by decide) ?_); k_whole)
  k_with "exec Assign cons ListComp" => (k_here; k_dflt (refine assign_comp (by rfl) (by with_unfolding_all rfl) (by rfl) (by decide) (by rfl) (by rfl) (by k_asm) ?_); k_whole)
  k_with "pyIter ref" => ((with_reducible show wpAny _ _ (pyIter (Value.ref _)) (fun it s₂ => CompAt _ _ _ _ _ _ _ _ _ it s₂) _ _); refine mark ?_)
  k_with "call ref" => (k_here; k_dflt (refine' cd_call ?zA ?zB ?z1 ?z2 ?zt ?zC ?_; (case zC => walk_at "CX"); (case zA => assumption); (case zB => assumption); (case z1 => assumption); (case z2 => assumption); (case zt => assumption)); intro _ _ _ _ _ _ _ _ _ _ _)
  k_with "call type:tuple" => (k_here; k_dflt (refine' tupleK ?zh ?zF ?zN ?zX ?zm ?zz ?_; (case zh => rfl); (case zF => k_asm); (case zN => k_asm); (case zX => k_asm); (case zm => assumption); (case zz => exact Nat.le_of_ble_eq_true rfl)); intro _ _ _ _ _ _)
  trivial
/-- tuples made of mismatches -/
noncomputable def OutT (tt tups : List (Addr × Obj)) (out : List (Nat × Nat × List Str)) (ys : List Value) : Prop :=
  ys.length = out.length ∧ ∀ (k : Nat) (a b : Nat) (x : List Str), out[k]? = some (a, b, x) → ∃ (T : Nat) (ta tb : Tok) (u : Value), ys[k]? = some (.ref T) ∧ (T, tupO #[.int (a : Nat) ta, .int (b : Nat) tb, u] 0) ∈ tt ∧ IsT tups x u
theorem OutT.nil {tt tups : List (Addr × Obj)} : OutT tt tups [] [] := ⟨rfl, fun k a b x h => by simp at h⟩
theorem OutT.snoc {tt tups : List (Addr × Obj)} {out : List (Nat × Nat × List Str)} {ys : List Value} (h : OutT tt tups out ys) {a b : Nat} {x : List Str} {T : Nat} {ta tb : Tok} {u : Value} (hu : IsT tups x u) :
    OutT ((T, tupO #[.int (a : Nat) ta, .int (b : Nat) tb, u] 0) :: tt) tups (out ++ [(a, b, x)]) (ys ++ [.ref T]) := by
  refine ⟨by simp [h.1], fun k a' b' x' hk => ?_⟩
  rcases Nat.lt_trichotomy k out.length with hlt | rfl | hgt
  · rw [List.getElem?_append_left hlt] at hk
    obtain ⟨T', ta', tb', u', h1, h2, h3⟩ := h.2 k a' b' x' hk
    exact ⟨T', ta', tb', u', by rw [List.getElem?_append_left (by rw [h.1]; exact hlt)]; exact h1, .tail _ h2, h3⟩
  · rw [List.getElem?_append_right (Nat.le_refl _), Nat.sub_self] at hk
    simp at hk
    obtain ⟨rfl, rfl, rfl⟩ := hk
    exact ⟨T, ta, tb, u, by rw [← h.1]; simp, .head _, hu⟩
  · rw [List.getElem?_eq_none (by simp; (first | lia | omega))] at hk
    cases hk
noncomputable def wdD (W : List Str) : PyData := .tuple (W.map PyData.str)
noncomputable def outD (o : Nat × Nat × List Str) : PyData := .tuple [.int o.1, .int o.2.1, wdD o.2.2]
theorem readsAll_of {h : Heap} : ∀ {vs : List Value} {ds : List PyData}, vs.length = ds.length → (∀ (k : Nat) d, ds[k]? = some d → ∃ v, vs[k]? = some v ∧ Reads h v d []) → ReadsAll h vs ds []
  | [], [], _, _ => .nil
  | v :: vs, d :: ds, e, H => by
    obtain ⟨v', h1, h2⟩ := H 0 d rfl
    simp at h1
    subst h1
    exact readsAll_cons_val h2 (readsAll_of (by simpa using e) fun k d' hk => by
      obtain ⟨v', h3, h4⟩ := H (k + 1) d' (by simpa using hk)
      exact ⟨v', by simpa using h3, h4⟩)
  | [], _ :: _, e, _ => by simp at e
  | _ :: _, [], e, _ => by simp at e
theorem IsT.readsAt {h : Heap} {tups : List (Addr × Obj)} {x : List Str} {v : Value} (hx : IsT tups x v) (ht : ∀ p ∈ tups, h.get? p.1 = some p.2) : Reads h v (wdD x) [] := by
  obtain ⟨T, items, c, rfl, hm, hst, hok⟩ := hx
  exact reads_tuple_at (ht _ hm) rfl rfl (readsAll_strs hst)
theorem ListT.readsAt {h : Heap} {tups : List (Addr × Obj)} {As : List (List Str)} {vs : Array Value} (H : ListT tups As vs) (ht : ∀ p ∈ tups, h.get? p.1 = some p.2) : ReadsAll h vs.toList (As.map wdD) [] := by
  refine readsAll_of (by first | (have hzz := H.1; k_extra "MEM") | simp [H.1]) fun k d hk => ?_
  rw [List.getElem?_map] at hk
  obtain ⟨x, hx, rfl⟩ := Option.map_eq_some_iff.mp hk
  obtain ⟨v, hv, hi⟩ := H.2 k x hx
  exact ⟨v, by rw [Array.getElem?_toList]; exact hv, hi.readsAt ht⟩
theorem OutT.readsAt {h : Heap} {tt tups : List (Addr × Obj)} {out : List (Nat × Nat × List Str)} {ys : List Value} (H : OutT tt tups out ys) (h1 : ∀ p ∈ tt, h.get? p.1 = some p.2) (ht : ∀ p ∈ tups, h.get? p.1 = some p.2) : ReadsAll h ys (out.map outD) [] := by
  refine readsAll_of (by first | (have hzz := H.1; k_extra "MEM") | simp [H.1]) fun k d hk => ?_
  rw [List.getElem?_map] at hk
  obtain ⟨⟨a, b, x⟩, hx, rfl⟩ := Option.map_eq_some_iff.mp hk
  obtain ⟨T, ta, tb, u, hy, hm, hu⟩ := H.2 k a b x hx
  exact ⟨_, hy, reads_tuple_at (h1 _ hm) rfl rfl (readsAll_cons_val (.int _ _) (readsAll_cons_val (.int _ _) (readsAll_cons_val (hu.readsAt ht) .nil)))⟩
noncomputable def lt3 : List Stmt := match ltB with | _ :: _ :: _ :: _ :: _ :: r => r | _ => []
noncomputable def toldD (As Ws : List (List Str)) : PyData := .list [.list (Ws.map wdD), .list (As.map wdD), .list ((cdap As Ws).map outD)]
theorem lt3_end {P SA LE D : Nat} {oD o1 o2 o3 : Obj} {pv lev sav : Array Value} {pc sac lec : Nat} {As Ws : List (List Str)} {pgv wpv : Option Value} (tA : ListT tups As lev) (tW : ListT tups Ws sav) (hzA : As.length ≤ 200) (hzB : Ws.length ≤ 200) (hout : (cdap As Ws).length ≤ 500)
    (Y : Ty 20 w p loose mean mg mb dp un gd cn cs L a ccd cl outer base g)
    (F : Fr g L' s.heap (mlt (some (.ref P)) pgv (some (.ref SA)) (some (.ref LE)) wpv none))
    (N : News g L' s.heap ((LE, listOf lev lec) :: (SA, listOf sav sac) :: (P, listOf pv pc) :: (L' + 1 + 1 + 1, o1) :: (L' + 1 + 1, o2) :: (L' + 1, o3) :: (D, oD) :: (tups ++ big)))
    (hq : ∀ (RL TO : Nat) led m' h' tk', Fr g L' h' m' → News g L' h' led → (∀ p ∈ (D, oD) :: big, p ∈ led) →
      (∀ h : Heap, (∀ p ∈ led, h.get? p.1 = some p.2) → Reads h (.ref RL) (toldD As Ws) [RL, SA, LE, TO]) → QF (.ret (.ref RL)) { s with heap := h', toks := tk' }) :
    wpAny (model prog w) ((ktrTop dp un gd cn cs L a ccd cl outer).deeper (ltEnv L')) (execs lt3 (ltEnv L')) QF (fun _ _ => False) s := by
  obtain ⟨hk, hd, hun, B, X, T0⟩ := Y
  have ht9 : ∀ p ∈ tups, p ∈ ((P, listOf pv pc) :: (L' + 1 + 1 + 1, o1) :: (L' + 1 + 1, o2) :: (L' + 1, o3) :: (D, oD) :: (tups ++ big)) := fun p hp => by first | k_extra "MEM" | simp [hp]
  k_steps
  unfold Marked
  rename OutV _ _ _ _ => ov
  rename News _ _ _ _ => N1
  rename Fr _ _ _ _ => F1
  rename_i R rv rc mis h1 tk1 lm lR
  obtain ⟨hov1, hov⟩ := ov
  refine comp_list0 (fun i ys nw => ∃ tt, OutT tt tups ((cdap As Ws).take i) ys ∧ nw = tt ++ ((R, listOf rv rc) :: (mis ++ ((LE, listOf lev lec) :: (SA, listOf sav sac) :: (P, listOf pv pc) :: (L' + 1 + 1 + 1, o1) :: (L' + 1 + 1, o2) :: (L' + 1, o3) :: (D, oD) :: (tups ++ big)))))
    rfl (by rw [hov1]; (first | lia | omega)) (by decide) rfl rfl F1 N1 (.head _) ⟨[], .nil, rfl⟩ ?_ ?_ ?_ ?_
  · rintro i ys nw ⟨tt, ho, rfl⟩
    first | k_extra "MEM" | simp
  · rintro i ys nw ⟨tt, ho, rfl⟩
    rw [ho.1, List.length_take]
    exact Nat.min_le_left _ _
  · rintro i v ys nw I2 C2 D2 oI oC m₂ h tk hi hv ⟨tt, ho, rfl⟩ hC' hx' F4 N4 off hID hDC hlt
    have hil : i < (cdap As Ws).length := by rw [← hov1]; exact hi
    obtain ⟨⟨ca, cb, x⟩, hx⟩ : ∃ o, (cdap As Ws)[i]? = some o := ⟨_, List.getElem?_eq_getElem hil⟩
    obtain ⟨XX, dx, ta, tb, u, hrv, hmm, hu⟩ := hov i ca cb x hx
    rw [hv] at hrv
    obtain rfl := Option.some.inj hrv
    have hm9 : (XX, misObj dx #[.int (ca : Nat) ta, .int (cb : Nat) tb, u] 0) ∈ ((I2, oI) :: (C2, oC) :: (D2, lst ys) :: (tt ++ ((R, listOf rv rc) :: (mis ++ ((LE, listOf lev lec) :: (SA, listOf sav sac) :: (P, listOf pv pc) :: (L' + 1 + 1 + 1, o1) :: (L' + 1 + 1, o2) :: (L' + 1, o3) :: (D, oD) :: (tups ++ big)))))) := by first | k_extra "MEM" | simp [hmm]
    refine cend0_gen fun Q1 hy => ?_
    k_steps
    rename News _ _ _ _ => N9
    rename Fr _ _ _ _ => F9
    rename (∀ p ∈ ((I2, oI) :: _), p.1 < _) => l9
    rename_i T9 h9 tk9
    refine hy _ _ _ ((T9, tupO #[.int (ca : Nat) ta, .int (cb : Nat) tb, u] 0) :: (tt ++ ((R, listOf rv rc) :: (mis ++ ((LE, listOf lev lec) :: (SA, listOf sav sac) :: (P, listOf pv pc) :: (L' + 1 + 1 + 1, o1) :: (L' + 1 + 1, o2) :: (L' + 1, o3) :: (D, oD) :: (tups ++ big)))))) F9 (news_sub N9 fun p hp => ?_) (CEnd_off fun p hp => ?_) ⟨(T9, tupO #[.int (ca : Nat) ta, .int (cb : Nat) tb, u] 0) :: tt, ?_, rfl⟩
    · refine sub_use ?_ hp
      k_extra "SUB"
    · rcases List.mem_cons.mp hp with rfl | hp
      · exact ⟨Nat.ne_of_gt (l9 (I2, oI) (.head _)), Nat.ne_of_gt (l9 (C2, oC) (.tail _ (.head _))), Nat.ne_of_gt (l9 (D2, lst ys) (.tail _ (.tail _ (.head _))))⟩
      · exact off p hp
    · rw [List.take_add_one, hx]
      exact ho.snoc hu
  · rintro D3 h tk nw ys F4 N4 off hlt ⟨tt, ho, rfl⟩
    rw [← lst_listOf] at N4
    refine ⟨_, F4, N4, fun h5 tk5 F5 N5 => ?_⟩
    have F6 : Fr g L' h5 _ := Fr.cast F5 mlt_told
    clear F5
    try dsimp only
    k_steps
    rename News _ _ _ _ => N9
    rename Fr _ _ _ _ => F9
    have e9 : (cdap As Ws).take rv.size = cdap As Ws := by rw [hov1]; exact List.take_length
    rw [e9] at ho
    refine hq _ D3 _ _ _ _ F9 N9 (fun p hp => ?_) fun hh H => ?_
    · simp only [List.mem_cons, List.mem_append] at hp ⊢
      rcases hp with hp | hp <;> simp [hp]
    · have hT : ∀ p ∈ tups, hh.get? p.1 = some p.2 := fun p hp => H p (by first | (have hzz := hp; k_extra "MEM") | simp [hp])
      refine reads_list_at (H _ (.head _)) rfl rfl ?_
      refine .cons (reads_list_at (vs := sav) (n := sac) (H (SA, listOf sav sac) (by first | k_extra "MEM" | simp)) rfl rfl (tW.readsAt hT)) (.cons (reads_list_at (vs := lev) (n := lec) (H (LE, listOf lev lec) (by first | k_extra "MEM" | simp)) rfl rfl (tA.readsAt hT)) (.cons (reads_list_at (vs := ys.toArray) (n := ys.length) (H (D3, listOf ys.toArray ys.length) (by first | k_extra "MEM" | simp)) rfl rfl (by
        have := ho.readsAt (h := hh) (fun p hp => H p (by first | (have hzz := hp; k_extra "MEM") | simp [hp])) hT
        simpa using this)) .nil))
end
end
section
section
variable {prog : Program} {w : World} {p : Program} {loose : List Str} {mean : ExcName → Option Value} {mg mb : Str → Option Value} {dp un : Nat} {gd : Option (List Code)} {cn : Str} {cs : Scope} {a : Addr} {ccd : Value} {cl : List (Str × Addr)} {outer : List Env} {A₀ : Around} {base h₀ : Heap} {L : Addr} {m : Str → Option Value} {news rest : List (Addr × Obj)} {s : Shared} {Q E : Value → Shared → Prop}
open PyProof.Rows.LCg
variable {g : Heap} {L' : Nat} {QF : Flow → Shared → Prop} {tups big : List (Addr × Obj)}
noncomputable def lt0 : List Stmt := match ltB with | a :: _ => [a] | _ => []
noncomputable def ltm : List Stmt := match ltB with | _ :: _ :: a :: b :: _ => [a, b] | _ => []
theorem ltB_is : ltB = lt0 ++ (lt1 ++ (ltm ++ (lt2 ++ lt3))) := by rfl
/-- what the told half asks of a book -/
structure BookOk (bk : List (Str × Str)) (Ws : List (List Str)) : Prop where
  pz : ∀ k ≤ bk.length, (pagesOf (bk.take k)).length ≤ 100
  pl : ∀ k ≤ bk.length, ∀ q ∈ pagesOf (bk.take k), q.length ≤ 500
  rl : ∀ e ∈ bk, e.2.length ≤ 50
  nd : (bk.map (·.1)).Nodup
  ne : ∀ k ∈ bk.map (·.1), k ≠ Str.ofString "<string>"
  ok : (bk.map (·.1)).all PyData.strOk = true
  wl : Ws.length = (pagesOf bk).length
  lx : ∀ (i : Nat) pg, (pagesOf bk)[i]? = some pg → ∃ W n k ws, Ws[i]? = some W ∧ pg.length ≤ 1000 ∧ lexs n k pg.cps.toList = some ws ∧ ws.map toS = W ∧ W.length ≤ 50 ∧ W.all PyData.strOk = true ∧ ∀ k ∈ W, k.length ≤ 1000
  out : (cdap (Ws.map (leftOf (bk.map (·.1)))) Ws).length ≤ 500
  bz : bk.length ≤ 100
theorem BookV.keys : ∀ {bk : List (Str × Str)} {kvs : List (Str × Value)}, BookV bk kvs → kvs.map (·.1) = bk.map (·.1)
  | [], [], _ => rfl
  | e :: bk, f :: kvs, h => by
    rw [List.map_cons, List.map_cons, BookV.keys h.2, h.1.1]
  | [], _ :: _, h => h.elim
  | _ :: _, [], h => h.elim
theorem valueAt_nodup : ∀ {kvs : List (Str × Value)}, (kvs.map (·.1)).Nodup → ∀ (k : Nat) (nm : Str) (v : Value), kvs[k]? = some (nm, v) → valueAt kvs nm = some v
  | [], _, k, nm, v, h => by simp at h
  | e :: r, hn, 0, nm, v, h => by
    simp at h
    subst h
    unfold valueAt
    simp
  | e :: r, hn, k + 1, nm, v, h => by
    simp at h
    have hn' := List.nodup_cons.mp hn
    have hm : nm ∈ r.map (·.1) := List.mem_map.mpr ⟨_, List.mem_of_getElem? h, rfl⟩
    have hne : e.1 ≠ nm := fun q => hn'.1 (by show e.1 ∈ _; rw [q]; exact hm)
    have := valueAt_nodup hn'.2 k nm v h
    unfold valueAt at this ⊢
    rw [List.find?_cons_of_neg (by simpa using hne)]
    exact this
theorem lt0_st {D : Nat} {oD o1 o2 o3 : Obj}
    (Y : Ty 20 w p loose mean mg mb dp un gd cn cs L a ccd cl outer base g)
    (F : Fr g L' s.heap (mlt none none none none none none))
    (N : News g L' s.heap ((L' + 1 + 1 + 1, o1) :: (L' + 1 + 1, o2) :: (L' + 1, o3) :: (D, oD) :: big))
    (hq : ∀ (P : Nat) pv pc h' tk', Strs [Str.ofString ""] pv → L' + 1 + 1 + 1 < P → Fr g L' h' (mlt (some (.ref P)) none none none none none) → News g L' h' ((P, listOf pv pc) :: (L' + 1 + 1 + 1, o1) :: (L' + 1 + 1, o2) :: (L' + 1, o3) :: (D, oD) :: big) → QF .next { s with heap := h', toks := tk' }) :
    wpAny (model prog w) ((ktrTop dp un gd cn cs L a ccd cl outer).deeper (ltEnv L')) (execs lt0 (ltEnv L')) QF (fun _ _ => False) s := by
  obtain ⟨hk, hd, hun, B, X, T0⟩ := Y
  k_steps
  rename News _ _ _ _ => N1
  rename Fr _ _ _ _ => F1
  rename L' + 1 + 1 + 1 < _ ∧ _ => l1
  exact hq _ _ _ _ _ (.cons _ _ .nil) l1.1 (Fr.cast F1 mlt_pages) N1
theorem ltm_st {D P : Nat} {oD o1 o2 o3 : Obj} {pv : Array Value} {pc : Nat}
    (Y : Ty 20 w p loose mean mg mb dp un gd cn cs L a ccd cl outer base g)
    (F : Fr g L' s.heap (mlt (some (.ref P)) none none none none none))
    (N : News g L' s.heap ((P, listOf pv pc) :: (L' + 1 + 1 + 1, o1) :: (L' + 1 + 1, o2) :: (L' + 1, o3) :: (D, oD) :: big))
    (hq : ∀ (SA LE : Nat) sac lec h' tk', P < SA → SA < LE → Fr g L' h' (mlt (some (.ref P)) none (some (.ref SA)) (some (.ref LE)) none none) → News g L' h' ((LE, listOf #[] lec) :: (SA, listOf #[] sac) :: (P, listOf pv pc) :: (L' + 1 + 1 + 1, o1) :: (L' + 1 + 1, o2) :: (L' + 1, o3) :: (D, oD) :: big) → QF .next { s with heap := h', toks := tk' }) :
    wpAny (model prog w) ((ktrTop dp un gd cn cs L a ccd cl outer).deeper (ltEnv L')) (execs ltm (ltEnv L')) QF (fun _ _ => False) s := by
  obtain ⟨hk, hd, hun, B, X, T0⟩ := Y
  k_steps
  rename News _ _ _ _ => N1
  rename Fr _ _ _ _ => F1
  rename P < _ ∧ _ => l1
  rename _ < _ ∧ P < _ ∧ _ => l2
  have F2 := Fr.cast (Fr.cast F1 (fun z => by rw [mlt_said])) mlt_left
  exact hq _ _ _ _ _ _ l1.1 l2.1 F2 N1
theorem told_body {D : Nat} {oD o1 o2 o3 : Obj} {bk : List (Str × Str)} {Ws : List (List Str)} {kvs : List (Str × Value)} {cv cv2 : Option Value} (O : BookOk bk Ws) (hd9 : oD.IsDictOf (strKind prog w) kvs) (hbk : BookV bk kvs) (lo : (D == sysModules) = false)
    (h1 : D < L') (hbig : ∀ p ∈ big, p.1 < D) (c1 : o1.data = .cell cv) (c2 : o2.data = .cell cv2) (c3 : o3.data = .cell (some (.ref D))) (XB : (K w.params).In base) (TB : Top p loose mean mg mb base) (DD : KtsDicts ((envX cn cs L a ccd cl :: outer).filterMap (·.frame)) g)
    (Y : Ty 20 w p loose mean mg mb dp un gd cn cs L a ccd cl outer base g)
    (F : Fr g L' s.heap (mlt none none none none none none))
    (N : News g L' s.heap ((L' + 1 + 1 + 1, o1) :: (L' + 1 + 1, o2) :: (L' + 1, o3) :: (D, oD) :: big))
    (hq : ∀ (RL TO SA LE : Nat) led m' g' h' tk' d, KtsTurn ((envX cn cs L a ccd cl :: outer).filterMap (·.frame)) g g' → Fr g' L' h' m' → News g' L' h' led → (∀ p ∈ (D, oD) :: big, p ∈ led) →
      (∀ h : Heap, (∀ p ∈ led, h.get? p.1 = some p.2) → Reads h (.ref RL) (toldD (Ws.map (leftOf (bk.map (·.1)))) Ws) [RL, SA, LE, TO]) → QF (.ret (.ref RL)) { s with heap := h', toks := tk', drawn := d }) :
    wpAny (model prog w) ((ktrTop dp un gd cn cs L a ccd cl outer).deeper (ltEnv L')) (execs ltB (ltEnv L')) QF (fun _ _ => False) s := by
  have Y' := Y
  have Y8 : Ty 8 w p loose mean mg mb dp un gd cn cs L a ccd cl outer base g := ⟨Y.hk, by have := Y.hd; (first | lia | omega), by have := Y.hu; (first | lia | omega), Y.B, Y.X, Y.T⟩
  have hKeys := BookV.keys hbk
  obtain ⟨hk, hd, hun, B, X, T0⟩ := Y
  rw [ltB_is]
  refine execs_app _ _ ?_
  refine lt0_st Y' F N fun P pv pc h2 tk2 hpv hP F2 N2 => ?_
  refine execs_app _ _ ?_
  refine lt1_loop (bk := bk) hpv hd9 hbk lo O.pz O.pl O.rl (valueAt_nodup (by rw [hKeys]; exact O.nd)) h1 hP hbig c2 c3 Y8 F2 N2 fun P2 pv2 pc2 o2' cv2' h3 tk3 c2' hp2 hP2 F3 N3 => ?_
  refine execs_app _ _ ?_
  refine ltm_st Y' F3 N3 fun SA LE sac lec h4 tk4 hSA hLE F4 N4 => ?_
  refine execs_app _ _ ?_
  refine lt2_loop (Ws := Ws) hp2 (by have := O.pz bk.length (Nat.le_refl _); rwa [List.take_length] at this) O.wl O.lx (by rw [hKeys]; exact O.ok) hd9 lo (by rw [← hbk.len]; have := O.bz; (first | lia | omega)) (by rw [hKeys]; exact O.nd) (by rw [hKeys]; exact O.ne) c1 c3 XB TB DD h1 hP2 hSA hLE hbig Y' F4 N4 ?_
  intro pgv wpv sav sac' lev lec' o1' tups g' h5 tk5 d tS tL hto KT KD Y5 F5 N5
  rw [hKeys] at tL
  have hWz : Ws.length ≤ 200 := by
    have := O.pz bk.length (Nat.le_refl _)
    rw [List.take_length] at this
    rw [O.wl]
    first | k_extra "OM" | (first | lia | omega)
  refine lt3_end tL tS (by rw [List.length_map]; exact hWz) hWz O.out Y5 F5 N5 fun RL TO led m' h6 tk6 F6 N6 hled hR => ?_
  exact hq RL TO SA LE led m' g' h6 tk6 d KT F6 N6 hled hR
theorem wd_KN9_49 : True := by
  k_with "ENTERSC" => (refine wpAny_call ?_; k_dflt (refine' code_defSC0 ?k1 ?k2 ?k3 ?k4 ?k5 ?kA ?k6 ?k7 ?k8 ?k9 ?kB ?kD ?_ ?cK ?c2 ?c3 ?c4; (case kA => exact rfl); (case k1 => k_asm); (case k2 => k_asm); (case k3 => k_asm); (case k4 => k_asm); (case k5 => k_asm); (case k6 => k_is); (case k7 => k_is); (case k8 => ktr_room); (case k9 => first | exact BindsTo.of_eq rfl | exact binds_K (by k_in) rfl (by k_is) rfl rfl rfl); (case kB => exact rfl); (case kD => decide +kernel); (case cK => assumption); (case c2 => exact rfl); (case c3 => exact rfl); (case c4 => exact rfl); k_whole; intro _ _ _ _ _ _ _ zN' zY' _ _ _ _ zl1; (try k_lt zl1); k_cells zY'; (try simp only [List.cons_append, List.nil_append] at zN'); (try dsimp only); (try k_fold)))
  trivial
theorem told_call {D : Nat} {oD : Obj} {bk : List (Str × Str)} {Ws : List (List Str)} {kvs : List (Str × Value)} (O : BookOk bk Ws) (hd9 : oD.IsDictOf (strKind prog w) kvs) (hbk : BookV bk kvs) (lo : (D == sysModules) = false) (hr : ∀ p ∈ rest, p.1 < D) (XB : (K w.params).In base) (TB : Top p loose mean mg mb base)
    (C : Cx 40 w p loose mean mg mb dp un cs [] A₀ base h₀ L m s.heap ((D, oD) :: rest))
    (hret : ∀ (RL TO SA LE : Nat) led h' tk' d, Fr h₀ L h' m → News h₀ L h' led → (∀ p ∈ (D, oD) :: rest, p ∈ led) →
      (∀ h : Heap, (∀ p ∈ led, h.get? p.1 = some p.2) → Reads h (.ref RL) (toldD (Ws.map (leftOf (bk.map (·.1)))) Ws) [RL, SA, LE, TO]) → Q (.ref RL) { s with heap := h', toks := tk', drawn := d }) :
    wpAny (model prog w) (ktrTop dp un gd cn cs L a ccd [] []) (call (.ref 932) [.ref D]) Q E s := by
  obtain ⟨B, F, X, N, T0, hk0, hd0, hu⟩ := C
  walk_at "ENTERSC"
  rename Fr _ _ _ _ => F1
  rename Below _ _ _ _ => B1
  rename Frag.In _ _ => X1
  rename Top _ _ _ _ _ _ => T1
  rename News _ _ _ _ => N1
  rename KtsDicts _ _ => D1
  rename D < _ ∧ _ => l1
  rename_i g' L' h' tk' _ oA oB oC dA dB dC
  have F2 : Fr g' L' h' (mlt none none none none none none) := Fr.cast (show Fr g' L' h' (fun _ => none) from F1) fun z => by simp [mlt]
  clear F1
  have dA' : oA.data = .cell none := dA
  have dB' : oB.data = .cell none := dB
  have dC' : oC.data = .cell (some (.ref D)) := dC
  have Y : Ty 20 w p loose mean mg mb dp un gd cn cs L a ccd [] [] base g' := ⟨hk0, by (first | lia | omega), by (first | lia | omega), B1, X1, T1⟩
  refine wpAny_mono (E := fun _ _ => False) (told_body O hd9 hbk lo l1.1 hr dA' dB' dC' XB TB D1 Y F2 N1 fun RL TO SA LE led m' g2 h2 tk2 d KT F3 N3 hled hR => leaveS0_ F3 N3 KT fun FF NN => hret RL TO SA LE led _ _ d FF NN hled hR) (fun f s₂ hh => hh) (fun _ _ h => h.elim)
end
end
section
set_option tactic.hygienic false
/-- a text whose last sign, if it has one, ends a line -/
noncomputable def Ends (i : List Nat) : Prop := i = [] ∨ ∃ p, i = p ++ [10]
theorem Ends.tail {c : Nat} {r : List Nat} (h : Ends (c :: r)) : (r = [] ∧ c = 10) ∨ (r ≠ [] ∧ Ends r) := by
  rcases h with h | ⟨p, h⟩
  · cases h
  · cases p with
    | nil =>
      simp at h
      exact .inl ⟨h.2, h.1⟩
    | cons a p =>
      simp at h
      exact .inr ⟨by rw [h.2]; simp, .inr ⟨p, h.2⟩⟩
theorem Ends.tail' {c : Nat} {r : List Nat} (h : Ends (c :: r)) : Ends r := by
  rcases h.tail with ⟨rfl, _⟩ | ⟨_, h⟩
  · exact .inl rfl
  · exact h
theorem Ends.drop : ∀ (n : Nat) {r : List Nat}, Ends r → Ends (r.drop n)
  | 0, r, h => by simpa using h
  | n + 1, [], h => by simpa using h
  | n + 1, c :: r, h => by
    rw [List.drop_succ_cons]
    exact Ends.drop n h.tail'
theorem Ends.app {a b : List Nat} (ha : Ends a) (hb : Ends b) : Ends (a ++ b) := by
  rcases hb with rfl | ⟨p, rfl⟩
  · rw [List.append_nil]; exact ha
  · exact .inr ⟨a ++ p, by simp⟩
theorem skip_app : ∀ {r : List Nat} (rest : List Nat), Ends r → r ≠ [] → skipLine (r ++ rest) = skipLine r ∧ (r ++ rest).drop (skipLine r) = r.drop (skipLine r) ++ rest
  | [], rest, h, hn => absurd rfl hn
  | c :: r, rest, h, _ => by
    rw [List.cons_append]
    unfold skipLine
    by_cases hc : c = 10
    · rw [if_pos hc, if_pos hc]
      exact ⟨rfl, rfl⟩
    · rw [if_neg hc, if_neg hc]
      rcases h.tail with ⟨_, h⟩ | ⟨hn, h⟩
      · exact absurd h hc
      · obtain ⟨h1, h2⟩ := skip_app rest h hn
        exact ⟨by rw [h1], by rw [List.drop_succ_cons, List.drop_succ_cons]; exact h2⟩
theorem rt_mono : ∀ {n : Nat} {s : LS} {i t : List Nat} {r : Option (List Nat) × List Nat}, rt n s i t = some r → rt (n + 1) s i t = some r
  | 0, s, i, t, r, h => by cases h
  | n + 1, s, i, t, r, h => by
    rw [rt_s] at h ⊢
    revert h
    split
    · exact id
    · exact rt_mono
    · exact id
theorem rt_le {n m : Nat} (hle : n ≤ m) {s : LS} {i t : List Nat} {r : Option (List Nat) × List Nat} (h : rt n s i t = some r) : rt m s i t = some r := by
  induction hle with
  | refl => exact h
  | step _ ih => exact rt_mono ih
theorem hash_ne {c : Nat} {r : List Nat} (hc : clOf c = some .hash) (h : Ends (c :: r)) : r ≠ [] := by
  rcases h.tail with ⟨_, h⟩ | ⟨hn, _⟩
  · have := cl_hash hc
    (first | lia | omega)
  · exact hn
/-- one step, and the same step over a longer text -/
noncomputable def StpOk (s : LS) (i t rest : List Nat) : Option ((Option (List Nat) × List Nat) ⊕ (LS × List Nat × List Nat)) → Prop
  | none => True
  | some (.inl (w, x)) => (w = none → s = .sp) ∧ (w = none → i = []) ∧ Ends x ∧ ∀ v, w = some v → stp s (i ++ rest) t = some (.inl (w, x ++ rest))
  | some (.inr (s', i', t')) => Ends i' ∧ (s' = .sp → s = .sp) ∧ stp s (i ++ rest) t = some (.inr (s', i' ++ rest, t'))
theorem stp_ok {s : LS} {i t : List Nat} (rest : List Nat) (he : Ends i) : StpOk s i t rest (stp s i t) := by
  cases i with
  | nil => cases s <;> first | trivial | exact ⟨fun _ => rfl, fun _ => rfl, .inl rfl, fun v e => nomatch e⟩
  | cons c r =>
    have he' := he.tail'
    have hd := he'.drop (skipLine r)
    have hh : clOf c = some .hash → skipLine (r ++ rest) = skipLine r ∧ (r ++ rest).drop (skipLine r) = r.drop (skipLine r) ++ rest := fun hc => skip_app rest he' (hash_ne hc he)
    unfold StpOk
    rw [List.cons_append]
    cases s with
    | sp =>
      unfold stp
      dsimp only
      cases hc : clOf c with
      | none => trivial
      | some y =>
        cases y with
        | hash => exact ⟨hd, fun _ => rfl, by dsimp only; rw [(hh hc).1, (hh hc).2]⟩
        | word => exact ⟨he', fun _ => rfl, rfl⟩
        | sp => exact ⟨he', fun _ => rfl, rfl⟩
        | nl => exact ⟨he', fun _ => rfl, rfl⟩
        | quote => exact ⟨he', fun _ => rfl, rfl⟩
        | dot => trivial
        | esc => trivial
    | a =>
      unfold stp
      dsimp only
      by_cases ht : t = []
      · rw [if_pos ht, if_pos ht, if_pos ht, if_pos ht]
        cases hc : clOf c with
        | none => trivial
        | some y => cases y <;> first | trivial | exact ⟨he', (fun e => nomatch e), rfl⟩
      · rw [if_neg ht, if_neg ht, if_neg ht, if_neg ht]
        cases hc : clOf c with
        | none => trivial
        | some y =>
          cases y with
          | hash => exact ⟨(fun e => nomatch e), (fun e => nomatch e), hd, fun v e => by dsimp only; rw [(hh hc).1, (hh hc).2]⟩
          | word => exact ⟨he', (fun e => nomatch e), rfl⟩
          | dot => exact ⟨he', (fun e => nomatch e), rfl⟩
          | esc => exact ⟨he', (fun e => nomatch e), rfl⟩
          | sp => exact ⟨(fun e => nomatch e), (fun e => nomatch e), he', fun v e => rfl⟩
          | nl => exact ⟨(fun e => nomatch e), (fun e => nomatch e), he', fun v e => rfl⟩
          | quote => trivial
    | q k =>
      unfold stp
      dsimp only
      by_cases hk : isQ (clOf k) = true
      · rw [if_pos hk, if_pos hk]
        by_cases hck : c = k
        · rw [if_pos hck, if_pos hck]
          exact ⟨he', (fun e => nomatch e), rfl⟩
        · rw [if_neg hck, if_neg hck]
          cases hc : clOf c with
          | none => trivial
          | some y => cases y <;> first | trivial | exact ⟨he', (fun e => nomatch e), rfl⟩
      · rw [if_neg hk]
        trivial
    | e =>
      unfold stp
      dsimp only
      cases hc : clOf c with
      | none => trivial
      | some y => cases y <;> first | trivial | exact ⟨he', (fun e => nomatch e), rfl⟩
theorem rt_all : ∀ {n : Nat} {s : LS} {i t : List Nat} {w : Option (List Nat)} {x : List Nat} (rest : List Nat), rt n s i t = some (w, x) → Ends i → (w = none → s = .sp) ∧ Ends x ∧ ∀ v, w = some v → rt n s (i ++ rest) t = some (w, x ++ rest)
  | 0, s, i, t, w, x, rest, h, he => by cases h
  | n + 1, s, i, t, w, x, rest, h, he => by
    have h9 := stp_ok (s := s) (t := t) rest he
    rw [rt_s] at h ⊢
    cases hs : stp s i t with
    | none => rw [hs] at h; cases h
    | some y =>
      rw [hs] at h h9
      cases y with
      | inl r =>
        cases h
        exact ⟨h9.1, h9.2.2.1, fun v e => by rw [h9.2.2.2 v e]⟩
      | inr q =>
        obtain ⟨g1, g2, g3⟩ := rt_all rest h h9.1
        exact ⟨fun e => h9.2.1 (g1 e), g2, fun v e => by rw [h9.2.2]; exact g3 v e⟩
theorem rt_app {n : Nat} {s : LS} {i t : List Nat} {w x : List Nat} (rest : List Nat) (h : rt n s i t = some (some w, x)) (he : Ends i) : rt n s (i ++ rest) t = some (some w, x ++ rest) := (rt_all rest h he).2.2 _ rfl
theorem rt_ends {n : Nat} {s : LS} {i t : List Nat} {w : Option (List Nat)} {x : List Nat} (h : rt n s i t = some (w, x)) (he : Ends i) : Ends x := (rt_all [] h he).2.1
theorem rt_sp : ∀ (n : Nat) (i t t' : List Nat), rt n .sp i t = rt n .sp i t'
  | 0, i, t, t' => rfl
  | n + 1, [], t, t' => rfl
  | n + 1, c :: r, t, t' => rfl
theorem rt_skip : ∀ {n m : Nat} {i t x : List Nat} {r : Option (List Nat) × List Nat} {rest : List Nat}, rt n .sp i t = some (none, x) → Ends i → rt m .sp rest [] = some r → rt (n + m) .sp (i ++ rest) [] = some r
  | 0, m, i, t, x, r, rest, h, _, _ => by cases h
  | n + 1, m, i, t, x, r, rest, h, he, hr => by
    have h9 := stp_ok (s := .sp) (t := t) rest he
    rw [rt_s] at h
    cases hs : stp .sp i t with
    | none => rw [hs] at h; cases h
    | some y =>
      rw [hs] at h h9
      cases y with
      | inl r' =>
        cases h
        obtain rfl := h9.2.1 rfl
        exact rt_le (Nat.le_add_left _ _) hr
      | inr q =>
        obtain ⟨s', i', t'⟩ := q
        obtain rfl := (rt_all rest h h9.1).1 rfl
        rw [rt_sp _ _ [] t, show n + 1 + m = (n + m) + 1 from Nat.succ_add_eq_add_succ n m, rt_s, h9.2.2]
        exact (rt_sp _ _ _ _).trans (rt_skip h h9.1 hr)
theorem lexs_mono {n m : Nat} (hle : n ≤ m) : ∀ {k : Nat} {i : List Nat} {ws : List (List Nat)}, lexs n k i = some ws → lexs m k i = some ws
  | 0, i, ws, h => by simp [lexs] at h
  | k + 1, i, ws, h => by
    unfold lexs at h ⊢
    cases hr : rt n .sp i [] with
    | none => rw [hr] at h; cases h
    | some r =>
      rw [hr] at h
      rw [rt_le hle hr]
      obtain ⟨o, x⟩ := r
      cases o with
      | none => exact h
      | some t =>
        obtain ⟨vs, hv, e⟩ := Option.map_eq_some_iff.mp h
        show (lexs m k x).map _ = _
        rw [lexs_mono hle hv, ← e]
        rfl
theorem lexs_more {n : Nat} : ∀ {k : Nat} {i : List Nat} {ws : List (List Nat)}, lexs n k i = some ws → lexs n (k + 1) i = some ws
  | 0, i, ws, h => by simp [lexs] at h
  | k + 1, i, ws, h => by
    rw [lexs] at h
    rw [lexs]
    cases hr : rt n .sp i [] with
    | none => rw [hr] at h; cases h
    | some r =>
      rw [hr] at h
      obtain ⟨o, x⟩ := r
      cases o with
      | none => exact h
      | some t =>
        obtain ⟨vs, hv, e⟩ := Option.map_eq_some_iff.mp h
        show (lexs n (k + 1) x).map _ = _
        rw [lexs_more hv, ← e]
        rfl
theorem lexs_more' {n k k' : Nat} (hle : k ≤ k') {i : List Nat} {ws : List (List Nat)} (h : lexs n k i = some ws) : lexs n k' i = some ws := by
  induction hle with
  | refl => exact h
  | step _ ih => exact lexs_more ih
/-- the words of a text -/
noncomputable def LexR (i : List Nat) (ws : List (List Nat)) : Prop := ∃ n k, lexs n k i = some ws
theorem lexs_app {n n' k' : Nat} {rest : List Nat} {vs : List (List Nat)} (hr : lexs n' k' rest = some vs) : ∀ {k : Nat} {i : List Nat} {ws : List (List Nat)}, lexs n k i = some ws → Ends i → lexs (n + n') (k + k') (i ++ rest) = some (ws ++ vs)
  | 0, i, ws, h, _ => by simp [lexs] at h
  | k + 1, i, ws, h, he => by
    rw [lexs] at h
    cases hq : rt n .sp i [] with
    | none => rw [hq] at h; cases h
    | some r =>
      rw [hq] at h
      obtain ⟨o, x⟩ := r
      cases o with
      | none =>
        have e : ws = [] := by
          simp only [Option.some.injEq] at h
          exact h.symm
        subst e
        rw [List.nil_append]
        refine lexs_more' (k := k') (by (first | lia | omega)) ?_
        cases k' with
        | zero => simp [lexs] at hr
        | succ k' =>
          rw [lexs] at hr ⊢
          cases hq2 : rt n' .sp rest [] with
          | none => rw [hq2] at hr; cases hr
          | some r2 =>
            rw [hq2] at hr
            rw [rt_skip hq he hq2]
            obtain ⟨o2, x2⟩ := r2
            cases o2 with
            | none => exact hr
            | some t =>
              obtain ⟨us, hv, e⟩ := Option.map_eq_some_iff.mp hr
              show (lexs (n + n') k' x2).map _ = _
              rw [lexs_mono (by (first | lia | omega)) hv, ← e]
              rfl
      | some t =>
        obtain ⟨us, hv, e⟩ := Option.map_eq_some_iff.mp h
        rw [show k + 1 + k' = (k + k') + 1 by (first | lia | omega), lexs, rt_le (Nat.le_add_right n n') (rt_app rest hq he)]
        show (lexs (n + n') (k + k') (x ++ rest)).map _ = _
        rw [lexs_app hr hv (rt_ends hq he), ← e]
        rfl
theorem LexR.app {i rest : List Nat} {ws vs : List (List Nat)} (h1 : LexR i ws) (he : Ends i) (h2 : LexR rest vs) : LexR (i ++ rest) (ws ++ vs) := by
  obtain ⟨n, k, h1⟩ := h1
  obtain ⟨n', k', h2⟩ := h2
  exact ⟨_, _, lexs_app h2 h1 he⟩
theorem LexR.nil : LexR [] [] := ⟨1, 1, by rfl⟩
end
section
set_option tactic.hygienic false
/-- what the first loop has left of a list, the items xs being dealt with -/
noncomputable def left1 (xs : List Wd) (A : List Wd) : List (Option Wd) := A.map fun x => if x ∈ xs then none else some x
theorem clr_left (x : Wd) (xs A : List Wd) : clr x (left1 xs A) = left1 (xs ++ [x]) A := by
  unfold clr left1
  rw [List.map_map]
  refine List.map_congr_left fun y _ => ?_
  show (if (if y ∈ xs then none else some y) = some x then none else if y ∈ xs then none else some y) = if y ∈ xs ++ [x] then none else some y
  by_cases h1 : y ∈ xs
  · simp [h1]
  · by_cases h2 : y = x <;> simp [h1, h2]
theorem cnt_left {x : Wd} {xs : List Wd} (hx : x ∉ xs) (A : List Wd) : cnt x (left1 xs A) = A.countP fun y => decide (y = x) := by
  unfold cnt left1
  rw [List.countP_map]
  refine List.countP_congr fun y _ => ?_
  show decide ((if y ∈ xs then none else some y) = some x) = true ↔ _
  by_cases h1 : y ∈ xs
  · have : y ≠ x := fun e => hx (e ▸ h1)
    simp [h1, this]
  · simp [h1]
theorem left_get (xs A : List Wd) (k : Nat) : (left1 xs A)[k]? = (A[k]?).map fun x => if x ∈ xs then none else some x := by
  unfold left1
  rw [List.getElem?_map]
noncomputable abbrev cn (x : Wd) (A : List Wd) : Nat := A.countP fun y => decide (y = x)
/-- what the first loop says at one place -/
noncomputable def say1 (A B : List Wd) (k : Nat) : List (Nat × Nat × Wd) := match A[k]? with
  | some x => if x ∈ A.take k then [] else if cn x A = cn x B then [] else [(cn x A, cn x B, x)]
  | none => []
noncomputable def says1 (A B : List Wd) : Nat → List (Nat × Nat × Wd)
  | 0 => []
  | k + 1 => says1 A B k ++ say1 A B k
theorem left_congr {xs ys A : List Wd} (h : ∀ z, z ∈ xs ↔ z ∈ ys) : left1 xs A = left1 ys A := by
  unfold left1
  refine List.map_congr_left fun z _ => ?_
  by_cases hz : z ∈ xs
  · rw [if_pos hz, if_pos ((h z).mp hz)]
  · rw [if_neg hz, if_neg fun q => hz ((h z).mpr q)]
theorem run1_is (A B : List Wd) : ∀ k, k ≤ A.length → run1 ⟨A.map some, B.map some, []⟩ k = ⟨left1 (A.take k) A, left1 (A.take k) B, says1 A B k⟩
  | 0, _ => by
    show (⟨_, _, _⟩ : CS) = _
    simp [left1, says1]
  | k + 1, hk => by
    show step1 k (run1 _ k) = _
    rw [run1_is A B k (by (first | lia | omega))]
    obtain ⟨x, hx⟩ : ∃ x, A[k]? = some x := ⟨_, List.getElem?_eq_getElem (by (first | lia | omega))⟩
    have htk : A.take (k + 1) = A.take k ++ [x] := by rw [List.take_add_one, hx]; rfl
    rw [show says1 A B (k + 1) = says1 A B k ++ say1 A B k from rfl]
    unfold step1
    try dsimp only
    rw [left_get, hx, htk, say1, hx]
    try dsimp only [Option.map_some]
    by_cases hm : x ∈ A.take k
    · rw [if_pos hm, if_pos hm]
      try dsimp only
      rw [List.append_nil]
      have e : ∀ z, z ∈ A.take k ↔ z ∈ A.take k ++ [x] := fun z => by
        rw [List.mem_append, List.mem_singleton]
        exact ⟨.inl, fun q => q.elim id fun q => q ▸ hm⟩
      rw [left_congr e, left_congr (A := B) e]
    · rw [if_neg hm, if_neg hm]
      try dsimp only
      rw [clr_left, clr_left, cnt_left hm, cnt_left hm]
      by_cases hc : cn x A = cn x B
      · rw [if_pos hc, if_pos hc, List.append_nil]
      · rw [if_neg hc, if_neg hc]
noncomputable def say2 (xs B : List Wd) (k : Nat) : List (Nat × Nat × Wd) := match B[k]? with
  | some x => if x ∈ xs ++ B.take k then [] else [(0, cn x B, x)]
  | none => []
noncomputable def says2 (xs B : List Wd) : Nat → List (Nat × Nat × Wd)
  | 0 => []
  | k + 1 => says2 xs B k ++ say2 xs B k
theorem run2_is (A' : List (Option Wd)) (xs B : List Wd) (o : List (Nat × Nat × Wd)) : ∀ k, k ≤ B.length → run2 ⟨A', left1 xs B, o⟩ k = ⟨A', left1 (xs ++ B.take k) B, o ++ says2 xs B k⟩
  | 0, _ => by
    show (⟨_, _, _⟩ : CS) = _
    simp [says2]
  | k + 1, hk => by
    show step2 k (run2 _ k) = _
    rw [run2_is A' xs B o k (by (first | lia | omega))]
    obtain ⟨x, hx⟩ : ∃ x, B[k]? = some x := ⟨_, List.getElem?_eq_getElem (by (first | lia | omega))⟩
    have htk : B.take (k + 1) = B.take k ++ [x] := by rw [List.take_add_one, hx]; rfl
    rw [show says2 xs B (k + 1) = says2 xs B k ++ say2 xs B k from rfl]
    unfold step2
    try dsimp only
    rw [left_get, hx, htk, say2, hx]
    try dsimp only [Option.map_some]
    by_cases hm : x ∈ xs ++ B.take k
    · rw [if_pos hm, if_pos hm]
      try dsimp only
      rw [List.append_nil]
      have e : ∀ z, z ∈ xs ++ B.take k ↔ z ∈ xs ++ (B.take k ++ [x]) := fun z => by
        rw [← List.append_assoc, List.mem_append (s := xs ++ B.take k), List.mem_singleton]
        exact ⟨.inl, fun q => q.elim id fun q => q ▸ hm⟩
      rw [left_congr e]
    · rw [if_neg hm, if_neg hm]
      try dsimp only
      rw [clr_left, cnt_left hm, List.append_assoc, List.append_assoc]
theorem cdap_is (A B : List Wd) : cdap A B = says1 A B A.length ++ says2 A B B.length := by
  unfold cdap
  rw [run1_is A B _ (Nat.le_refl _), List.take_length, run2_is _ _ _ _ _ (Nat.le_refl _)]
theorem says1_flat (A B : List Wd) : ∀ k, says1 A B k = (List.range k).flatMap (say1 A B)
  | 0 => rfl
  | k + 1 => by rw [says1, says1_flat A B k, List.range_succ, List.flatMap_append]; simp
theorem says2_flat (xs B : List Wd) : ∀ k, says2 xs B k = (List.range k).flatMap (say2 xs B)
  | 0 => rfl
  | k + 1 => by rw [says2, says2_flat xs B k, List.range_succ, List.flatMap_append]; simp
/-- a flatMap over a list as one over its places -/
theorem flat_range {α β : Type} (f : α → List β) : ∀ l : List α, l.flatMap f = (List.range l.length).flatMap fun k => match l[k]? with | some x => f x | none => [] := by
  intro l
  have h : ∀ k, k ≤ l.length → (l.take k).flatMap f = (List.range k).flatMap fun k => match l[k]? with | some x => f x | none => [] := by
    intro k
    induction k with
    | zero => intro _; simp
    | succ k ih =>
      intro hk
      obtain ⟨x, hx⟩ : ∃ x, l[k]? = some x := ⟨_, List.getElem?_eq_getElem (by (first | lia | omega))⟩
      rw [List.take_add_one, hx, List.flatMap_append, ih (by (first | lia | omega)), List.range_succ, List.flatMap_append]
      simp [hx]
  have := h l.length (Nat.le_refl _)
  rw [List.take_length] at this
  exact this
end
section
section
variable {prog : Program} {w : World} {p : Program} {loose : List Str} {mean : ExcName → Option Value} {mg mb : Str → Option Value} {dp un : Nat} {gd : Option (List Code)} {cn : Str} {cs : Scope} {a : Addr} {ccd : Value} {cl : List (Str × Addr)} {outer : List Env} {A₀ : Around} {base h₀ : Heap} {L : Addr} {m : Str → Option Value} {news rest : List (Addr × Obj)} {s : Shared} {Q E : Value → Shared → Prop}
open PyProof.Rows.LCg
variable {g : Heap} {L' : Nat} {QF : Flow → Shared → Prop} {tups big : List (Addr × Obj)}
theorem wd_KQ1_50 : True := by
  k_with "exec For Name Name cons nil" => (k_here; (with_unfolding_all refine' For_enum ?_; k_whole))
  k_with "pyIter ref" => ((with_reducible show wpAny _ _ (pyIter (Value.ref _)) (fun it s₂ => EnumAt _ _ _ _ _ _ _ _ it s₂) _ _); refine mark ?_)
  k_with "pyIter ref" => ((with_reducible show wpAny _ _ (pyIter (Value.ref _)) (fun it s₂ => CompAt _ _ _ _ _ _ _ _ _ it s₂) _ _); refine mark ?_)
  k_with "eval ListComp" => (k_here; k_dflt (refine comp_go (by with_unfolding_all rfl) (by rfl) (by decide) ?_); k_whole)
  k_with "exec Assign cons ListComp" => (k_here; k_dflt (refine assign_comp (by rfl) (by with_unfolding_all rfl) (by rfl) (by decide) (by rfl) (by rfl) (by k_asm) ?_); k_whole)
  trivial
noncomputable def parts (x : Str) : List Str := PySem.Txt.split x (Str.ofString ".")
theorem splitK {A : Around} {x : Str} {t u : Tok} {Q : Value → Shared → Prop} {news : List (Addr × Obj)} (hx : x.length ≤ 1000) (F : Fr h₀ L s.heap m) (N : News h₀ L s.heap news)
    (h : ∀ (D : Nat) vs h' k, Strs (parts x) vs → (∀ p ∈ news, p.1 < D) → Fr h₀ L h' m → News h₀ L h' ((D, listOf vs 0) :: news) → Q (.ref D) { s with heap := h', toks := k }) :
    wpAny (model prog w) A (call (.builtin "str.split") [.str x t, .str (Str.ofString ".") u]) Q E s :=
  KSpl.split1 F N (by decide) (fun D l h' k e a F' N' l1 => h D _ h' k (by rw [e] at a; show StrsAre (strValues l).toArray.toList (Txt.split x (Str.ofString ".")); simpa using a) l1 F' N') (by rw [sizeLine_eq]; (first | lia | omega))
theorem wd_KQ1_51 : True := by
  k_with "call builtin:str.split" => (k_here; k_dflt (refine' splitK ?zx ?zF ?zN ?_; (case zx => assumption); (case zF => k_asm); (case zN => k_asm)); intro _ _ _ _ _ zl9 _ _; (try k_lt zl9))
  trivial
theorem strs_take : ∀ {vs : List Value} {ws : List Str} (k : Nat), StrsAre vs ws → StrsAre (vs.take k) (ws.take k)
  | _, _, 0, h => by simp; exact .nil
  | _, _, k + 1, .nil => by simp; exact .nil
  | _, _, k + 1, .cons x t h => by simp; exact .cons _ _ (strs_take k h)
theorem lenS {A : Around} {l : Nat} {vs : Array Value} {c : Nat} {ws : List Str} {Q : Value → Shared → Prop} {news : List (Addr × Obj)} (hst : Strs ws vs) (hz : ws.length ≤ 1010) (N : News h₀ L s.heap news) (hm : (l, listOf vs c) ∈ news)
    (h : ∀ t tk, Q (.int (ws.length : Nat) t) { s with toks := tk }) : wpAny (model prog w) A (call (.builtin "len") [.ref l]) Q E s :=
  call_len_list ⟨_, (N _ hm).1, rfl, c, rfl⟩ (by rw [hst.size]; (first | lia | omega)) (by rw [hst.size]; exact h _ _)
theorem wd_KQ1_52 : True := by
  k_with "call builtin:len" => (k_here; k_dflt (refine' lenS ?zst ?zz ?zN ?zm ?_; (case zN => k_asm); (case zm => k_mem); (case zst => assumption); (case zz => assumption)); intro _ _)
  trivial
theorem sliceS {A : Around} {value slice : PySem.Expr} {l : Nat} {its : Array Value} {c k : Nat} {u : Tok} {ws : List Str} {Q : Value → Shared → Prop} {news : List (Addr × Obj)} (F : Fr h₀ L s.heap m) (N : News h₀ L s.heap news) (hm : (l, listOf its c) ∈ news) (hst : Strs ws its) (hz : ws.length ≤ 1010)
    (h : ∀ (D : Nat) zs h', Strs (ws.take k) zs → (∀ p ∈ news, p.1 < D) → Fr h₀ L h' m → News h₀ L h' ((D, listOf zs 0) :: news) → Q (.ref D) { s with heap := h' })
    (hs : subscripted slice false (.ref l) (.ref s.heap.objs.size) = operate [.ref s.heap.objs.size, .ref l] (getItem (.ref l) (.ref s.heap.objs.size))) (ht : ∀ r, letTemporaryGo value (.ref l) r = pure ()) :
    wpAny (model prog w) A (subscriptTail value slice (.ref l) (.ref s.heap.objs.size)) Q E { s with heap := s.heap.push { cls := .type "slice", data := .fields #[.none, .int (k : Nat) u, .none] } } := by
  refine kmk_slice (lo := none) (hi := some (k : Int)) F N ⟨_, (N _ hm).1, rfl, c, rfl⟩ IsPart.none (IsPart.int _ _) (fun D h' F' N' l1 => h D _ h' ?_ l1 F' N') hs ht (by rw [hst.size, sizeLine_eq]; (first | lia | omega))
  have e : sliceBounds none (some (k : Int)) none its.size = (((0 : Nat) : Int), ((min k its.size : Nat) : Int), 1) := by
    simp only [sliceBounds, Option.getD_none, show (1 : Int) > 0 by decide, if_true, if_neg (show ¬ ((k : Int) < 0) by (first | lia | omega))]
    congr 1
    congr 1
    first | k_extra "OM" | (first | lia | omega)
  rw [kmk_pick_nat _ e]
  show StrsAre ((its.toList.drop 0).take (min k its.size - 0)) _
  rw [List.drop_zero, Nat.sub_zero, ← Array.length_toList, kmk_take_min]
  exact strs_take k hst
theorem wd_KQ1_53 : True := by
  k_with "subscriptTail Name Slice ref ref" => (k_here; k_dflt (refine' sliceS ?zF ?zN ?zm ?zst ?zz ?_ ?zs ?zt; (case zF => k_asm); (case zN => k_asm); (case zm => k_mem); (case zst => assumption); (case zz => assumption); (case zs => with_unfolding_all rfl); (case zt => kmk_pure)); intro _ _ _ _ zl9 _ _; (try k_lt zl9))
  trivial
theorem shaped_strsL (xs : List Str) (h : xs.all PyData.strOk = true) : SeqAt.shaped (.list (xs.map PyData.str)) = true := by
  simp [SeqAt.shaped, PyData.canLay0, PyData.depth, canLay_strs xs h, depth_strs]
theorem eqS {A : Around} {la lb : Nat} {va vb : Array Value} {ca cb : Nat} {as bs : List Str} {Q : Value → Shared → Prop} {news : List (Addr × Obj)} (N : News h₀ L s.heap news) (ha : (la, listOf va ca) ∈ news) (hb : (lb, listOf vb cb) ∈ news) (sa : Strs as va) (sb : Strs bs vb) (oa : as.all PyData.strOk = true) (ob : bs.all PyData.strOk = true) (hr : A.units + 64 < cLine)
    (h : Q (.bool (decide (as = bs))) s) : wpAny (model prog w) A (compareOp .Eq (.ref la) (.ref lb)) Q E s := by
  refine eq_dataH (reads_list_at (N _ ha).1 rfl rfl (readsAll_strs sa)) (reads_list_at (N _ hb).1 rfl rfl (readsAll_strs sb)) (shaped_strsL _ oa) (shaped_strsL _ ob) hr ?_
  have e : PyData.eqv (.list (as.map PyData.str)) (.list (bs.map PyData.str)) = decide (as = bs) := by
    simp only [PyData.eqv, eqvAll_strs]
  rw [e]
  exact h
theorem wd_KQ1_54 : True := by
  k_with "compareOp Eq ref ref" => (k_here; k_dflt (refine' eqS ?zN ?za ?zb ?sa ?sb ?oa ?ob ?zr ?_; (case zN => k_asm); (case za => k_mem); (case zb => k_mem); (case sa => assumption); (case sb => assumption); (case oa => assumption); (case ob => assumption); (case zr => ktr_units)))
  trivial
structure NamesOk (names : List Str) : Prop where
  nz : names.length ≤ 50
  nl : ∀ nm ∈ names, nm.length ≤ 1000
  pz : ∀ nm ∈ names, (parts nm).length ≤ 1010
  po : ∀ nm ∈ names, (parts nm).all PyData.strOk = true
  ok : names.all PyData.strOk = true
  nd : names.Nodup
theorem all_take {l : List Str} {k : Nat} (h : l.all PyData.strOk = true) : (l.take k).all PyData.strOk = true := by
  rw [List.all_eq_true] at h ⊢
  exact fun x hx => h x (List.mem_of_mem_take hx)
theorem wd_KQ1_55 : True := by
  k_with "setItem ref str" => (k_here; k_dflt (refine' kda_set (knd := PySem.strKind _ _) ?F ?N ?U ?d (isStr _ _) ?z ?_; (case F => k_asm); (case N => k_asm); (case U => k_updF); (case d => k_asm); (case z => rw [sizeLine_eq]; (first | lia | omega))); intro _ _ _ zN' _; (try dsimp only at zN'))
  trivial
noncomputable def belowB (hd nm : Str) : Bool := decide ((parts nm).take (parts hd).length = parts hd)
noncomputable def duB : List Stmt := match st 37 with | .FunctionDef _ _ b .. => b | _ => []
noncomputable def duScope : Scope := match st 37 with | .FunctionDef _ _ _ _ _ _ sc .. => sc | _ => default
noncomputable abbrev duEnv (L' : Addr) : Env := envOfC (Str.ofString "_law_due") duScope L' 937 (.ref 936)
noncomputable def mdu (names head choices left often never out apart : Option Value) : Str → Option Value := fun z =>
  if z = Str.ofString "names" then names else if z = Str.ofString "head" then head else if z = Str.ofString "choices" then choices else if z = Str.ofString "left" then left else if z = Str.ofString "often" then often else if z = Str.ofString "never" then never
  else if z = Str.ofString "out" then out else if z = Str.ofString "apart" then apart else none
noncomputable def du1 : List Stmt := match duB with | _ :: .For _ _ b _ _ :: _ => b | _ => []
theorem du1_turn {NL BD I : Nat} {io oBD o1 o2 o3 o4 : Obj} {nv : Array Value} {nc : Nat} {names : List Str} {hd : Str} {th : Tok} {ch le of ne ou ap : Option Value} {kvs : List (Str × Value)} {cv2 cv3 cv4 : Option Value}
    (hn : Strs names nv) (O : NamesOk names) (hhd : hd ∈ names)
    (c1 : o1.data = .cell (some (.ref BD))) (c2 : o2.data = .cell cv2) (c3 : o3.data = .cell cv3) (c4 : o4.data = .cell cv4) (hdB : oBD.IsDictOf (strKind prog w) kvs) (hkz : kvs.length ≤ 100) (lo : (BD == sysModules) = false)
    (hBD : L' + 1 + 1 + 1 + 1 < BD) (hNL : NL < L') (hBI : BD < I) (hbig : ∀ p ∈ big, p.1 ≠ L' + 1 + 1 ∧ p.1 ≠ BD)
    (Y : Ty 8 w p loose mean mg mb dp un gd cn cs L a ccd cl outer base g)
    (F : Fr g L' s.heap (mdu (some (.ref NL)) (some (.str hd th)) ch le of ne ou ap))
    (N : News g L' s.heap ((I, io) :: (BD, oBD) :: (L' + 1 + 1 + 1 + 1, o4) :: (L' + 1 + 1 + 1, o3) :: (L' + 1 + 1, o2) :: (L' + 1, o1) :: (NL, listOf nv nc) :: big))
    (hq : ∀ (BL : Nat) bv bc oBD' o2' cv' h' tk' d, o2'.data = .cell cv' → I < BL → Strs (names.filter (belowB hd)) bv → oBD'.IsDictOf (strKind prog w) (stored kvs hd (.ref BL)) → Fr g L' h' (mdu (some (.ref NL)) (some (.str hd th)) ch le of ne ou ap) →
      News g L' h' ((BL, listOf bv bc) :: (I, io) :: (BD, oBD') :: (L' + 1 + 1 + 1 + 1, o4) :: (L' + 1 + 1 + 1, o3) :: (L' + 1 + 1, o2') :: (L' + 1, o1) :: (NL, listOf nv nc) :: big) → QF .next { s with heap := h', toks := tk', drawn := d }) :
    wpAny (model prog w) ((ktrTop dp un gd cn cs L a ccd cl outer).deeper (duEnv L')) (execs du1 (duEnv L')) QF (fun _ _ => False) s := by
  obtain ⟨hk, hd0, hun, B, X, T0⟩ := Y
  have hz9 : nv.size ≤ 1000 := by rw [hn.size]; have := O.nz; (first | lia | omega)
  have hl9 : hd.length ≤ 1000 := O.nl hd hhd
  have hb2 : ∀ p ∈ big, p.1 ≠ L' + 1 + 1 := fun p hp => (hbig p hp).1
  k_steps
  unfold Marked
  rename News _ _ _ _ => N1
  rename Fr _ _ _ _ => F1
  rename Strs (parts hd) _ => st1
  rename Obj.data _ = .cell (some (.ref _)) => c2'
  rename I < _ ∧ BD < _ ∧ _ => l1
  rename_i PT pv h1 tk1 h2 o2'
  refine comp_listT (fun i ys nw => StrsAre ys ((names.take i).filter (belowB hd)) ∧ nw = ((PT, listOf pv 0) :: (I, io) :: (BD, oBD) :: (L' + 1 + 1 + 1 + 1, o4) :: (L' + 1 + 1 + 1, o3) :: (L' + 1 + 1, o2') :: (L' + 1, o1) :: (NL, listOf nv nc) :: big)) rfl hz9 (by decide) rfl rfl F1 N1 (by k_mem) ⟨.nil, rfl⟩ ?_ ?_ ?_ ?_
  · rintro i ys nw ⟨h8, rfl⟩
    k_mem
  · rintro i ys nw ⟨h8, rfl⟩
    rw [h8.length]
    exact Nat.le_trans (List.length_filter_le _ _) (by rw [List.length_take]; exact Nat.min_le_left _ _)
  · rintro i v ys nw I2 C2 D2 oI oC m₂ h tk d hi hv ⟨h8, rfl⟩ hC' hx' F4 N4 off hID hDC hlt
    obtain ⟨nm, tn, rfl, hnm⟩ := StrsAre.item hn i v (by rw [Array.getElem?_toList]; exact hv)
    have hnmM : nm ∈ names := List.mem_of_getElem? hnm
    have hl99 : nm.length ≤ 1000 := O.nl nm hnmM
    have hpz : (parts hd).length ≤ 1010 := O.pz hd hhd
    have hpz2 : (parts nm).length ≤ 1010 := O.pz nm hnmM
    have hok1 : ((parts nm).take (parts hd).length).all PyData.strOk = true := all_take (O.po nm hnmM)
    have hok2 : (parts hd).all PyData.strOk = true := O.po hd hhd
    have tk1 : (names.take (i + 1)).filter (belowB hd) = (names.take i).filter (belowB hd) ++ if belowB hd nm then [nm] else [] := by
      rw [List.take_add_one, hnm, List.filter_append]
      cases hq9 : belowB hd nm <;> simp [hq9]
    have hPI : PT < I2 := hlt (PT, listOf pv 0) (.head _)
    refine cend_gen fun Q1 Q2 hy hn => ?_
    k_steps
    · rename News _ _ _ _ => N9
      rename Fr _ _ _ _ => F9
      rename List.take _ _ = _ => hb9
      refine hy _ _ _ _ _ F9 (news_sub N9 fun p hp => ?_) (CEnd_off off) ⟨?_, rfl⟩
      · refine sub_use ?_ hp
        k_extra "SUB"
      · rw [tk1, show belowB hd nm = true from decide_eq_true hb9]; exact strs_snoc h8
    · rename News _ _ _ _ => N9
      rename Fr _ _ _ _ => F9
      rename ¬ (List.take _ _ = _) => hb9
      refine hn _ _ _ _ F9 (news_sub N9 fun p hp => ?_) (CEnd_off off) ⟨?_, rfl⟩
      · refine sub_use ?_ hp
        k_extra "SUB"
      · rw [tk1, show belowB hd nm = false from decide_eq_false hb9]; simpa using h8
  · rintro D3 h tk d nw ys F4 N4 off hlt ⟨h8, rfl⟩
    rw [← lst_listOf] at N4
    have hBD3 : BD < D3 := hlt (BD, oBD) (by first | k_extra "MEM" | simp)
    have hbB : ∀ p ∈ big, p.1 ≠ BD := fun p hp => (hbig p hp).2
    have hID3 : I < D3 := hlt (I, io) (by first | k_extra "MEM" | simp)
    k_steps
    rename News _ _ _ _ => N9
    rename Fr _ _ _ _ => F9
    rename Obj.IsDictOf _ _ _ => hd9
    have e9 : names.take nv.size = names := by rw [hn.size]; exact List.take_length
    rw [e9] at h8
    refine hq D3 ys.toArray ys.length _ o2' _ _ _ _ c2' hID3 h8 hd9 F9 (news_sub N9 fun p hp => ?_)
    simp only [List.mem_cons] at hp ⊢
    rcases hp with hp | hp
    · exact .inl hp
    · exact .inr (.inr hp)
noncomputable def BelV (lists : List (Addr × Obj)) (names hs : List Str) (kvs : List (Str × Value)) : Prop :=
  kvs.length = hs.length ∧ ∀ (k : Nat) (h : Str), hs[k]? = some h → ∃ (BL : Nat) (bv : Array Value) (bc : Nat), kvs[k]? = some (h, .ref BL) ∧ (BL, listOf bv bc) ∈ lists ∧ Strs (names.filter (belowB h)) bv
theorem BelV.nil {lists : List (Addr × Obj)} {names : List Str} : BelV lists names [] [] := ⟨rfl, fun k h hk => by simp at hk⟩
theorem BelV.snoc {lists : List (Addr × Obj)} {names hs : List Str} {kvs : List (Str × Value)} (H : BelV lists names hs kvs) {h : Str} {BL : Nat} {bv : Array Value} {bc : Nat} (hb : Strs (names.filter (belowB h)) bv) : BelV ((BL, listOf bv bc) :: lists) names (hs ++ [h]) (kvs ++ [(h, .ref BL)]) := by
  refine ⟨by simp [H.1], fun k h' hk => ?_⟩
  rcases Nat.lt_trichotomy k hs.length with hlt | rfl | hgt
  · rw [List.getElem?_append_left hlt] at hk
    obtain ⟨BL', bv', bc', h1, h2, h3⟩ := H.2 k h' hk
    exact ⟨BL', bv', bc', by rw [List.getElem?_append_left (by rw [H.1]; exact hlt)]; exact h1, .tail _ h2, h3⟩
  · rw [List.getElem?_append_right (Nat.le_refl _), Nat.sub_self] at hk
    simp at hk
    subst hk
    exact ⟨BL, bv, bc, by rw [← H.1]; simp, .head _, hb⟩
  · rw [List.getElem?_eq_none (by simp; (first | lia | omega))] at hk
    cases hk
theorem BelV.keys {lists : List (Addr × Obj)} {names hs : List Str} {kvs : List (Str × Value)} (H : BelV lists names hs kvs) : kvs.map (·.1) = hs := by
  apply List.ext_getElem?
  intro k
  rw [List.getElem?_map]
  cases hk : hs[k]? with
  | none =>
    rw [List.getElem?_eq_none_iff] at hk
    rw [List.getElem?_eq_none (by rw [H.1]; exact hk)]
    rfl
  | some h =>
    obtain ⟨BL, bv, bc, h1, _⟩ := H.2 k h hk
    rw [h1]
    rfl
theorem BelV.none {lists : List (Addr × Obj)} {names hs : List Str} {kvs : List (Str × Value)} (H : BelV lists names hs kvs) {h : Str} (hh : h ∉ hs) : (valueAt kvs h).isSome = false := by
  unfold valueAt
  rw [Option.isSome_map]
  cases q : List.find? (fun kv : Str × Value => decide (kv.1 = h)) kvs with
  | none => rfl
  | some e =>
    have h1 := List.mem_of_find?_eq_some q
    have h2 := List.find?_some q
    exact absurd (by rw [← H.keys, ← of_decide_eq_true h2]; exact List.mem_map_of_mem h1) hh
end
end
section
set_option tactic.hygienic false
section
variable {prog : Program} {w : World} {p : Program} {loose : List Str} {mean : ExcName → Option Value} {mg mb : Str → Option Value} {dp un : Nat} {gd : Option (List Code)} {cn : Str} {cs : Scope} {a : Addr} {ccd : Value} {cl : List (Str × Addr)} {outer : List Env} {A₀ : Around} {base h₀ : Heap} {L : Addr} {m : Str → Option Value} {news rest : List (Addr × Obj)} {s : Shared} {Q E : Value → Shared → Prop}
open PyProof.Rows.LCg
variable {g : Heap} {L' : Nat} {QF : Flow → Shared → Prop} {tups big : List (Addr × Obj)}
theorem wd_KQ2_56 : True := by
  k_with "exec For Name Name cons nil" => (k_here; (with_unfolding_all refine' For_enum ?_; k_whole))
  k_with "pyIter ref" => ((with_reducible show wpAny _ _ (pyIter (Value.ref _)) (fun it s₂ => EnumAt _ _ _ _ _ _ _ _ it s₂) _ _); refine mark ?_)
  trivial
theorem mdu_head {names head choices left often never out apart : Option Value} {v : Value} (z : Str) : (if z = Str.ofString "head" then some v else mdu names head choices left often never out apart z) = mdu names (some v) choices left often never out apart z := by
  by_cases h : z = Str.ofString "head"
  · subst h; rfl
  · simp only [mdu, if_neg h]
theorem mdu_choices {names head choices left often never out apart : Option Value} {v : Value} (z : Str) : (if z = Str.ofString "choices" then some v else mdu names head choices left often never out apart z) = mdu names head (some v) left often never out apart z := by
  by_cases h : z = Str.ofString "choices"
  · subst h; rfl
  · simp only [mdu, if_neg h]
theorem mdu_left {names head choices left often never out apart : Option Value} {v : Value} (z : Str) : (if z = Str.ofString "left" then some v else mdu names head choices left often never out apart z) = mdu names head choices (some v) often never out apart z := by
  by_cases h : z = Str.ofString "left"
  · subst h; rfl
  · simp only [mdu, if_neg h]
theorem mdu_often {names head choices left often never out apart : Option Value} {v : Value} (z : Str) : (if z = Str.ofString "often" then some v else mdu names head choices left often never out apart z) = mdu names head choices left (some v) never out apart z := by
  by_cases h : z = Str.ofString "often"
  · subst h; rfl
  · simp only [mdu, if_neg h]
theorem mdu_never {names head choices left often never out apart : Option Value} {v : Value} (z : Str) : (if z = Str.ofString "never" then some v else mdu names head choices left often never out apart z) = mdu names head choices left often (some v) out apart z := by
  by_cases h : z = Str.ofString "never"
  · subst h; rfl
  · simp only [mdu, if_neg h]
theorem mdu_out {names head choices left often never out apart : Option Value} {v : Value} (z : Str) : (if z = Str.ofString "out" then some v else mdu names head choices left often never out apart z) = mdu names head choices left often never (some v) apart z := by
  by_cases h : z = Str.ofString "out"
  · subst h; rfl
  · simp only [mdu, if_neg h]
theorem mdu_apart {names head choices left often never out apart : Option Value} {v : Value} (z : Str) : (if z = Str.ofString "apart" then some v else mdu names head choices left often never out apart z) = mdu names head choices left often never out (some v) z := by
  by_cases h : z = Str.ofString "apart"
  · subst h; rfl
  · simp only [mdu, if_neg h]
noncomputable def duL1 : List Stmt := match duB with | _ :: c :: _ => [c] | _ => []
inductive JD1 (prog : Program) (w : World) (g : Heap) (names : List Str) (big : List (Addr × Obj)) (NL BD L' nc : Nat) (nv : Array Value) (o1 o3 o4 : Obj) (i : Nat) : Heap → (Str → Option Value) → List (Addr × Obj) → Prop
  | mk (hdv : Option Value) (lists : List (Addr × Obj)) (kvs : List (Str × Value)) (oBD' o2' : Obj) (cv' : Option Value) (c2' : o2'.data = .cell cv') (hB : BelV lists names (names.take i) kvs) (hd : oBD'.IsDictOf (strKind prog w) kvs) (hl : ∀ p ∈ lists, BD < p.1) :
    JD1 prog w g names big NL BD L' nc nv o1 o3 o4 i g (mdu (some (.ref NL)) hdv none none none none none none) ((BD, oBD') :: (L' + 1 + 1 + 1 + 1, o4) :: (L' + 1 + 1 + 1, o3) :: (L' + 1 + 1, o2') :: (L' + 1, o1) :: (NL, listOf nv nc) :: (lists ++ big))
theorem du1_loop {NL BD : Nat} {oBD o1 o2 o3 o4 : Obj} {nv : Array Value} {nc : Nat} {names : List Str} {cv2 cv3 cv4 : Option Value}
    (hn : Strs names nv) (O : NamesOk names)
    (c1 : o1.data = .cell (some (.ref BD))) (c2 : o2.data = .cell cv2) (c3 : o3.data = .cell cv3) (c4 : o4.data = .cell cv4) (hdB : oBD.IsDictOf (strKind prog w) []) (lo : (BD == sysModules) = false)
    (hBD : L' + 1 + 1 + 1 + 1 < BD) (hNL : NL < L') (hbig : ∀ p ∈ big, p.1 < L')
    (Y : Ty 8 w p loose mean mg mb dp un gd cn cs L a ccd cl outer base g)
    (F : Fr g L' s.heap (mdu (some (.ref NL)) none none none none none none none))
    (N : News g L' s.heap ((BD, oBD) :: (L' + 1 + 1 + 1 + 1, o4) :: (L' + 1 + 1 + 1, o3) :: (L' + 1 + 1, o2) :: (L' + 1, o1) :: (NL, listOf nv nc) :: big))
    (hq : ∀ hdv lists kvs oBD' o2' cv' h' tk' d, o2'.data = .cell cv' → BelV lists names names kvs → oBD'.IsDictOf (strKind prog w) kvs → (∀ p ∈ lists, BD < p.1) → Fr g L' h' (mdu (some (.ref NL)) hdv none none none none none none) →
      News g L' h' ((BD, oBD') :: (L' + 1 + 1 + 1 + 1, o4) :: (L' + 1 + 1 + 1, o3) :: (L' + 1 + 1, o2') :: (L' + 1, o1) :: (NL, listOf nv nc) :: (lists ++ big)) → QF .next { s with heap := h', toks := tk', drawn := d }) :
    wpAny (model prog w) ((ktrTop dp un gd cn cs L a ccd cl outer).deeper (duEnv L')) (execs duL1 (duEnv L')) QF (fun _ _ => False) s := by
  have Y' := Y
  obtain ⟨hk, hd0, hun, B, X, T0⟩ := Y
  k_steps
  unfold Marked
  refine listg_inv (h₀ := g) (JD1 prog w g names big NL BD L' nc nv o1 o3 o4)
    rfl (by rfl) (by rfl) F N (by k_mem) ?_ ?_ (fun _ _ h => h.elim) ?_ ?_
  · exact ⟨none, [], [], oBD, o2, cv2, c2, .nil, hdB, (fun p hp => by cases hp)⟩
  · rintro i g₁ m₁ news₁ ⟨hdv, lists, kvs, oBD', o2', cv', c2', hB, hd, hl⟩
    k_mem
  · rintro i v g₁ m₁ news₁ h tk d I io hv ⟨hdv, lists, kvs, oBD', o2', cv', c2', hB, hd, hl⟩ hni hlI F4 N4
    obtain ⟨hd9, th, rfl, hnm⟩ := StrsAre.item hn i v (by rw [Array.getElem?_toList]; exact hv)
    have hil : i < names.length := (List.getElem?_eq_some_iff.mp hnm).1
    have F5 := Fr.cast F4 mdu_head
    have hBI : BD < I := hlI (BD, oBD) (.head _)
    have hnew : hd9 ∉ names.take i := fun hm => by
      have e := O.nd
      rw [← List.take_append_drop i names, List.drop_eq_getElem_cons hil, (List.getElem?_eq_some_iff.mp hnm).2] at e
      have := (List.nodup_append.mp e).2.2 hd9 hm hd9 (.head _)
      exact this rfl
    have hb9 : ∀ p ∈ lists ++ big, p.1 ≠ L' + 1 + 1 ∧ p.1 ≠ BD := fun p hp => by
      rcases List.mem_append.mp hp with q | q
      · have := hl p q
        exact ⟨Nat.ne_of_gt (Nat.lt_trans (by first | k_extra "OM" | (first | lia | omega)) this), Nat.ne_of_gt this⟩
      · have := hbig p q
        exact ⟨Nat.ne_of_lt (Nat.lt_trans this (by first | k_extra "OM" | (first | lia | omega))), Nat.ne_of_lt (Nat.lt_trans this (by first | k_extra "OM" | (first | lia | omega)))⟩
    show wpAny _ _ (execs du1 (duEnv L')) _ _ _
    refine du1_turn (big := lists ++ big) hn O (List.mem_of_getElem? hnm) c1 c2' c3 c4 hd (by rw [hB.1, List.length_take]; have := O.nz; (first | lia | omega)) lo hBD hNL hBI hb9 Y' F5 N4 fun BL bv bc oBD2 o22 cv2 h2 tk2 d2 c22 hIB hbv hd2 F6 N6 => ?_
    rw [stored_new (hB.none hnew)] at hd2
    refine ⟨_, h2, tk2, d2, _, (BD, oBD2) :: (L' + 1 + 1 + 1 + 1, o4) :: (L' + 1 + 1 + 1, o3) :: (L' + 1 + 1, o22) :: (L' + 1, o1) :: (NL, listOf nv nc) :: (((BL, listOf bv bc) :: lists) ++ big), rfl, F6, news_sub N6 fun p hp => ?_, fun p hp q hq => ?_, _, (BL, listOf bv bc) :: lists, _, oBD2, o22, _, c22, ?_, hd2, ?_⟩
    · first | (refine sub_use ?_ hp; k_extra "SUB") | (simp only [List.mem_cons, List.mem_append, List.cons_append, List.nil_append] at hp ⊢; grind)
    · rw [List.mem_singleton.mp hq]
      revert p hp
      refine allP_cons ?_ (allP_cons ?_ (allP_cons ?_ (allP_cons ?_ (allP_cons ?_ (allP_cons ?_ (allP_cons ?_ (fun p (hp : p ∈ lists ++ big) => ?_)))))))
      · exact Nat.ne_of_lt hBI
      · exact Nat.ne_of_lt (by first | k_extra "OM" | (first | lia | omega))
      · exact Nat.ne_of_lt (by first | k_extra "OM" | (first | lia | omega))
      · exact Nat.ne_of_lt (by first | k_extra "OM" | (first | lia | omega))
      · exact Nat.ne_of_lt (by first | k_extra "OM" | (first | lia | omega))
      · exact Nat.ne_of_lt (by first | k_extra "OM" | (first | lia | omega))
      · exact Nat.ne_of_gt hIB
      · exact hni p (by first | (have hzz := hp; k_extra "MEM") | (simp only [List.mem_cons]; simp [hp]))
    · rw [List.take_add_one, hnm]
      exact hB.snoc hbv
    · intro p hp
      rcases List.mem_cons.mp hp with rfl | hp
      · exact Nat.lt_trans hBI hIB
      · exact hl p hp
  · rintro g₁ h tk d m' news' F4 N4 ⟨hdv, lists, kvs, oBD', o2', cv', c2', hB, hd, hl⟩
    rw [hn.size, List.take_length] at hB
    refine wpAny_execs_nil ?_
    exact hq _ _ _ _ _ _ _ _ _ c2' hB hd hl F4 N4
end
end
section
section
variable {prog : Program} {w : World} {p : Program} {loose : List Str} {mean : ExcName → Option Value} {mg mb : Str → Option Value} {dp un : Nat} {gd : Option (List Code)} {cn : Str} {cs : Scope} {a : Addr} {ccd : Value} {cl : List (Str × Addr)} {outer : List Env} {A₀ : Around} {base h₀ : Heap} {L : Addr} {m : Str → Option Value} {news rest : List (Addr × Obj)} {s : Shared} {Q E : Value → Shared → Prop}
open PyProof.Rows.LCg
variable {g : Heap} {L' : Nat} {QF : Flow → Shared → Prop} {tups big : List (Addr × Obj)}
theorem wd_KQ3_57 : True := by
  k_with "exec For Name Name cons nil" => (k_here; (with_unfolding_all refine' For_enum ?_; k_whole))
  k_with "pyIter ref" => ((with_reducible show wpAny _ _ (pyIter (Value.ref _)) (fun it s₂ => EnumAt _ _ _ _ _ _ _ _ it s₂) _ _); refine mark ?_)
  k_with "pyIter ref" => ((with_reducible show wpAny _ _ (pyIter (Value.ref _)) (fun it s₂ => CompAt _ _ _ _ _ _ _ _ _ it s₂) _ _); refine mark ?_)
  k_with "eval ListComp" => (k_here; k_dflt (refine comp_go (by with_unfolding_all rfl) (by rfl) (by decide) ?_); k_whole)
  trivial
theorem addT {A : Around} {t b : Nat} {va vb : Array Value} {ca cb : Nat} {as bs : List Str} {Q : Value → Shared → Prop} (F : Fr h₀ L s.heap m) (N : News h₀ L s.heap ((b, tupO vb cb) :: rest)) (ha : (t, tupO va ca) ∈ (b, tupO vb cb) :: rest) (sa : Strs as va) (sb : Strs bs vb) (hbne : bs.length = 1) (hz : as.length ≤ 900) (hlt : ∀ p ∈ rest, p.1 < b)
    (h : ∀ (T : Nat) vc cc h', (∀ p ∈ rest, p.1 < T) → Strs (as ++ bs) vc → Fr h₀ L h' m → News h₀ L h' ((T, tupO vc cc) :: rest) → Q (.ref T) { s with heap := h' }) :
    wpAny (model prog w) A (binaryOp .Add (.ref t) (.ref b)) Q E s := by
  have hbz : vb.toList ≠ [] := fun e => by
    have := StrsAre.length sb
    rw [e, hbne] at this
    cases this
  refine add_tuples (vs := va.toList) (ws := vb.toList) F N ⟨_, (N _ ha).1, rfl, ca, by simp⟩ ⟨_, (N _ (.head _)).1, rfl, cb, by simp⟩ (fun e => ?_) (fun _ e => absurd e hbz) (fun _ _ h' F' N' => ?_) (by rw [StrsAre.length sa, StrsAre.length sb, hbne, sizeLine_eq]; (first | lia | omega))
  · have hs : as = [] := by
      have := StrsAre.length sa
      rw [e] at this
      exact List.length_eq_zero_iff.mp this.symm
    subst hs
    exact h b vb cb s.heap hlt sb F N
  · refine h _ (va.toList ++ vb.toList).toArray 0 h' (fun p hp => Heap.lt_size (N p (.tail _ hp)).1) (by show StrsAre (va.toList ++ vb.toList).toArray.toList _; simpa using strs_app sa sb) F' (news_sub N' fun p hp => ?_)
    rcases List.mem_cons.mp hp with rfl | hp
    · exact .head _
    · exact .tail _ (.tail _ hp)
theorem wd_KQ3_58 : True := by
  k_with "binaryOp Add ref ref" => (k_here; k_dflt (refine' addT ?zF ?zN ?za ?sa ?sb ?zb ?zz ?zl ?_; (case zF => k_asm); (case zN => k_asm); (case za => exact List.mem_cons_of_mem _ (by assumption)); (case sa => assumption); (case sb => exact .cons _ _ .nil); (case zb => rfl); (case zz => assumption); (case zl => first | assumption | exact of_allLt (by assumption))); intro _ _ _ _ _ _ _ _)
  trivial
noncomputable def duc : List Stmt := match duB with | _ :: _ :: c :: _ => [c] | _ => []
noncomputable def du2 : List Stmt := match duB with | _ :: _ :: _ :: .For _ _ b _ _ :: _ => b | _ => []
theorem duc_st {v1 : Option Value} {NL : Nat} {led : List (Addr × Obj)}
    (Y : Ty 8 w p loose mean mg mb dp un gd cn cs L a ccd cl outer base g)
    (F : Fr g L' s.heap (mdu (some (.ref NL)) v1 none none none none none none))
    (N : News g L' s.heap big)
    (hq : ∀ (CL : Nat) cv cc tt h' tk', ListT tt [[]] cv → (∀ p ∈ big, p.1 < CL ∧ ∀ q ∈ tt, p.1 < q.1) → Fr g L' h' (mdu (some (.ref NL)) v1 (some (.ref CL)) none none none none none) → News g L' h' ((CL, listOf cv cc) :: (tt ++ big)) → QF .next { s with heap := h', toks := tk' }) :
    wpAny (model prog w) ((ktrTop dp un gd cn cs L a ccd cl outer).deeper (duEnv L')) (execs duc (duEnv L')) QF (fun _ _ => False) s := by
  obtain ⟨hk, hd0, hun, B, X, T0⟩ := Y
  k_steps
  rename News _ _ _ _ => N9
  rename Fr _ _ _ _ => F9
  have F10 := Fr.cast F9 mdu_choices
  rename (∀ p ∈ big, p.1 < _) => l0
  rename _ < _ ∧ AllLt _ big => l1
  refine hq _ _ 0 [(_, tupO #[] 0)] _ _ ⟨rfl, fun k x hk => ?_⟩ (fun p hp => ⟨of_allLt l1.2 p hp, fun q hq => ?_⟩) F10 N9
  · cases k with
    | zero =>
      simp at hk
      subst hk
      exact ⟨_, rfl, _, #[], 0, rfl, .head _, .nil, rfl⟩
    | succ k => simp at hk
  · rw [List.mem_singleton.mp hq]
    exact l0 p hp
noncomputable def chAdd (As : List (List Str)) (nm : Str) : List (List Str) := As ++ As.map fun x => x ++ [nm]
noncomputable def choicesOf (names : List Str) : List (List Str) := names.foldl chAdd [[]]
theorem add2K {A : Around} {l b : Nat} {va vb : Array Value} {ca cb : Nat} {Q : Value → Shared → Prop} {news : List (Addr × Obj)} (F : Fr h₀ L s.heap m) (N : News h₀ L s.heap news) (hl : (l, listOf va ca) ∈ news) (hb : (b, listOf vb cb) ∈ news) (hza : va.size ≤ 500) (hzb : vb.size ≤ 500)
    (h : ∀ (D : Nat) h', (∀ p ∈ news, p.1 < D) → Fr h₀ L h' m → News h₀ L h' ((D, listOf (va.toList ++ vb.toList).toArray 0) :: news) → Q (.ref D) { s with heap := h' }) : wpAny (model prog w) A (binaryOp .Add (.ref l) (.ref b)) Q E s :=
  add_lists (vs := va.toList) (ws := vb.toList) F N ⟨_, (N _ hl).1, rfl, ca, by simp⟩ ⟨_, (N _ hb).1, rfl, cb, by simp⟩ (fun h' F' N' => h _ h' (fun p hp => Heap.lt_size (N p hp).1) F' N') (by rw [sizeLine_eq, Array.length_toList, Array.length_toList]; (first | lia | omega))
theorem wd_KQ3_59 : True := by
  k_with "binaryOp Add ref ref" => (k_here; k_dflt (refine' add2K ?zF ?zN ?zl ?zb ?za ?zc ?_; (case zF => k_asm); (case zN => k_asm); (case zl => k_mem); (case zb => k_mem); (case za => assumption); (case zc => assumption)); intro _ _ zl9 _ _; (try k_lt zl9))
  trivial
theorem ListT.app {t1 t2 : List (Addr × Obj)} {As Bs : List (List Str)} {va vb : Array Value} (h1 : ListT t1 As va) (h2 : ListT t2 Bs vb) : ListT (t2 ++ t1) (As ++ Bs) (va.toList ++ vb.toList).toArray := by
  refine ⟨by simp [h1.1, h2.1], fun k x hk => ?_⟩
  rcases Nat.lt_or_ge k As.length with hlt | hge
  · rw [List.getElem?_append_left hlt] at hk
    obtain ⟨v, hv, hi⟩ := h1.2 k x hk
    refine ⟨v, ?_, hi.mono fun p hp => List.mem_append_right _ hp⟩
    rw [← hv]
    simp [List.getElem?_append_left (show k < va.toList.length by rw [Array.length_toList, h1.1]; exact hlt)]
  · rw [List.getElem?_append_right hge] at hk
    obtain ⟨v, hv, hi⟩ := h2.2 _ x hk
    refine ⟨v, ?_, hi.mono fun p hp => List.mem_append_left _ hp⟩
    rw [← hv]
    have e1 : va.toList.length ≤ k := by rw [Array.length_toList, h1.1]; exact hge
    simp [List.getElem?_append_right e1, h1.1]
theorem mv9 {α : Type} {p a b c i l o t : α} {x y : List α} (h : p ∈ [a, b, c] ++ (i :: l :: o :: ((t :: x) ++ y))) : p ∈ t :: a :: b :: c :: i :: l :: o :: (x ++ y) := by
  first | (refine sub_use ?_ h; k_extra "SUB") | (simp only [List.mem_cons, List.mem_append, List.cons_append, List.nil_append] at h ⊢; grind)
theorem du2_turn {CL I : Nat} {io o3 : Obj} {cv : Array Value} {cc : Nat} {nm : Str} {tn : Tok} {As : List (List Str)} {tt : List (Addr × Obj)} {v0 v1 v3 v4 v5 v6 v7 : Option Value}
    (hA : ListT tt As cv) (hz : As.length ≤ 100) (hAl : ∀ x ∈ As, x.length ≤ 900) (c3 : o3.data = .cell (some (.str nm tn))) (hok : PyData.strOk nm = true)
    (hLI : L' + 1 + 1 + 1 < I)
    (Y : Ty 8 w p loose mean mg mb dp un gd cn cs L a ccd cl outer base g)
    (F : Fr g L' s.heap (mdu v0 v1 (some (.ref CL)) v3 v4 v5 v6 v7))
    (N : News g L' s.heap ((I, io) :: (CL, listOf cv cc) :: (L' + 1 + 1 + 1, o3) :: (tt ++ big)))
    (hq : ∀ (CL2 : Nat) cv2 cc2 tt2 h' tk', ListT (tt2 ++ tt) (chAdd As nm) cv2 → (∀ p ∈ tt2, I < p.1) → I < CL2 → Fr g L' h' (mdu v0 v1 (some (.ref CL2)) v3 v4 v5 v6 v7) → News g L' h' ((CL2, listOf cv2 cc2) :: (I, io) :: (CL, listOf cv cc) :: (L' + 1 + 1 + 1, o3) :: (tt2 ++ (tt ++ big))) → QF .next { s with heap := h', toks := tk' }) :
    wpAny (model prog w) ((ktrTop dp un gd cn cs L a ccd cl outer).deeper (duEnv L')) (execs du2 (duEnv L')) QF (fun _ _ => False) s := by
  obtain ⟨hk, hd0, hun, B, X, T0⟩ := Y
  have hza : cv.size ≤ 500 := by rw [hA.1]; (first | lia | omega)
  k_steps
  unfold Marked
  refine comp_list0 (vs := cv) (c := cc) (fun i ys nw => ∃ t2, ListT t2 ((As.take i).map fun x => x ++ [nm]) ys.toArray ∧ (∀ p ∈ t2, I < p.1) ∧ nw = ((I, io) :: (CL, listOf cv cc) :: (L' + 1 + 1 + 1, o3) :: (t2 ++ (tt ++ big)))) rfl (by first | k_extra "OM" | (first | lia | omega)) (by decide) rfl rfl F N (by k_mem) ⟨[], .nil', (fun p hp => by cases hp), rfl⟩ ?_ ?_ ?_ ?_
  · rintro i ys nw ⟨t2, h8, h9, rfl⟩
    first | k_extra "MEM" | simp
  · rintro i ys nw ⟨t2, h8, h9, rfl⟩
    have := h8.1
    simp at this
    first | k_extra "OM" | (first | lia | omega)
  · rintro i v ys nw I2 C2 D2 oI oC m₂ h tk hi hv ⟨t2, h8, h9, rfl⟩ hC' hx' F4 N4 off hID hDC hlt
    have hil : i < As.length := by rw [← hA.1]; exact hi
    obtain ⟨x, hx⟩ : ∃ x, As[i]? = some x := ⟨_, List.getElem?_eq_getElem hil⟩
    obtain ⟨u, hu, T, items, c, rfl, hm, hst, hok9⟩ := hA.2 i x hx
    rw [hv] at hu
    obtain rfl := Option.some.inj hu
    have hx9 : x.length ≤ 900 := hAl x (List.mem_of_getElem? hx)
    have hm9 : (T, tupO items c) ∈ ((I2, oI) :: (C2, oC) :: (D2, lst ys) :: ((I, io) :: (CL, listOf cv cc) :: (L' + 1 + 1 + 1, o3) :: (t2 ++ (tt ++ big)))) := by first | k_extra "MEM" | simp [hm]
    refine cend0_gen fun Q1 hy => ?_
    k_steps
    rename News _ _ _ _ => N9
    rename Fr _ _ _ _ => F9
    rename Strs (x ++ _) _ => st9
    rename (∀ p ∈ ((I2, oI) :: _), p.1 < _) => l9
    rename_i T9 vc9 cc9 hh9
    have hIT : I < T9 := l9 (I, io) (by first | k_extra "MEM" | simp)
    refine hy _ _ _ ((I, io) :: (CL, listOf cv cc) :: (L' + 1 + 1 + 1, o3) :: (((T9, tupO vc9 cc9) :: t2) ++ (tt ++ big))) F9 (news_sub N9 fun p hp => mv9 hp) (CEnd_off fun p hp => ?_) ⟨(T9, tupO vc9 cc9) :: t2, ?_, fun p hp => ?_, rfl⟩
    · revert p hp
      refine allP_cons ?_ (allP_cons ?_ (allP_cons ?_ (allP_cons ?_ (fun p (hp : p ∈ t2 ++ (tt ++ big)) => ?_))))
      · exact off (I, io) (by first | k_extra "MEM" | simp)
      · exact off (CL, listOf cv cc) (by first | k_extra "MEM" | simp)
      · exact off (L' + 1 + 1 + 1, o3) (by first | k_extra "MEM" | simp)
      · exact ⟨Nat.ne_of_gt (l9 (I2, oI) (by first | k_extra "MEM" | simp)), Nat.ne_of_gt (l9 (C2, oC) (by first | k_extra "MEM" | simp)), Nat.ne_of_gt (l9 (D2, lst ys) (by first | k_extra "MEM" | simp))⟩
      · exact off p (by first | (have hzz := hp; k_extra "MEM") | simp [hp])
    · rw [List.take_add_one, hx, List.map_append, show (ys ++ [Value.ref T9]).toArray = ys.toArray.push (.ref T9) by simp]
      exact h8.snoc (fun p hp => .tail _ hp) ⟨T9, vc9, cc9, rfl, .head _, st9, by rw [List.all_append, hok9]; simp [hok]⟩
    · rcases List.mem_cons.mp hp with rfl | hp
      · exact hIT
      · exact h9 p hp
  · rintro D3 h tk nw ys F4 N4 off hlt ⟨t2, h8, h9, rfl⟩
    rw [← lst_listOf] at N4
    have hzb : ys.toArray.size ≤ 500 := by
      have := h8.1
      rw [this, List.length_map, List.length_take]
      first | k_extra "OM" | (first | lia | omega)
    have hID3 : I < D3 := hlt (I, io) (by first | k_extra "MEM" | simp)
    k_steps
    rename News _ _ _ _ => N9
    rename Fr _ _ _ _ => F9
    rename D3 < _ ∧ _ => l9
    have e9 : As.take cv.size = As := by rw [hA.1]; exact List.take_length
    rw [e9] at h8
    have F10 := Fr.cast F9 mdu_choices
    refine hq _ _ 0 t2 _ _ (hA.app h8) h9 (Nat.lt_trans hID3 l9.1) F10 (news_sub N9 fun p hp => ?_)
    rcases List.mem_cons.mp hp with rfl | hp
    · exact .head _
    · exact .tail _ (.tail _ hp)
noncomputable def duL2 : List Stmt := match duB with | _ :: _ :: _ :: c :: _ => [c] | _ => []
theorem choices_len (names : List Str) : ∀ (As : List (List Str)), (names.foldl chAdd As).length = As.length * 2 ^ names.length := by
  induction names with
  | nil => intro As; simp
  | cons a r ih =>
    intro As
    rw [List.foldl_cons, ih]
    simp only [chAdd, List.length_append, List.length_map, List.length_cons, Nat.pow_succ]
    rw [← Nat.two_mul, Nat.mul_comm 2 As.length, Nat.mul_assoc, Nat.mul_comm 2]
theorem choices_in (names : List Str) (n : Nat) : ∀ (As : List (List Str)), (∀ x ∈ As, x.length ≤ n) → ∀ x ∈ names.foldl chAdd As, x.length ≤ n + names.length := by
  induction names generalizing n with
  | nil => intro As h x hx; simpa using h x hx
  | cons a r ih =>
    intro As h x hx
    rw [List.foldl_cons] at hx
    have := ih (n + 1) (chAdd As a) (fun y hy => by
      rcases List.mem_append.mp hy with q | q
      · exact Nat.le_succ_of_le (h y q)
      · obtain ⟨z, hz, rfl⟩ := List.mem_map.mp q
        rw [List.length_append]
        exact Nat.succ_le_succ (h z hz)) x hx
    rw [List.length_cons]
    first | k_extra "OM" | (first | lia | omega)
inductive JD2 (g : Heap) (names : List Str) (big : List (Addr × Obj)) (NL L' nc : Nat) (v1 : Option Value) (nv : Array Value) (i : Nat) : Heap → (Str → Option Value) → List (Addr × Obj) → Prop
  | mk (CL2 : Nat) (cv2 : Array Value) (cc2 : Nat) (tt2 : List (Addr × Obj)) (o3' : Obj) (cv3' : Option Value) (c3' : o3'.data = .cell cv3') (hA' : ListT tt2 (choicesOf (names.take i)) cv2) (hC' : L' + 1 + 1 + 1 + 1 < CL2) (ht' : ∀ p ∈ tt2, L' + 1 + 1 + 1 + 1 < p.1) :
    JD2 g names big NL L' nc v1 nv i g (mdu (some (.ref NL)) v1 (some (.ref CL2)) none none none none none) ((CL2, listOf cv2 cc2) :: (L' + 1 + 1 + 1, o3') :: (NL, listOf nv nc) :: (tt2 ++ big))
theorem du2_loop {CL NL : Nat} {o3 : Obj} {cv nv : Array Value} {cc nc : Nat} {names : List Str} {tt : List (Addr × Obj)} {v1 : Option Value} {cv3 : Option Value}
    (hn : Strs names nv) (hnz : names.length ≤ 6) (hok : names.all PyData.strOk = true) (hA : ListT tt [[]] cv) (c3 : o3.data = .cell cv3)
    (hCL : L' + 1 + 1 + 1 + 1 < CL) (htL : ∀ p ∈ tt, L' + 1 + 1 + 1 + 1 < p.1) (hbL : ∀ p ∈ big, p.1 ≠ L' + 1 + 1 + 1) (hNL : NL < L') {o4 : Obj} (hm4 : (L' + 1 + 1 + 1 + 1, o4) ∈ big)
    (Y : Ty 8 w p loose mean mg mb dp un gd cn cs L a ccd cl outer base g)
    (F : Fr g L' s.heap (mdu (some (.ref NL)) v1 (some (.ref CL)) none none none none none))
    (N : News g L' s.heap ((CL, listOf cv cc) :: (L' + 1 + 1 + 1, o3) :: (NL, listOf nv nc) :: (tt ++ big)))
    (hq : ∀ (CL2 : Nat) cv2 cc2 tt2 o3' cv3' h' tk' d, o3'.data = .cell cv3' → ListT tt2 (choicesOf names) cv2 → L' + 1 + 1 + 1 + 1 < CL2 → (∀ p ∈ tt2, L' + 1 + 1 + 1 + 1 < p.1) → Fr g L' h' (mdu (some (.ref NL)) v1 (some (.ref CL2)) none none none none none) →
      News g L' h' ((CL2, listOf cv2 cc2) :: (L' + 1 + 1 + 1, o3') :: (NL, listOf nv nc) :: (tt2 ++ big)) → QF .next { s with heap := h', toks := tk', drawn := d }) :
    wpAny (model prog w) ((ktrTop dp un gd cn cs L a ccd cl outer).deeper (duEnv L')) (execs duL2 (duEnv L')) QF (fun _ _ => False) s := by
  have Y' := Y
  obtain ⟨hk, hd0, hun, B, X, T0⟩ := Y
  k_steps
  unfold Marked
  refine listt_inv (h₀ := g) (JD2 g names big NL L' nc v1 nv)
    rfl F N (by k_mem) ?_ ?_ (fun _ _ h => h.elim) _ (by intro _ _; rfl) ?_ ?_
  · exact ⟨CL, cv, cc, tt, o3, cv3, c3, hA, hCL, htL⟩
  · rintro i g₁ m₁ news₁ ⟨CL2, cv2, cc2, tt2, o3', cv3', c3', hA', hC', ht'⟩
    k_mem
  · rintro i v g₁ m₁ news₁ h tk d I io hv ⟨CL2, cv2, cc2, tt2, o3', cv3', c3', hA', hC', ht'⟩ hni hlI F4 N4
    obtain ⟨nm, tn, rfl, hnm⟩ := StrsAre.item hn i v (by rw [Array.getElem?_toList]; exact hv)
    have hil : i < names.length := (List.getElem?_eq_some_iff.mp hnm).1
    have hLI : L' + 1 + 1 + 1 + 1 < I := hlI (L' + 1 + 1 + 1 + 1, o4) (by first | (have hzz := hm4; k_extra "MEM") | simp [hm4])
    have hb1 : ∀ p ∈ tt2 ++ big, p.1 ≠ L' + 1 + 1 + 1 := fun p hp => by
      rcases List.mem_append.mp hp with q | q
      · exact Nat.ne_of_gt (Nat.lt_trans (Nat.lt_succ_self _) (ht' p q))
      · exact hbL p q
    have hCI : CL2 ≠ I := hni (CL2, listOf cv2 cc2) (by first | k_extra "MEM" | simp)
    show wpAny _ _ (assign _ (duEnv L') _) (fun _ s₂ => wpAny _ _ (execs du2 (duEnv L')) _ _ s₂) _ _
    refine wpAny_mono (Q := fun _ s₂ => Marked (∃ h2 tk2 o3'', s₂ = { s with heap := h2, toks := tk2, drawn := d } ∧ o3''.data = .cell (some (.str nm tn)) ∧ Fr g L' h2 (mdu (some (.ref NL)) v1 (some (.ref CL2)) none none none none none) ∧
      News g L' h2 ((I, io) :: (CL2, listOf cv2 cc2) :: (L' + 1 + 1 + 1, o3'') :: (NL, listOf nv nc) :: (tt2 ++ big)))) ?_ (fun _ s₂ hh => ?_) (fun _ _ h => h)
    · k_steps
      rename News _ _ _ _ => N5
      rename Fr _ _ _ _ => F5
      exact ⟨_, _, _, rfl, by first | assumption | rfl, F5, N5⟩
    · obtain ⟨h2, tk2, o3'', rfl, c3'', F5, N5⟩ := hh
      have hlen := choices_len (names.take i) [[]]
      have hin := choices_in (names.take i) 0 [[]] (fun x hx => by simp at hx; simp [hx])
      have hpow : 2 ^ (names.take i).length ≤ 2 ^ 6 := Nat.pow_le_pow_right (by first | k_extra "OM" | (first | lia | omega)) (by rw [List.length_take]; (first | lia | omega))
      have hcs : (choicesOf (names.take i)).length ≤ 100 := by
        show (List.foldl chAdd [[]] (names.take i)).length ≤ 100
        rw [hlen]
        simp only [List.length_cons, List.length_nil]
        first | k_extra "OM" | (first | lia | omega)
      refine du2_turn (cc := cc2) (io := io) (tt := tt2) (big := (NL, listOf nv nc) :: big) hA' hcs (fun x hx => by have := hin x hx; rw [List.length_take] at this; (first | lia | omega)) c3'' ((List.all_eq_true.mp hok) nm (List.mem_of_getElem? hnm)) (Nat.lt_trans (Nat.lt_succ_self _) hLI) Y' F5 (news_sub N5 fun p hp => ?_) fun CL3 cv3 cc3 tt3 h3 tk3 hA3 ht3 hIC F6 N6 => ?_
      · first | (refine sub_use ?_ hp; k_extra "SUB") | (simp only [List.mem_cons, List.mem_append, List.cons_append, List.nil_append] at hp ⊢; grind)
      · refine ⟨_, h3, tk3, d, _, (CL3, listOf cv3 cc3) :: (L' + 1 + 1 + 1, o3'') :: (NL, listOf nv nc) :: ((tt3 ++ tt2) ++ big), rfl, F6, news_sub N6 fun p hp => ?_, fun p hp q hq => ?_, CL3, cv3, cc3, tt3 ++ tt2, o3'', _, c3'', ?_, Nat.lt_trans hLI hIC, fun p hp => ?_⟩
        · first | (refine sub_use ?_ hp; k_extra "SUB") | (simp only [List.mem_cons, List.mem_append, List.cons_append, List.nil_append] at hp ⊢; grind)
        · rw [List.mem_singleton.mp hq]
          revert p hp
          refine allP_cons ?_ (allP_cons ?_ (allP_cons ?_ (allP_app (allP_app (fun p hp => ?_) (fun p hp => ?_)) (fun p hp => ?_))))
          · exact Nat.ne_of_gt hIC
          · exact hni (L' + 1 + 1 + 1, o3') (by first | k_extra "MEM" | simp)
          · exact hni (NL, listOf nv nc) (by first | k_extra "MEM" | simp)
          · exact Nat.ne_of_gt (ht3 p hp)
          · exact hni p (by first | (have hzz := hp; k_extra "MEM") | simp [hp])
          · exact hni p (by first | (have hzz := hp; k_extra "MEM") | simp [hp])
        · have e9 : choicesOf (names.take (i + 1)) = chAdd (choicesOf (names.take i)) nm := by
            unfold choicesOf
            rw [List.take_add_one, hnm, List.foldl_append]
            rfl
          rw [e9]
          exact hA3
        · rcases List.mem_append.mp hp with q | q
          · exact Nat.lt_trans hLI (ht3 p q)
          · exact ht' p q
  · rintro g₁ h tk d m' news' F4 N4 ⟨CL2, cv2, cc2, tt2, o3', cv3', c3', hA', hC', ht'⟩
    rw [hn.size, List.take_length] at hA'
    refine wpAny_execs_nil ?_
    exact hq _ _ _ _ _ _ _ _ _ c3' hA' hC' ht' F4 N4
end
end
section
set_option tactic.hygienic false
section
variable {prog : Program} {w : World} {p : Program} {loose : List Str} {mean : ExcName → Option Value} {mg mb : Str → Option Value} {dp un : Nat} {gd : Option (List Code)} {cn : Str} {cs : Scope} {a : Addr} {ccd : Value} {cl : List (Str × Addr)} {outer : List Env} {A₀ : Around} {base h₀ : Heap} {L : Addr} {m : Str → Option Value} {news rest : List (Addr × Obj)} {s : Shared} {Q E : Value → Shared → Prop}
open PyProof.Rows.LCg
variable {g : Heap} {L' : Nat} {QF : Flow → Shared → Prop} {tups big : List (Addr × Obj)}
theorem inS {A : Around} {l : Nat} {vs : Array Value} {c : Nat} {ws : List Str} {k : Str} {t : Tok} {Q : Value → Shared → Prop} {news : List (Addr × Obj)} (N : News h₀ L s.heap news) (hm : (l, listOf vs c) ∈ news) (hs : Strs ws vs)
    {b : Bool} (hb9 : decide (k ∈ ws) = b) (h : Q (.bool b) s) : wpAny (model prog w) A (compareOp .In (.str k t) (.ref l)) Q E s := by
  subst hb9
  have e : ws.any (· == k) = decide (k ∈ ws) := by
    rw [Bool.eq_iff_iff, List.any_eq_true, decide_eq_true_iff]
    constructor
    · rintro ⟨x, hx, q⟩
      rw [← eq_of_beq q]
      exact hx
    · exact fun hx => ⟨k, hx, beq_self_eq_true k⟩
  exact in_list_strs ⟨_, (N _ hm).1, rfl, c, by simp⟩ hs (by rw [e]; exact h)
theorem neS {A : Around} {la lb : Nat} {va vb : Array Value} {ca cb : Nat} {as bs : List Str} {Q : Value → Shared → Prop} {news : List (Addr × Obj)} (N : News h₀ L s.heap news) (ha : (la, listOf va ca) ∈ news) (hb : (lb, listOf vb cb) ∈ news) (sa : Strs as va) (sb : Strs bs vb) (oa : as.all PyData.strOk = true) (ob : bs.all PyData.strOk = true) (hr : A.units + 64 < cLine)
    {b : Bool} (hb9 : (!decide (as = bs)) = b) (h : Q (.bool b) s) : wpAny (model prog w) A (compareOp .NotEq (.ref la) (.ref lb)) Q E s := by
  subst hb9
  refine ne_dataH (reads_list_at (N _ ha).1 rfl rfl (readsAll_strs sa)) (reads_list_at (N _ hb).1 rfl rfl (readsAll_strs sb)) (shaped_strsL _ oa) (shaped_strsL _ ob) hr ?_
  have e : PyData.eqv (.list (as.map PyData.str)) (.list (bs.map PyData.str)) = decide (as = bs) := by
    simp only [PyData.eqv, eqvAll_strs]
  rw [e]
  exact h
noncomputable def hitB (names : List Str) (nm hd : Str) : Bool := decide (nm ∈ names.filter (belowB hd))
noncomputable def hit (names ch : List Str) (nm : Str) : List Str := ch.filter (hitB names nm)
noncomputable def outB (names ch : List Str) (nm : Str) : Bool := !decide (hit names ch nm = [])
noncomputable def outOf (names ch : List Str) : List Str := names.filter (outB names ch)
noncomputable def apartB (names ch : List Str) (nm : Str) : Bool := decide (hit names ch nm = [nm])
noncomputable def apartOf (names ch : List Str) : List Str := ch.filter (apartB names ch)
theorem all_filter {l : List Str} {f : Str → Bool} (h : l.all PyData.strOk = true) : (l.filter f).all PyData.strOk = true := by
  rw [List.all_eq_true] at h ⊢
  exact fun x hx => h x (List.mem_filter.mp hx).1
noncomputable def du3 : List Stmt := match duB with | _ :: _ :: _ :: _ :: _ :: _ :: _ :: .For _ _ b _ _ :: _ => b | _ => []
noncomputable def du3a : List Stmt := match du3 with | a :: _ => [a] | _ => []
theorem wd_KQ4_60 : True := by
  k_with "pyIter ref" => ((with_reducible show wpAny _ _ (pyIter (Value.ref _)) (fun it s₂ => CompAt _ _ _ _ _ _ _ _ _ it s₂) _ _); refine mark ?_)
  k_with "eval ListComp" => (k_here; k_dflt (refine comp_go (by with_unfolding_all rfl) (by rfl) (by decide) ?_); k_whole)
  k_with "exec Assign cons ListComp" => (k_here; k_dflt (refine assign_comp (by rfl) (by with_unfolding_all rfl) (by rfl) (by decide) (by rfl) (by rfl) (by k_asm) ?_); k_whole)
  k_with "subscriptTail Name Name ref str" => (k_here; k_dflt (refine kda_item (knd := PySem.strKind _ _) (by k_asm) (by k_mem) (by assumption) (isStr _ _) (by assumption) ?_))
  k_with "compareOp In str ref" => (k_here; k_dflt (refine' inS ?zN ?zm ?zs ?zq ?_; (case zN => k_asm); (case zm => assumption); (case zs => assumption); (case zq => assumption)))
  k_with "compareOp NotEq ref ref" => (k_here; k_dflt (refine' neS ?zN ?za ?zb ?sa ?sb ?oa ?ob ?zr ?zq ?_; (case zN => k_asm); (case za => k_mem); (case zb => k_mem); (case sa => assumption); (case sb => exact .nil); (case oa => assumption); (case ob => rfl); (case zr => ktr_units); (case zq => assumption)))
  k_with "compareOp Eq ref ref" => (k_here; k_dflt (refine' eqS ?zN ?za ?zb ?sa ?sb ?oa ?ob ?zr ?_; (case zN => k_asm); (case za => k_mem); (case zb => k_mem); (case sa => assumption); (case sb => exact .cons _ _ .nil); (case oa => assumption); (case ob => assumption); (case zr => ktr_units)))
  k_with "call type:tuple" => (k_here; k_dflt (refine' tupleS ?zst ?zz ?zF ?zN ?zm ?_; (case zst => assumption); (case zz => assumption); (case zF => k_asm); (case zN => k_asm); (case zm => k_mem)); intro _ _ zl9 _ _; (try k_lt zl9))
  k_with "call builtin:list.append" => (k_here; k_dflt (refine' append1K' ?zF ?zN ?zU ?zz ?_; (case zF => k_asm); (case zN => k_asm); (case zU => k_upd); (case zz => assumption)); intro _ _ _)
  trivial
theorem BelV.item {lists : List (Addr × Obj)} {names : List Str} {kvs : List (Str × Value)} (H : BelV lists names names kvs) (nd : names.Nodup) {hd : Str} (hh : hd ∈ names) : ∃ (BL : Nat) (bv : Array Value) (bc : Nat), valueAt kvs hd = some (.ref BL) ∧ (BL, listOf bv bc) ∈ lists ∧ Strs (names.filter (belowB hd)) bv := by
  obtain ⟨k, hk⟩ := List.mem_iff_getElem?.mp hh
  obtain ⟨BL, bv, bc, h1, h2, h3⟩ := H.2 k hd hk
  exact ⟨BL, bv, bc, valueAt_nodup (by rw [H.keys]; exact nd) k hd _ h1, h2, h3⟩
theorem CEnd_off4 {I C K9 D : Nat} {oI oC oK oD : Obj} {nw : List (Addr × Obj)} (off : ∀ p ∈ nw, p.1 ≠ I ∧ p.1 ≠ C ∧ p.1 ≠ K9 ∧ p.1 ≠ D) : ∀ p ∈ nw, ∀ q ∈ [((I, oI) : Addr × Obj), (C, oC), (K9, oK), (D, oD)], p.1 ≠ q.1 := by
  intro p hp q hq
  revert q hq
  refine allP_cons ?_ (allP_cons ?_ (allP_cons ?_ (allP_cons ?_ allP_nil)))
  · exact (off p hp).1
  · exact (off p hp).2.1
  · exact (off p hp).2.2.1
  · exact (off p hp).2.2.2
theorem du3a_st {NL BD T : Nat} {oBD o1 o4 : Obj} {nv items : Array Value} {nc c9 : Nat} {names ch : List Str} {kvs : List (Str × Value)} {lists : List (Addr × Obj)} {v1 v2 v3 v4 v5 v6 v7 : Option Value}
    (hn : Strs names nv) (O : NamesOk names) (hB : BelV lists names names kvs) (hlb : ∀ p ∈ lists, p ∈ big) (hdB : oBD.IsDictOf (strKind prog w) kvs) (lo : (BD == sysModules) = false)
    (hT : (T, tupO items c9) ∈ big) (hch : Strs ch items) (hsub : ∀ x ∈ ch, x ∈ names) (hcz : ch.length ≤ 500)
    (c1 : o1.data = .cell (some (.ref BD))) (c4 : o4.data = .cell (some (.ref T)))
    (Y : Ty 8 w p loose mean mg mb dp un gd cn cs L a ccd cl outer base g)
    (F : Fr g L' s.heap (mdu (some (.ref NL)) v1 v2 v3 v4 v5 v6 v7))
    (N : News g L' s.heap ((BD, oBD) :: (L' + 1 + 1 + 1 + 1, o4) :: (L' + 1, o1) :: (NL, listOf nv nc) :: big))
    (hq : ∀ (OT : Nat) ov oc h' tk' d, (∀ p ∈ ((BD, oBD) :: (L' + 1 + 1 + 1 + 1, o4) :: (L' + 1, o1) :: (NL, listOf nv nc) :: big), p.1 < OT) → Strs (outOf names ch) ov → Fr g L' h' (mdu (some (.ref NL)) v1 v2 v3 v4 v5 (some (.ref OT)) v7) → News g L' h' ((OT, tupO ov oc) :: ((BD, oBD) :: (L' + 1 + 1 + 1 + 1, o4) :: (L' + 1, o1) :: (NL, listOf nv nc) :: big)) → QF .next { s with heap := h', toks := tk', drawn := d }) :
    wpAny (model prog w) ((ktrTop dp un gd cn cs L a ccd cl outer).deeper (duEnv L')) (execs du3a (duEnv L')) QF (fun _ _ => False) s := by
  obtain ⟨hk, hd0, hun, B, X, T0⟩ := Y
  have hz9 : nv.size ≤ 1000 := by rw [hn.size]; have := O.nz; (first | lia | omega)
  have hiz : items.size ≤ 1000 := by rw [Strs.size hch]; (first | lia | omega)
  have hchok : ch.all PyData.strOk = true := by rw [List.all_eq_true]; exact fun x hx => (List.all_eq_true.mp O.ok) x (hsub x hx)
  k_steps
  unfold Marked
  refine comp_listC (vs := nv) (c := nc) (fun i ys nw => StrsAre ys ((names.take i).filter (outB names ch)) ∧ nw = ((BD, oBD) :: (L' + 1 + 1 + 1 + 1, o4) :: (L' + 1, o1) :: (NL, listOf nv nc) :: big)) rfl hz9 (by intro _ _; rfl) (by intro _; rfl) rfl (by intro _ _; rfl) F N (by k_mem) ⟨.nil, rfl⟩ ?_ ?_ ?_ ?_
  · rintro i ys nw ⟨h8, rfl⟩
    k_mem
  · rintro i ys nw ⟨h8, rfl⟩
    rw [h8.length]
    exact Nat.le_trans (List.length_filter_le _ _) (by rw [List.length_take]; exact Nat.min_le_left _ _)
  · rintro i v ys nw I C KC D oI oC oK m₂ h tk d hi hv ⟨h8, rfl⟩ hC' hK' F4 N4 off hID hDC hCK hlt
    obtain ⟨nm, tn, rfl, hnm⟩ := StrsAre.item hn i v (by rw [Array.getElem?_toList]; exact hv)
    have hnmM : nm ∈ names := List.mem_of_getElem? hnm
    have tk1 : (names.take (i + 1)).filter (outB names ch) = (names.take i).filter (outB names ch) ++ if outB names ch nm then [nm] else [] := by
      rw [List.take_add_one, hnm, List.filter_append]
      cases hq9 : outB names ch nm <;> simp [hq9]
    refine cend_gen fun Q1 Q2 hy hn => ?_
    k_steps
    unfold Marked
    refine comp_tupT (vs := items) (c := c9) (fun j zs nw => StrsAre zs ((ch.take j).filter (hitB names nm)) ∧ nw = ((I, oI) :: (C, oC) :: (KC, oK) :: (D, lst ys) :: ((BD, oBD) :: (L' + 1 + 1 + 1 + 1, o4) :: (L' + 1, o1) :: (NL, listOf nv nc) :: big))) rfl hiz (by decide) rfl rfl F4 N4 (by first | (have hzz := hT; k_extra "MEM") | simp [hT]) ⟨.nil, rfl⟩ ?_ ?_ ?_ ?_
    · rintro j zs nw ⟨h9, rfl⟩
      first | k_extra "MEM" | simp [hT]
    · rintro j zs nw ⟨h9, rfl⟩
      rw [h9.length]
      exact Nat.le_trans (List.length_filter_le _ _) (by rw [List.length_take]; exact Nat.min_le_left _ _)
    · rintro j v zs nw I2 C2 D2 oI2 oC2 m₃ h2 tk2 d2 hj hv2 ⟨h9, rfl⟩ hC2 hx2 F5 N5 off2 hID2 hDC2 hlt2
      obtain ⟨hd, th, rfl, hhd⟩ := StrsAre.item hch j v (by rw [Array.getElem?_toList]; exact hv2)
      have hhM : hd ∈ names := hsub hd (List.mem_of_getElem? hhd)
      obtain ⟨BL, bv, bc, hval, hmB, hstB⟩ := hB.item O.nd hhM
      have hmB9 : (BL, listOf bv bc) ∈ ((I2, oI2) :: (C2, oC2) :: (D2, lst zs) :: (I, oI) :: (C, oC) :: (KC, oK) :: (D, lst ys) :: ((BD, oBD) :: (L' + 1 + 1 + 1 + 1, o4) :: (L' + 1, o1) :: (NL, listOf nv nc) :: big)) := by first | (have hzz := hlb _ hmB; k_extra "MEM") | simp [hlb _ hmB]
      have tk2 : (ch.take (j + 1)).filter (hitB names nm) = (ch.take j).filter (hitB names nm) ++ if hitB names nm hd then [hd] else [] := by
        rw [List.take_add_one, hhd, List.filter_append]
        cases hq9 : hitB names nm hd <;> simp [hq9]
      refine cend_gen fun Q3 Q4 hy3 hn3 => ?_
      cases hb9 : decide (nm ∈ names.filter (belowB hd)) with
      | true =>
        k_steps
        exact hy3 _ _ _ _ _ F5 N5 (CEnd_off off2) ⟨by rw [tk2, show hitB names nm hd = true from hb9]; exact strs_snoc h9, rfl⟩
      | false =>
        k_steps
        exact hn3 _ _ _ _ F5 N5 (CEnd_off off2) ⟨by rw [tk2, show hitB names nm hd = false from hb9]; simpa using h9, rfl⟩
    · rintro D3 h3 tk3 d3 nw zs F5 N5 off3 hlt3 ⟨h9, rfl⟩
      have e9 : ch.take items.size = ch := by rw [Strs.size hch]; exact List.take_length
      rw [e9] at h9
      have hst9 : Strs (hit names ch nm) zs.toArray := h9
      have hok9 : (hit names ch nm).all PyData.strOk = true := all_filter hchok
      rw [← lst_listOf] at N5
      cases hb9 : !decide (hit names ch nm = []) with
      | true =>
        k_steps
        rename News _ _ _ _ => N9
        rename Fr _ _ _ _ => F9
        refine hy _ _ _ _ _ F9 (news_sub N9 fun p hp => ?_) (CEnd_off4 off) ⟨by rw [tk1, show outB names ch nm = true from hb9]; exact strs_snoc h8, rfl⟩
        simp only [List.cons_append, List.nil_append] at hp
        exact .tail _ (.tail _ hp)
      | false =>
        k_steps
        rename News _ _ _ _ => N9
        rename Fr _ _ _ _ => F9
        refine hn _ _ _ _ F9 (news_sub N9 fun p hp => ?_) (CEnd_off4 off) ⟨by rw [tk1, show outB names ch nm = false from hb9]; simpa using h8, rfl⟩
        simp only [List.cons_append, List.nil_append] at hp
        exact .tail _ (.tail _ hp)
  · rintro D3 h3 tk3 d3 nw ys F5 N5 off3 hlt3 ⟨h8, rfl⟩
    have e9 : names.take nv.size = names := by rw [hn.size]; exact List.take_length
    rw [e9] at h8
    have hst9 : Strs (outOf names ch) ys.toArray := h8
    have hlz : (outOf names ch).length ≤ 1000 := Nat.le_trans (List.length_filter_le _ _) (by have := O.nz; (first | lia | omega))
    rw [← lst_listOf] at N5
    k_steps
    rename News _ _ _ _ => N9
    rename Fr _ _ _ _ => F9
    rename D3 < _ ∧ _ => l9
    have F10 := Fr.cast F9 mdu_out
    obtain ⟨q0, q1, q2, q3, q4, q5⟩ := l9
    refine hq _ ys.toArray 0 _ _ _ (fun p hp => ?_) hst9 F10 (news_sub N9 fun p hp => ?_)
    · revert p hp
      refine allP_cons ?_ (allP_cons ?_ (allP_cons ?_ (allP_cons ?_ (fun p hp => ?_))))
      · exact q1
      · exact q2
      · exact q3
      · exact q4
      · exact of_allLt q5 p hp
    · rcases List.mem_cons.mp hp with rfl | hp
      · exact .head _
      · exact .tail _ (.tail _ hp)
end
end
section
section
variable {prog : Program} {w : World} {p : Program} {loose : List Str} {mean : ExcName → Option Value} {mg mb : Str → Option Value} {dp un : Nat} {gd : Option (List Code)} {cn : Str} {cs : Scope} {a : Addr} {ccd : Value} {cl : List (Str × Addr)} {outer : List Env} {A₀ : Around} {base h₀ : Heap} {L : Addr} {m : Str → Option Value} {news rest : List (Addr × Obj)} {s : Shared} {Q E : Value → Shared → Prop}
open PyProof.Rows.LCg
variable {g : Heap} {L' : Nat} {QF : Flow → Shared → Prop} {tups big : List (Addr × Obj)}
theorem neT {A : Around} {la lb : Nat} {va vb : Array Value} {ca cb : Nat} {as bs : List Str} {Q : Value → Shared → Prop} {news : List (Addr × Obj)} (N : News h₀ L s.heap news) (ha : (la, tupO va ca) ∈ news) (hb : (lb, tupO vb cb) ∈ news) (sa : Strs as va) (sb : Strs bs vb) (oa : as.all PyData.strOk = true) (ob : bs.all PyData.strOk = true) (hr : A.units + 64 < cLine)
    {b : Bool} (hb9 : (!decide (as = bs)) = b) (h : Q (.bool b) s) : wpAny (model prog w) A (compareOp .NotEq (.ref la) (.ref lb)) Q E s := by
  subst hb9
  refine ne_dataH (reads_tuple_at (N _ ha).1 rfl rfl (readsAll_strs sa)) (reads_tuple_at (N _ hb).1 rfl rfl (readsAll_strs sb)) (shaped_strs _ oa) (shaped_strs _ ob) hr ?_
  have e : PyData.eqv (.tuple (as.map PyData.str)) (.tuple (bs.map PyData.str)) = decide (as = bs) := by
    simp only [PyData.eqv, eqvAll_strs]
  rw [e]
  exact h
theorem eqSb {A : Around} {la lb : Nat} {va vb : Array Value} {ca cb : Nat} {as bs : List Str} {Q : Value → Shared → Prop} {news : List (Addr × Obj)} (N : News h₀ L s.heap news) (ha : (la, listOf va ca) ∈ news) (hb : (lb, listOf vb cb) ∈ news) (sa : Strs as va) (sb : Strs bs vb) (oa : as.all PyData.strOk = true) (ob : bs.all PyData.strOk = true) (hr : A.units + 64 < cLine)
    {b : Bool} (hb9 : decide (as = bs) = b) (h : Q (.bool b) s) : wpAny (model prog w) A (compareOp .Eq (.ref la) (.ref lb)) Q E s := by
  subst hb9
  exact eqS N ha hb sa sb oa ob hr h
theorem lenT {A : Around} {l : Nat} {vs : Array Value} {c : Nat} {ws : List Str} {Q : Value → Shared → Prop} {news : List (Addr × Obj)} (N : News h₀ L s.heap news) (hm : (l, tupO vs c) ∈ news) (hst : Strs ws vs) (hz : ws.length ≤ 1000)
    (h : ∀ t tk, Q (.int (ws.length : Nat) t) { s with toks := tk }) : wpAny (model prog w) A (call (.builtin "len") [.ref l]) Q E s := by
  refine len_tuple ⟨_, (N _ hm).1, rfl, c, rfl⟩ (by rw [hst.size]; (first | lia | omega)) ?_
  rw [hst.size]
  exact h _ _
theorem pow2 {A : Around} {n m : Nat} {t u : Tok} {Q : Value → Shared → Prop} (hle : m ≤ n) (hn : n ≤ 50) (h : ∀ t' tk, Q (.int ((2 ^ (n - m) : Nat) : Int) t') { s with toks := tk }) : wpAny (model prog w) A (binaryOp .Pow (.int 2 t) (.int ((n : Int) - (m : Int)) u)) Q E s := by
  refine pow_int_small (by first | k_extra "OM" | (first | lia | omega)) (by first | k_extra "OM" | (first | lia | omega)) (by decide) ?_
  have e : ((2 : Int) ^ ((n : Int) - (m : Int)).toNat) = ((2 ^ (n - m) : Nat) : Int) := by
    rw [show ((n : Int) - (m : Int)).toNat = n - m by (first | lia | omega)]
    simp
  rw [e]
  exact h _ _
theorem wd_KQ5_61 : True := by
  k_with "binaryOp Pow int int" => (k_here; k_dflt (refine' pow2 ?zl ?zn ?_; (case zl => assumption); (case zn => assumption)); intro _ _)
  trivial
noncomputable def du3c : List Stmt := match du3 with | _ :: _ :: r => r | _ => []
theorem wd_KQ5_62 : True := by
  k_with "pyIter ref" => ((with_reducible show wpAny _ _ (pyIter (Value.ref _)) (fun it s₂ => CompAt _ _ _ _ _ _ _ _ _ it s₂) _ _); refine mark ?_)
  k_with "eval ListComp" => (k_here; k_dflt (refine comp_go (by with_unfolding_all rfl) (by rfl) (by decide) ?_); k_whole)
  k_with "exec Assign cons ListComp" => (k_here; k_dflt (refine assign_comp (by rfl) (by with_unfolding_all rfl) (by rfl) (by decide) (by rfl) (by rfl) (by k_asm) ?_); k_whole)
  k_with "subscriptTail Name Name ref str" => (k_here; k_dflt (refine kda_item (knd := PySem.strKind _ _) (by k_asm) (by k_mem) (by assumption) (isStr _ _) (by assumption) ?_))
  k_with "compareOp In str ref" => (k_here; k_dflt (refine' inS ?zN ?zm ?zs ?zq ?_; (case zN => k_asm); (case zm => assumption); (case zs => assumption); (case zq => assumption)))
  k_with "compareOp NotEq ref ref" => (k_here; k_dflt (refine' neS ?zN ?za ?zb ?sa ?sb ?oa ?ob ?zr ?zq ?_; (case zN => k_asm); (case za => k_mem); (case zb => k_mem); (case sa => assumption); (case sb => exact .nil); (case oa => assumption); (case ob => rfl); (case zr => ktr_units); (case zq => assumption)))
  k_with "compareOp Eq ref ref" => (k_here; k_dflt (refine' eqSb ?zN ?za ?zb ?sa ?sb ?oa ?ob ?zr ?zq ?_; (case zN => k_asm); (case za => k_mem); (case zb => k_mem); (case sa => assumption); (case sb => exact .cons _ _ .nil); (case oa => assumption); (case ob => assumption); (case zr => ktr_units); (case zq => assumption)))
  k_with "call type:tuple" => (k_here; k_dflt (refine' tupleS ?zst ?zz ?zF ?zN ?zm ?_; (case zst => assumption); (case zz => assumption); (case zF => k_asm); (case zN => k_asm); (case zm => k_mem)); intro _ _ zl9 _ _; (try k_lt zl9))
  k_with "call builtin:list.append" => (k_here; k_dflt (refine' append1K' ?zF ?zN ?zU ?zz ?_; (case zF => k_asm); (case zN => k_asm); (case zU => k_upd); (case zz => assumption)); intro _ _ _)
  k_with "call builtin:len" => (k_here; k_dflt (refine' lenS ?zst ?zz ?zN ?zm ?_; (case zN => k_asm); (case zm => k_mem); (case zst => assumption); (case zz => first | assumption | (first | lia | omega))); intro _ _)
  k_with "call builtin:len" => (k_here; k_dflt (refine' lenT ?zN ?zm ?zst ?zz ?_; (case zN => k_asm); (case zm => first | k_mem | assumption); (case zst => assumption); (case zz => first | assumption | (first | lia | omega))); intro _ _)
  k_with "compareOp NotEq ref ref" => (k_here; k_dflt (refine' neT ?zN ?za ?zb ?sa ?sb ?oa ?ob ?zr ?zq ?_; (case zN => k_asm); (case za => k_mem); (case zb => assumption); (case sa => assumption); (case sb => assumption); (case oa => assumption); (case ob => assumption); (case zr => ktr_units); (case zq => assumption)))
  trivial
noncomputable def nevStep (ch out : List Str) : List (Nat × Nat × List Str) := if out = ch then [] else [(0, 1, ch)]
noncomputable def oftStep (names ch out : List Str) : List (Nat × Nat × List Str) := if out = ch then [] else if (apartOf names ch).length = ch.length then [(2 ^ (out.length - ch.length), 1, out)] else []
theorem OutT.mono {tt tt' tups : List (Addr × Obj)} {out : List (Nat × Nat × List Str)} {ys : List Value} (h : OutT tt tups out ys) (hs : ∀ p ∈ tt, p ∈ tt') : OutT tt' tups out ys :=
  ⟨h.1, fun k a b x hk => by
    obtain ⟨T, ta, tb, u, h1, h2, h3⟩ := h.2 k a b x hk
    exact ⟨T, ta, tb, u, h1, hs _ h2, h3⟩⟩
theorem OutT.push {tt tt' tups : List (Addr × Obj)} {out : List (Nat × Nat × List Str)} {vs : Array Value} (h : OutT tt tups out vs.toList) (hs : ∀ p ∈ tt, p ∈ tt') {a b : Nat} {x : List Str} {T : Nat} {ta tb : Tok} {u : Value} (hm : (T, tupO #[.int (a : Nat) ta, .int (b : Nat) tb, u] 0) ∈ tt') (hu : IsT tups x u) :
    OutT tt' tups (out ++ [(a, b, x)]) (vs.push (.ref T)).toList := by
  have := h.snoc (T := T) (ta := ta) (tb := tb) (a := a) (b := b) hu
  rw [Array.toList_push]
  refine this.mono fun p hp => ?_
  rcases List.mem_cons.mp hp with rfl | hp
  · exact hm
  · exact hs _ hp
theorem mv10 {α : Type} {p a t d o n f b c e : α} {l : List α} (h : p ∈ o :: n :: f :: b :: c :: e :: ([t, a] ++ l)) : p ∈ a :: d :: t :: o :: n :: f :: b :: c :: e :: l := by
  first | (refine sub_use ?_ h; k_extra "SUB") | (simp only [List.mem_cons, List.mem_append, List.cons_append, List.nil_append] at h ⊢; grind)
theorem mv11 {α : Type} {p t d o n f b c e : α} {l : List α} (h : p ∈ o :: n :: f :: b :: c :: e :: ([t] ++ l)) : p ∈ d :: t :: o :: n :: f :: b :: c :: e :: l := by
  first | (refine sub_use ?_ h; k_extra "SUB") | (simp only [List.mem_cons, List.mem_append, List.cons_append, List.nil_append] at h ⊢; grind)
theorem du3c_st {BD T OT NV OF : Nat} {oBD o1 o4 : Obj} {items ov nvv ofv : Array Value} {c9 oc nvc ofc : Nat} {names ch out : List Str} {kvs : List (Str × Value)} {lists : List (Addr × Obj)} {v0 v1 v2 v3 v7 : Option Value}
    (O : NamesOk names) (hB : BelV lists names names kvs) (hlb : ∀ p ∈ lists, p ∈ big) (hdB : oBD.IsDictOf (strKind prog w) kvs) (lo : (BD == sysModules) = false)
    (hT : (T, tupO items c9) ∈ big) (hch : Strs ch items) (hsub : ∀ x ∈ ch, x ∈ names) (hcz : ch.length ≤ 500) (hout : Strs out ov) (hosub : ∀ x ∈ out, x ∈ names) (hoz : out.length ≤ 50) (hle : ch.length ≤ out.length) (hnz : nvv.size ≤ 1000) (hfz : ofv.size ≤ 1000)
    (c1 : o1.data = .cell (some (.ref BD))) (c4 : o4.data = .cell (some (.ref T)))
    (hL : L' + 1 + 1 + 1 + 1 < BD) (hBO : BD < OF) (hON : OF < NV) (hNO : NV < OT) (hbN : ∀ p ∈ big, p.1 ≠ NV ∧ p.1 ≠ OF)
    (Y : Ty 8 w p loose mean mg mb dp un gd cn cs L a ccd cl outer base g)
    (F : Fr g L' s.heap (mdu v0 v1 v2 v3 (some (.ref OF)) (some (.ref NV)) (some (.ref OT)) v7))
    (N : News g L' s.heap ((OT, tupO ov oc) :: (NV, listOf nvv nvc) :: (OF, listOf ofv ofc) :: (BD, oBD) :: (L' + 1 + 1 + 1 + 1, o4) :: (L' + 1, o1) :: big)) {t0 : List (Addr × Obj)} {nevs ofts : List (Nat × Nat × List Str)} (hNV : OutT t0 tups nevs nvv.toList) (hOF : OutT t0 tups ofts ofv.toList) (hchT : IsT tups ch (.ref T)) (houT : IsT tups out (.ref OT))
    (hq : ∀ tt nvv' nvc' ofv' ofc' v7' h' tk' d, OutT (tt ++ t0) tups (nevs ++ nevStep ch out) nvv'.toList → OutT (tt ++ t0) tups (ofts ++ oftStep names ch out) ofv'.toList → (∀ p ∈ tt, OT < p.1) → Fr g L' h' (mdu v0 v1 v2 v3 (some (.ref OF)) (some (.ref NV)) (some (.ref OT)) v7') →
      News g L' h' ((OT, tupO ov oc) :: (NV, listOf nvv' nvc') :: (OF, listOf ofv' ofc') :: (BD, oBD) :: (L' + 1 + 1 + 1 + 1, o4) :: (L' + 1, o1) :: (tt ++ big)) → QF .next { s with heap := h', toks := tk', drawn := d }) :
    wpAny (model prog w) ((ktrTop dp un gd cn cs L a ccd cl outer).deeper (duEnv L')) (execs du3c (duEnv L')) QF (fun _ _ => False) s := by
  obtain ⟨hk, hd0, hun, B, X, T0⟩ := Y
  have hiz : items.size ≤ 1000 := by rw [Strs.size hch]; (first | lia | omega)
  have hchok : ch.all PyData.strOk = true := by rw [List.all_eq_true]; exact fun x hx => (List.all_eq_true.mp O.ok) x (hsub x hx)
  have hook : out.all PyData.strOk = true := by rw [List.all_eq_true]; exact fun x hx => (List.all_eq_true.mp O.ok) x (hosub x hx)
  have hT9 : (T, tupO items c9) ∈ ((OT, tupO ov oc) :: (NV, listOf nvv nvc) :: (OF, listOf ofv ofc) :: (BD, oBD) :: (L' + 1 + 1 + 1 + 1, o4) :: (L' + 1, o1) :: big) := by first | k_extra "MEM" | simp [hT]
  have hbN1 : ∀ p ∈ big, p.1 ≠ NV := fun p hp => (hbN p hp).1
  have hbN2 : ∀ p ∈ big, p.1 ≠ OF := fun p hp => (hbN p hp).2
  cases hne : !decide (out = ch) with
  | false =>
    k_steps
    have heq : out = ch := by simpa using hne
    refine hq [] nvv nvc ofv ofc v7 _ _ _ ?_ ?_ (fun p hp => by cases hp) F N
    · rw [nevStep, if_pos heq, List.append_nil]; exact hNV
    · rw [oftStep, if_pos heq, List.append_nil]; exact hOF
  | true =>
    k_steps
    unfold Marked
    rename News _ _ _ _ => N1
    rename Fr _ _ _ _ => F1
    rename OT < _ ∧ _ => l1
    rename_i TN _ _ _ h1 _
    have hTN : OT < TN := l1.1
    refine comp_tupC (vs := items) (c := c9) (fun i ys nw => StrsAre ys ((ch.take i).filter (apartB names ch)) ∧ nw = ((TN, tupO #[.int 0 s.toks, .int 1 (s.toks + 1), .ref T] 0) :: (OT, tupO ov oc) :: (NV, listOf (nvv.push (.ref TN)) (nvc + 1)) :: (OF, listOf ofv ofc) :: (BD, oBD) :: (L' + 1 + 1 + 1 + 1, o4) :: (L' + 1, o1) :: big)) rfl hiz (by intro _ _; rfl) (by intro _; rfl) rfl (by intro _ _; rfl) F1 N1 (by first | (have hzz := hT; k_extra "MEM") | simp [hT]) ⟨.nil, rfl⟩ ?_ ?_ ?_ ?_
    · rintro i ys nw ⟨h8, rfl⟩
      first | k_extra "MEM" | simp [hT]
    · rintro i ys nw ⟨h8, rfl⟩
      rw [h8.length]
      exact Nat.le_trans (List.length_filter_le _ _) (by rw [List.length_take]; exact Nat.min_le_left _ _)
    · rintro i v ys nw I C KC D oI oC oK m₂ h tk d hi hv ⟨h8, rfl⟩ hC' hK' F4 N4 off hID hDC hCK hlt
      obtain ⟨nm, tn, rfl, hnm⟩ := StrsAre.item hch i v (by rw [Array.getElem?_toList]; exact hv)
      have hnmM : nm ∈ names := hsub nm (List.mem_of_getElem? hnm)
      have hok1 : [nm].all PyData.strOk = true := by simp [(List.all_eq_true.mp O.ok) nm hnmM]
      have tk1 : (ch.take (i + 1)).filter (apartB names ch) = (ch.take i).filter (apartB names ch) ++ if apartB names ch nm then [nm] else [] := by
        rw [List.take_add_one, hnm, List.filter_append]
        cases hq9 : apartB names ch nm <;> simp [hq9]
      refine cend_gen fun Q1 Q2 hy hn => ?_
      k_steps
      unfold Marked
      refine comp_tupT (vs := items) (c := c9) (fun j zs nw => StrsAre zs ((ch.take j).filter (hitB names nm)) ∧ nw = ((I, oI) :: (C, oC) :: (KC, oK) :: (D, lst ys) :: ((TN, tupO #[.int 0 s.toks, .int 1 (s.toks + 1), .ref T] 0) :: (OT, tupO ov oc) :: (NV, listOf (nvv.push (.ref TN)) (nvc + 1)) :: (OF, listOf ofv ofc) :: (BD, oBD) :: (L' + 1 + 1 + 1 + 1, o4) :: (L' + 1, o1) :: big))) rfl hiz (by decide) rfl rfl F4 N4 (by first | (have hzz := hT; k_extra "MEM") | simp [hT]) ⟨.nil, rfl⟩ ?_ ?_ ?_ ?_
      · rintro j zs nw ⟨h9, rfl⟩
        first | k_extra "MEM" | simp [hT]
      · rintro j zs nw ⟨h9, rfl⟩
        rw [h9.length]
        exact Nat.le_trans (List.length_filter_le _ _) (by rw [List.length_take]; exact Nat.min_le_left _ _)
      · rintro j v zs nw I2 C2 D2 oI2 oC2 m₃ h2 tk2 d2 hj hv2 ⟨h9, rfl⟩ hC2 hx2 F5 N5 off2 hID2 hDC2 hlt2
        obtain ⟨hd, th, rfl, hhd⟩ := StrsAre.item hch j v (by rw [Array.getElem?_toList]; exact hv2)
        have hhM : hd ∈ names := hsub hd (List.mem_of_getElem? hhd)
        obtain ⟨BL, bv, bc, hval, hmB, hstB⟩ := hB.item O.nd hhM
        have hmB9 : (BL, listOf bv bc) ∈ ((I2, oI2) :: (C2, oC2) :: (D2, lst zs) :: (I, oI) :: (C, oC) :: (KC, oK) :: (D, lst ys) :: ((TN, tupO #[.int 0 s.toks, .int 1 (s.toks + 1), .ref T] 0) :: (OT, tupO ov oc) :: (NV, listOf (nvv.push (.ref TN)) (nvc + 1)) :: (OF, listOf ofv ofc) :: (BD, oBD) :: (L' + 1 + 1 + 1 + 1, o4) :: (L' + 1, o1) :: big)) := by first | (have hzz := hlb _ hmB; k_extra "MEM") | simp [hlb _ hmB]
        have tk2 : (ch.take (j + 1)).filter (hitB names nm) = (ch.take j).filter (hitB names nm) ++ if hitB names nm hd then [hd] else [] := by
          rw [List.take_add_one, hhd, List.filter_append]
          cases hq9 : hitB names nm hd <;> simp [hq9]
        refine cend_gen fun Q3 Q4 hy3 hn3 => ?_
        cases hb9 : decide (nm ∈ names.filter (belowB hd)) with
        | true =>
          k_steps
          exact hy3 _ _ _ _ _ F5 N5 (CEnd_off off2) ⟨by rw [tk2, show hitB names nm hd = true from hb9]; exact strs_snoc h9, rfl⟩
        | false =>
          k_steps
          exact hn3 _ _ _ _ F5 N5 (CEnd_off off2) ⟨by rw [tk2, show hitB names nm hd = false from hb9]; simpa using h9, rfl⟩
      · rintro D3 h3 tk3 d3 nw zs F5 N5 off3 hlt3 ⟨h9, rfl⟩
        have e9 : ch.take items.size = ch := by rw [Strs.size hch]; exact List.take_length
        rw [e9] at h9
        have hst9 : Strs (hit names ch nm) zs.toArray := h9
        have hok9 : (hit names ch nm).all PyData.strOk = true := all_filter hchok
        rw [← lst_listOf] at N5
        cases hb9 : decide (hit names ch nm = [nm]) with
        | true =>
          k_steps
          rename News _ _ _ _ => N9
          rename Fr _ _ _ _ => F9
          refine hy _ _ _ _ _ F9 (news_sub N9 fun p hp => ?_) (CEnd_off4 off) ⟨by rw [tk1, show apartB names ch nm = true from hb9]; exact strs_snoc h8, rfl⟩
          simp only [List.cons_append, List.nil_append] at hp
          exact .tail _ (.tail _ hp)
        | false =>
          k_steps
          rename News _ _ _ _ => N9
          rename Fr _ _ _ _ => F9
          refine hn _ _ _ _ F9 (news_sub N9 fun p hp => ?_) (CEnd_off4 off) ⟨by rw [tk1, show apartB names ch nm = false from hb9]; simpa using h8, rfl⟩
          simp only [List.cons_append, List.nil_append] at hp
          exact .tail _ (.tail _ hp)
    · rintro D3 h3 tk3 d3 nw ys F5 N5 off3 hlt3 ⟨h8, rfl⟩
      have e9 : ch.take items.size = ch := by rw [Strs.size hch]; exact List.take_length
      rw [e9] at h8
      have hst9 : Strs (apartOf names ch) ys.toArray := h8
      have hlz : (apartOf names ch).length ≤ 1000 := Nat.le_trans (List.length_filter_le _ _) (by first | k_extra "OM" | (first | lia | omega))
      have hD3 : TN < D3 := hlt3 (TN, _) (.head _)
      have hD3F : OF < D3 := hlt3 (OF, listOf ofv ofc) (by first | k_extra "MEM" | simp)
      have hTNF : OF < TN := l1.2.2.1
      rw [← lst_listOf] at N5
      refine ⟨_, F5, N5, fun h5 tk5 F6 N6 => ?_⟩
      have F7 : Fr g L' h5 _ := Fr.cast F6 mdu_apart
      clear F6
      try dsimp only
      have hTm : (T, tupO items c9) ∈ ((D3, listOf ys.toArray ys.length) :: (TN, tupO #[.int 0 s.toks, .int 1 (s.toks + 1), .ref T] 0) :: (OT, tupO ov oc) :: (NV, listOf (nvv.push (.ref TN)) (nvc + 1)) :: (OF, listOf ofv ofc) :: (BD, oBD) :: (L' + 1 + 1 + 1 + 1, o4) :: (L' + 1, o1) :: big) := by first | k_extra "MEM" | simp [hT]
      have heq : ¬ out = ch := by simpa using hne
      k_steps
      · rename News _ _ _ _ => N9
        rename Fr _ _ _ _ => F9
        rename (_ : Int) = _ => hap
        rename D3 < _ ∧ _ => l9
        have hap' : (apartOf names ch).length = ch.length := by (first | lia | omega)
        rename_i t9 tk9 DO _ _ _ hh9
        refine hq [(TN, tupO #[.int 0 s.toks, .int 1 (s.toks + 1), .ref T] 0), (DO, tupO #[.int ((2 ^ (out.length - ch.length) : Nat) : Int) t9, .int 1 tk9, .ref OT] 0)] (nvv.push (.ref TN)) (nvc + 1) (ofv.push (.ref DO)) (ofc + 1) _ _ _ _ ?_ ?_ (fun p hp => ?_) F9 (news_sub N9 fun p hp => ?_)
        · rw [nevStep, if_neg heq]
          exact hNV.push (fun p hp => List.mem_append_right _ hp) (a := 0) (b := 1) (.head _) hchT
        · rw [oftStep, if_neg heq, if_pos hap']
          exact hOF.push (fun p hp => List.mem_append_right _ hp) (.tail _ (.head _)) houT
        · revert p hp
          refine allP_cons ?_ (allP_cons ?_ allP_nil)
          · exact hTN
          · exact l9.2.2.1
        · exact mv10 hp
      · rename ¬ (_ : Int) = _ => hap
        have hap' : ¬ (apartOf names ch).length = ch.length := by (first | lia | omega)
        refine hq [(TN, tupO #[.int 0 s.toks, .int 1 (s.toks + 1), .ref T] 0)] (nvv.push (.ref TN)) (nvc + 1) ofv ofc _ _ _ _ ?_ ?_ (fun p hp => ?_) F7 (news_sub N6 fun p hp => ?_)
        · rw [nevStep, if_neg heq]
          exact hNV.push (fun p hp => List.mem_append_right _ hp) (a := 0) (b := 1) (.head _) hchT
        · rw [oftStep, if_neg heq, if_neg hap', List.append_nil]
          exact hOF.mono fun p hp => List.mem_append_right _ hp
        · rw [List.mem_singleton.mp hp]
          exact hTN
        · exact mv11 hp
end
end
section
set_option tactic.hygienic false
section
variable {prog : Program} {w : World} {p : Program} {loose : List Str} {mean : ExcName → Option Value} {mg mb : Str → Option Value} {dp un : Nat} {gd : Option (List Code)} {cn : Str} {cs : Scope} {a : Addr} {ccd : Value} {cl : List (Str × Addr)} {outer : List Env} {A₀ : Around} {base h₀ : Heap} {L : Addr} {m : Str → Option Value} {news rest : List (Addr × Obj)} {s : Shared} {Q E : Value → Shared → Prop}
open PyProof.Rows.LCg
variable {g : Heap} {L' : Nat} {QF : Flow → Shared → Prop} {tups big : List (Addr × Obj)}
theorem wd_KQ6_63 : True := by
  k_with "call builtin:list.append" => (k_here; k_dflt (refine' append1K' ?zF ?zN ?zU ?zz ?_; (case zF => k_asm); (case zN => k_asm); (case zU => k_upd); (case zz => assumption)); intro _ _ _)
  trivial
noncomputable def du3b : List Stmt := match du3 with | _ :: b :: _ => [b] | _ => []
theorem du3_is : du3 = du3a ++ (du3b ++ du3c) := by rfl
theorem du3b_st {LE OT : Nat} {ov lev : Array Value} {oc lec : Nat} {v0 v1 v2 v4 v5 v7 : Option Value} (hlz : lev.size ≤ 1000) (hLO : LE < OT) (hbL : ∀ p ∈ big, p.1 ≠ LE)
    (Y : Ty 8 w p loose mean mg mb dp un gd cn cs L a ccd cl outer base g)
    (F : Fr g L' s.heap (mdu v0 v1 v2 (some (.ref LE)) v4 v5 (some (.ref OT)) v7))
    (N : News g L' s.heap ((OT, tupO ov oc) :: (LE, listOf lev lec) :: big))
    (hq : ∀ h' tk', Fr g L' h' (mdu v0 v1 v2 (some (.ref LE)) v4 v5 (some (.ref OT)) v7) → News g L' h' ((OT, tupO ov oc) :: (LE, listOf (lev.push (.ref OT)) (lec + 1)) :: big) → QF .next { s with heap := h', toks := tk' }) :
    wpAny (model prog w) ((ktrTop dp un gd cn cs L a ccd cl outer).deeper (duEnv L')) (execs du3b (duEnv L')) QF (fun _ _ => False) s := by
  obtain ⟨hk, hd0, hun, B, X, T0⟩ := Y
  k_steps
  rename News _ _ _ _ => N1
  rename Fr _ _ _ _ => F1
  exact hq _ _ F1 N1
theorem OutT.tmono {tt tups tups' : List (Addr × Obj)} {out : List (Nat × Nat × List Str)} {ys : List Value} (h : OutT tt tups out ys) (hs : ∀ p ∈ tups, p ∈ tups') : OutT tt tups' out ys :=
  ⟨h.1, fun k a b x hk => by
    obtain ⟨T, ta, tb, u, h1, h2, h3⟩ := h.2 k a b x hk
    exact ⟨T, ta, tb, u, h1, h2, h3.mono hs⟩⟩
theorem out_le {names ch : List Str} (hs : ch.Sublist names) : ch.length ≤ (outOf names ch).length := by
  have h1 : ch.filter (outB names ch) = ch := by
    rw [List.filter_eq_self]
    intro a ha
    have : a ∈ hit names ch a := List.mem_filter.mpr ⟨ha, by
      have : a ∈ names.filter (belowB a) := List.mem_filter.mpr ⟨hs.subset ha, by simp [belowB]⟩
      simpa [hitB] using this⟩
    have h2 : hit names ch a ≠ [] := fun e => by rw [e] at this; cases this
    simp [outB, h2]
  have h3 := (hs.filter (outB names ch)).length_le
  rw [h1] at h3
  exact h3
theorem mva {α : Type} {p v o l b c d e : α} {r : List α} (h : p ∈ b :: c :: d :: e :: v :: o :: l :: r) : p ∈ v :: o :: l :: b :: c :: d :: e :: r := by
  first | (refine sub_use ?_ h; k_extra "SUB") | (simp only [List.mem_cons, List.mem_append, List.cons_append, List.nil_append] at h ⊢; grind)
theorem mvb {α : Type} {p t v o l b c d e : α} {r : List α} (h : p ∈ t :: l :: b :: c :: d :: e :: v :: o :: r) : p ∈ t :: b :: c :: d :: e :: v :: o :: l :: r := by
  first | (refine sub_use ?_ h; k_extra "SUB") | (simp only [List.mem_cons, List.mem_append, List.cons_append, List.nil_append] at h ⊢; grind)
theorem mvc {α : Type} {p t v o l b c d e : α} {r : List α} (h : p ∈ t :: v :: o :: b :: c :: d :: l :: e :: r) : p ∈ t :: l :: b :: c :: d :: e :: v :: o :: r := by
  first | (refine sub_use ?_ h; k_extra "SUB") | (simp only [List.mem_cons, List.mem_append, List.cons_append, List.nil_append] at h ⊢; grind)
theorem mvd {α : Type} {p t v o l b c d e : α} {q r : List α} (h : p ∈ v :: o :: l :: b :: c :: d :: e :: (q ++ t :: r)) : p ∈ t :: v :: o :: b :: c :: d :: (q ++ l :: e :: r) := by
  first | (refine sub_use ?_ h; k_extra "SUB") | (simp only [List.mem_cons, List.mem_append, List.cons_append, List.nil_append] at h ⊢; grind)
theorem du3_turn {NL BD T OF NV LE : Nat} {oBD o1 o4 : Obj} {nv items nvv ofv lev : Array Value} {nc c9 nvc ofc lec : Nat} {names ch : List Str} {kvs : List (Str × Value)} {lists : List (Addr × Obj)} {v1 v2 v6 v7 : Option Value}
    (hn : Strs names nv) (O : NamesOk names) (hB : BelV lists names names kvs) (hlb : ∀ p ∈ lists, p ∈ big) (hdB : oBD.IsDictOf (strKind prog w) kvs) (lo : (BD == sysModules) = false)
    (hT : (T, tupO items c9) ∈ big) (hch : Strs ch items) (hsub : ch.Sublist names) (hlz : lev.size ≤ 1000) (hnz : nvv.size ≤ 1000) (hfz : ofv.size ≤ 1000)
    (c1 : o1.data = .cell (some (.ref BD))) (c4 : o4.data = .cell (some (.ref T)))
    (hL : L' + 1 + 1 + 1 + 1 < BD) (hBL : BD < LE) (hLO : LE < OF) (hON : OF < NV) (hNL : NL < L') (hbN : ∀ p ∈ big, p.1 ≠ NV ∧ p.1 ≠ OF ∧ p.1 ≠ LE)
    (Y : Ty 8 w p loose mean mg mb dp un gd cn cs L a ccd cl outer base g)
    (F : Fr g L' s.heap (mdu (some (.ref NL)) v1 v2 (some (.ref LE)) (some (.ref OF)) (some (.ref NV)) v6 v7))
    (N : News g L' s.heap ((NV, listOf nvv nvc) :: (OF, listOf ofv ofc) :: (LE, listOf lev lec) :: (BD, oBD) :: (L' + 1 + 1 + 1 + 1, o4) :: (L' + 1, o1) :: (NL, listOf nv nc) :: big)) {t0 : List (Addr × Obj)} {nevs ofts : List (Nat × Nat × List Str)} (hNV : OutT t0 tups nevs nvv.toList) (hOF : OutT t0 tups ofts ofv.toList) (hchT : IsT tups ch (.ref T))
    (hq : ∀ (OT : Nat) ov oc tt nvv' nvc' ofv' ofc' lec' v7' h' tk' d, Strs (outOf names ch) ov → (outOf names ch).all PyData.strOk = true → OutT (tt ++ t0) ((OT, tupO ov oc) :: tups) (nevs ++ nevStep ch (outOf names ch)) nvv'.toList → OutT (tt ++ t0) ((OT, tupO ov oc) :: tups) (ofts ++ oftStep names ch (outOf names ch)) ofv'.toList →
      (∀ p ∈ tt, OT < p.1) → NV < OT → (∀ p ∈ big, p.1 < OT) → Fr g L' h' (mdu (some (.ref NL)) v1 v2 (some (.ref LE)) (some (.ref OF)) (some (.ref NV)) (some (.ref OT)) v7') →
      News g L' h' ((NV, listOf nvv' nvc') :: (OF, listOf ofv' ofc') :: (LE, listOf (lev.push (.ref OT)) lec') :: (BD, oBD) :: (L' + 1 + 1 + 1 + 1, o4) :: (L' + 1, o1) :: (NL, listOf nv nc) :: (tt ++ (OT, tupO ov oc) :: big)) → QF .next { s with heap := h', toks := tk', drawn := d }) :
    wpAny (model prog w) ((ktrTop dp un gd cn cs L a ccd cl outer).deeper (duEnv L')) (execs du3 (duEnv L')) QF (fun _ _ => False) s := by
  have hnz9 := O.nz
  have hcz : ch.length ≤ 500 := by have := hsub.length_le; (first | lia | omega)
  have hz9 : (outOf names ch).length ≤ 50 := Nat.le_trans (List.length_filter_le _ _) hnz9
  have hosub : ∀ x ∈ outOf names ch, x ∈ names := fun x hx => (List.mem_filter.mp hx).1
  have hook : (outOf names ch).all PyData.strOk = true := all_filter O.ok
  rw [du3_is]
  refine execs_app _ _ ?_
  refine du3a_st (big := (NV, listOf nvv nvc) :: (OF, listOf ofv ofc) :: (LE, listOf lev lec) :: big) hn O hB (fun p hp => .tail _ (.tail _ (.tail _ (hlb p hp)))) hdB lo (.tail _ (.tail _ (.tail _ hT))) hch (fun x hx => hsub.subset hx) hcz c1 c4 Y F (news_sub N fun p hp => mva hp) fun OT ov oc h2 tk2 d2 hOT hov F2 N2 => ?_
  have hNO : NV < OT := hOT (NV, listOf nvv nvc) (by first | k_extra "MEM" | simp)
  have hLO9 : LE < OT := hOT (LE, listOf lev lec) (by first | k_extra "MEM" | simp)
  have hbO : ∀ p ∈ big, p.1 < OT := fun p hp => hOT p (by first | (have hzz := hp; k_extra "MEM") | simp [hp])
  refine execs_app _ _ ?_
  refine du3b_st (big := (BD, oBD) :: (L' + 1 + 1 + 1 + 1, o4) :: (L' + 1, o1) :: (NL, listOf nv nc) :: (NV, listOf nvv nvc) :: (OF, listOf ofv ofc) :: big) hlz hLO9 (fun p hp => ?_) Y F2 (news_sub N2 fun p hp => mvb hp) fun h3 tk3 F3 N3 => ?_
  · revert p hp
    refine allP_cons ?_ (allP_cons ?_ (allP_cons ?_ (allP_cons ?_ (allP_cons ?_ (allP_cons ?_ (fun p hp => ?_))))))
    · exact Nat.ne_of_lt hBL
    · exact Nat.ne_of_lt (Nat.lt_trans hL hBL)
    · exact Nat.ne_of_lt (by first | k_extra "OM" | (first | lia | omega))
    · exact Nat.ne_of_lt (by first | k_extra "OM" | (first | lia | omega))
    · exact Nat.ne_of_gt (by first | k_extra "OM" | (first | lia | omega))
    · exact Nat.ne_of_gt (by first | k_extra "OM" | (first | lia | omega))
    · exact (hbN p hp).2.2
  · have hIT : IsT ((OT, tupO ov oc) :: tups) (outOf names ch) (.ref OT) := ⟨OT, ov, oc, rfl, .head _, hov, hook⟩
    refine du3c_st (big := (LE, listOf (lev.push (.ref OT)) (lec + 1)) :: (NL, listOf nv nc) :: big) (tups := (OT, tupO ov oc) :: tups) O hB (fun p hp => .tail _ (.tail _ (hlb p hp))) hdB lo (.tail _ (.tail _ hT)) hch (fun x hx => hsub.subset hx) hcz hov hosub hz9 (out_le hsub) hnz hfz c1 c4 hL (Nat.lt_trans hBL hLO) hON hNO (fun p hp => ?_) Y F3 (news_sub N3 fun p hp => mvc hp)
      (hNV.tmono fun p hp => .tail _ hp) (hOF.tmono fun p hp => .tail _ hp) (hchT.mono fun p hp => .tail _ hp) hIT fun tt nvv' nvc' ofv' ofc' v7' h4 tk4 d4 hn4 ho4 ht4 F4 N4 => ?_
    · revert p hp
      refine allP_cons ?_ (allP_cons ?_ (fun p hp => ?_))
      · exact ⟨Nat.ne_of_lt (Nat.lt_trans hLO hON), Nat.ne_of_lt hLO⟩
      · exact ⟨Nat.ne_of_lt (by first | k_extra "OM" | (first | lia | omega)), Nat.ne_of_lt (by first | k_extra "OM" | (first | lia | omega))⟩
      · exact ⟨(hbN p hp).1, (hbN p hp).2.1⟩
    · exact hq OT ov oc tt nvv' nvc' ofv' ofc' _ v7' h4 tk4 d4 hov hook hn4 ho4 ht4 hNO hbO F4 (news_sub N4 fun p hp => mvd hp)
end
end
section
set_option tactic.hygienic false
section
variable {prog : Program} {w : World} {p : Program} {loose : List Str} {mean : ExcName → Option Value} {mg mb : Str → Option Value} {dp un : Nat} {gd : Option (List Code)} {cn : Str} {cs : Scope} {a : Addr} {ccd : Value} {cl : List (Str × Addr)} {outer : List Env} {A₀ : Around} {base h₀ : Heap} {L : Addr} {m : Str → Option Value} {news rest : List (Addr × Obj)} {s : Shared} {Q E : Value → Shared → Prop}
open PyProof.Rows.LCg
variable {g : Heap} {L' : Nat} {QF : Flow → Shared → Prop} {tups big : List (Addr × Obj)}
theorem wd_KQ7_64 : True := by
  k_with "exec For Name Name cons nil" => (k_here; (with_unfolding_all refine' For_enum ?_; k_whole))
  k_with "pyIter ref" => ((with_reducible show wpAny _ _ (pyIter (Value.ref _)) (fun it s₂ => EnumAt _ _ _ _ _ _ _ _ it s₂) _ _); refine mark ?_)
  trivial
noncomputable def duL3 : List Stmt := match duB with | _ :: _ :: _ :: _ :: _ :: _ :: _ :: c :: _ => [c] | _ => []
theorem choices_sub0 : ∀ (r pre : List Str) (As : List (List Str)), (∀ x ∈ As, x.Sublist pre) → ∀ x ∈ r.foldl chAdd As, x.Sublist (pre ++ r)
  | [], pre, As, h, x, hx => by rw [List.append_nil]; exact h x hx
  | a :: r, pre, As, h, x, hx => by
    rw [show pre ++ a :: r = (pre ++ [a]) ++ r by simp]
    refine choices_sub0 r (pre ++ [a]) (chAdd As a) (fun y hy => ?_) x hx
    rcases List.mem_append.mp hy with q | q
    · exact (h y q).trans (List.sublist_append_left _ _)
    · obtain ⟨z, hz, rfl⟩ := List.mem_map.mp q
      exact (h z hz).append (List.Sublist.refl _)
theorem choices_sub (names : List Str) : ∀ x ∈ choicesOf names, x.Sublist names := fun x hx => by
  have := choices_sub0 names [] [[]] (fun y hy => by simp at hy; simp [hy]) x hx
  simpa using this
noncomputable def nevOf (names : List Str) (As : List (List Str)) : List (Nat × Nat × List Str) := As.flatMap fun c => nevStep c (outOf names c)
noncomputable def oftOf (names : List Str) (As : List (List Str)) : List (Nat × Nat × List Str) := As.flatMap fun c => oftStep names c (outOf names c)
theorem flat_le {α β : Type} (f : α → List β) (hf : ∀ x, (f x).length ≤ 1) : ∀ l : List α, (l.flatMap f).length ≤ l.length
  | [] => by simp
  | a :: l => by
    have := flat_le f hf l
    have := hf a
    rw [List.flatMap_cons, List.length_append, List.length_cons]
    first | k_extra "OM" | (first | lia | omega)
theorem nev_le (names : List Str) (As : List (List Str)) : (nevOf names As).length ≤ As.length := flat_le _ (fun x => by unfold nevStep; split <;> simp) As
theorem oft_le (names : List Str) (As : List (List Str)) : (oftOf names As).length ≤ As.length := flat_le _ (fun x => by unfold oftStep; split <;> (try split) <;> simp) As
theorem take_flat {α β : Type} (f : α → List β) {l : List α} {i : Nat} {x : α} (h : l[i]? = some x) : (l.take (i + 1)).flatMap f = (l.take i).flatMap f ++ f x := by
  rw [List.take_add_one, h, List.flatMap_append]
  simp
theorem mve {α : Type} {p v o l b c d e i t z : α} {q outs r : List α} (h : p ∈ v :: o :: l :: b :: c :: d :: e :: (q ++ t :: (i :: z :: (outs ++ r)))) : p ∈ i :: v :: o :: l :: c :: z :: b :: d :: e :: (q ++ (t :: outs ++ r)) := by
  first | (refine sub_use ?_ h; k_extra "SUB") | (simp only [List.mem_cons, List.mem_append, List.cons_append, List.nil_append] at h ⊢; grind)
theorem mvf {α : Type} {p i v o l c z b d e : α} {r : List α} (h : p ∈ v :: o :: l :: b :: c :: d :: e :: i :: z :: r) : p ∈ i :: v :: o :: l :: c :: z :: b :: d :: e :: r := by
  first | (refine sub_use ?_ h; k_extra "SUB") | (simp only [List.mem_cons, List.mem_append, List.cons_append, List.nil_append] at h ⊢; grind)
theorem ListT.tmono {tt tt' : List (Addr × Obj)} {As : List (List Str)} {va : Array Value} (h : ListT tt As va) (hs : ∀ p ∈ tt, p ∈ tt') : ListT tt' As va :=
  ⟨h.1, fun k x hk => by
    obtain ⟨v, hv, hi⟩ := h.2 k x hk
    exact ⟨v, hv, hi.mono hs⟩⟩
inductive JD3 (g : Heap) (names : List Str) (tt2 big : List (Addr × Obj)) (NL CL LE OF NV BD L' nc cc : Nat) (v1 : Option Value) (nv cv : Array Value) (oBD o1 : Obj) (i : Nat) : Heap → (Str → Option Value) → List (Addr × Obj) → Prop
  | mk (nvv : Array Value) (nvc : Nat) (ofv : Array Value) (ofc : Nat) (lev : Array Value) (lec : Nat) (tt outs : List (Addr × Obj)) (o4' : Obj) (cv4' v6' v7' : Option Value) (c4' : o4'.data = .cell cv4') (hA : ListT outs (((choicesOf names).take i).map (outOf names)) lev) (hn : OutT tt (outs ++ tt2) (nevOf names ((choicesOf names).take i)) nvv.toList) (ho : OutT tt (outs ++ tt2) (oftOf names ((choicesOf names).take i)) ofv.toList) (ht : ∀ p ∈ tt, NV < p.1) (hu : ∀ p ∈ outs, NV < p.1) :
    JD3 g names tt2 big NL CL LE OF NV BD L' nc cc v1 nv cv oBD o1 i g (mdu (some (.ref NL)) v1 (some (.ref CL)) (some (.ref LE)) (some (.ref OF)) (some (.ref NV)) v6' v7') ((NV, listOf nvv nvc) :: (OF, listOf ofv ofc) :: (LE, listOf lev lec) :: (L' + 1 + 1 + 1 + 1, o4') :: (CL, listOf cv cc) :: (BD, oBD) :: (L' + 1, o1) :: (NL, listOf nv nc) :: (tt ++ (outs ++ big)))
theorem du3_loop {NL BD CL OF NV LE : Nat} {oBD o1 o4 : Obj} {nv cv : Array Value} {nc cc : Nat} {names : List Str} {kvs : List (Str × Value)} {lists tt2 : List (Addr × Obj)} {v1 : Option Value} {cv4 : Option Value}
    (hn : Strs names nv) (O : NamesOk names) (hnz : names.length ≤ 6) (hB : BelV lists names names kvs) (hlb : ∀ p ∈ lists, p ∈ big) (htb : ∀ p ∈ tt2, p ∈ big) (hdB : oBD.IsDictOf (strKind prog w) kvs) (lo : (BD == sysModules) = false)
    (hA : ListT tt2 (choicesOf names) cv) (c1 : o1.data = .cell (some (.ref BD))) (c4 : o4.data = .cell cv4)
    (hL : L' + 1 + 1 + 1 + 1 < BD) (hBL : BD < LE) (hLO : LE < OF) (hON : OF < NV) (hNL : NL < L') (hCL : CL < LE) (hC4 : L' + 1 + 1 + 1 + 1 < CL) (hbL : ∀ p ∈ big, p.1 < LE ∧ p.1 ≠ L' + 1 + 1 + 1 + 1)
    (Y : Ty 8 w p loose mean mg mb dp un gd cn cs L a ccd cl outer base g)
    (F : Fr g L' s.heap (mdu (some (.ref NL)) v1 (some (.ref CL)) (some (.ref LE)) (some (.ref OF)) (some (.ref NV)) none none))
    (N : News g L' s.heap ((NV, listOf #[] 0) :: (OF, listOf #[] 0) :: (LE, listOf #[] 0) :: (L' + 1 + 1 + 1 + 1, o4) :: (CL, listOf cv cc) :: (BD, oBD) :: (L' + 1, o1) :: (NL, listOf nv nc) :: big))
    (hq : ∀ nvv nvc ofv ofc lev lec tt outs o4' v6' v7' h' tk' d, ListT outs ((choicesOf names).map (outOf names)) lev → OutT tt (outs ++ tt2) (nevOf names (choicesOf names)) nvv.toList → OutT tt (outs ++ tt2) (oftOf names (choicesOf names)) ofv.toList →
      Fr g L' h' (mdu (some (.ref NL)) v1 (some (.ref CL)) (some (.ref LE)) (some (.ref OF)) (some (.ref NV)) v6' v7') →
      News g L' h' ((NV, listOf nvv nvc) :: (OF, listOf ofv ofc) :: (LE, listOf lev lec) :: (L' + 1 + 1 + 1 + 1, o4') :: (CL, listOf cv cc) :: (BD, oBD) :: (L' + 1, o1) :: (NL, listOf nv nc) :: (tt ++ (outs ++ big))) → QF .next { s with heap := h', toks := tk', drawn := d }) :
    wpAny (model prog w) ((ktrTop dp un gd cn cs L a ccd cl outer).deeper (duEnv L')) (execs duL3 (duEnv L')) QF (fun _ _ => False) s := by
  have Y' := Y
  obtain ⟨hk, hd0, hun, B, X, T0⟩ := Y
  have hlen : (choicesOf names).length ≤ 64 := by
    have := choices_len names [[]]
    show (List.foldl chAdd [[]] names).length ≤ 64
    rw [this]
    have : 2 ^ names.length ≤ 2 ^ 6 := Nat.pow_le_pow_right (by first | k_extra "OM" | (first | lia | omega)) hnz
    simp only [List.length_cons, List.length_nil]
    first | k_extra "OM" | (first | lia | omega)
  k_steps
  unfold Marked
  refine listt_inv (h₀ := g) (fun i g₁ m₁ news₁ => JD3 g names tt2 big NL CL LE OF NV BD L' nc cc v1 nv cv oBD o1 i g₁ m₁ news₁)
    rfl F N (by k_mem) ?_ ?_ (fun _ _ h => h.elim) _ (by intro _ _; rfl) ?_ ?_
  · exact .mk #[] 0 #[] 0 #[] 0 [] [] o4 cv4 none none c4 .nil' .nil .nil (fun p hp => by cases hp) (fun p hp => by cases hp)
  · rintro i g₁ m₁ news₁ ⟨nvv, nvc, ofv, ofc, lev, lec, tt, outs, o4', cv4', v6', v7', c4', hA', hn', ho', ht', hu'⟩
    k_mem
  · rintro i v g₁ m₁ news₁ h tk d I io hv ⟨nvv, nvc, ofv, ofc, lev, lec, tt, outs, o4', cv4', v6', v7', c4', hA', hn', ho', ht', hu'⟩ hni hlI F4 N4
    have hil : i < (choicesOf names).length := by
      have := (Array.getElem?_eq_some_iff.mp hv).1
      rw [hA.1] at this
      exact this
    obtain ⟨ch, hch0⟩ : ∃ x, (choicesOf names)[i]? = some x := ⟨_, List.getElem?_eq_getElem hil⟩
    obtain ⟨u, hu, T, items, c9, rfl, hTm, hst, hok9⟩ := hA.2 i ch hch0
    rw [hv] at hu
    obtain rfl := Option.some.inj hu
    have hsub : ch.Sublist names := choices_sub names ch (List.mem_of_getElem? hch0)
    have hNI : NV < I := hlI (NV, listOf #[] 0) (by first | k_extra "MEM" | simp)
    have hb1 : ∀ p ∈ tt ++ (outs ++ big), p.1 ≠ L' + 1 + 1 + 1 + 1 := fun p hp => by
      rcases List.mem_append.mp hp with q | q
      · exact Nat.ne_of_gt (by have := ht' p q; (first | lia | omega))
      · rcases List.mem_append.mp q with q | q
        · exact Nat.ne_of_gt (by have := hu' p q; (first | lia | omega))
        · exact (hbL p q).2
    show wpAny _ _ (assign _ (duEnv L') _) (fun _ s₂ => wpAny _ _ (execs du3 (duEnv L')) _ _ s₂) _ _
    refine wpAny_mono (Q := fun _ s₂ => Marked (∃ h2 tk2 o4'', s₂ = { s with heap := h2, toks := tk2, drawn := d } ∧ o4''.data = .cell (some (.ref T)) ∧ Fr g L' h2 (mdu (some (.ref NL)) v1 (some (.ref CL)) (some (.ref LE)) (some (.ref OF)) (some (.ref NV)) v6' v7') ∧
      News g L' h2 ((I, io) :: (NV, listOf nvv nvc) :: (OF, listOf ofv ofc) :: (LE, listOf lev lec) :: (L' + 1 + 1 + 1 + 1, o4'') :: (CL, listOf cv cc) :: (BD, oBD) :: (L' + 1, o1) :: (NL, listOf nv nc) :: (tt ++ (outs ++ big))))) ?_ (fun _ s₂ hh => ?_) (fun _ _ h => h)
    · k_steps
      rename News _ _ _ _ => N5
      rename Fr _ _ _ _ => F5
      exact ⟨_, _, _, rfl, by first | assumption | rfl, F5, N5⟩
    · obtain ⟨h2, tk2, o4'', rfl, c4'', F5, N5⟩ := hh
      have hzn : nvv.size ≤ 1000 := by
        have e1 := hn'.1
        have e2 := nev_le names ((choicesOf names).take i)
        rw [Array.length_toList] at e1
        rw [List.length_take] at e2
        first | k_extra "OM" | (first | lia | omega)
      have hzo : ofv.size ≤ 1000 := by
        have e1 := ho'.1
        have e2 := oft_le names ((choicesOf names).take i)
        rw [Array.length_toList] at e1
        rw [List.length_take] at e2
        first | k_extra "OM" | (first | lia | omega)
      have hzl : lev.size ≤ 1000 := by
        have e1 := hA'.1
        rw [List.length_map, List.length_take] at e1
        first | k_extra "OM" | (first | lia | omega)
      refine du3_turn (tups := outs ++ tt2) (big := (I, io) :: (CL, listOf cv cc) :: (tt ++ (outs ++ big))) (t0 := tt) hn O hB (fun p hp => .tail _ (.tail _ (List.mem_append_right _ (List.mem_append_right _ (hlb p hp))))) hdB lo (.tail _ (.tail _ (List.mem_append_right _ (List.mem_append_right _ (htb _ hTm))))) hst hsub hzl hzn hzo c1 c4'' hL hBL hLO hON hNL (fun p hp => ?_) Y' F5 (news_sub N5 fun p hp => mvf hp) hn' ho' ⟨T, items, c9, rfl, List.mem_append_right _ hTm, hst, hok9⟩
        fun OT ov oc t4 nvv4 nvc4 ofv4 ofc4 lec4 v74 h4 tk4 d4 hov hook hn4 ho4 ht4 hNO hbO F6 N6 => ?_
      · revert p hp
        refine allP_cons ?_ (allP_cons ?_ (allP_app (fun p q => ?_) (allP_app (fun p q => ?_) (fun p q => ?_))))
        · exact ⟨Nat.ne_of_gt hNI, Nat.ne_of_gt (by first | k_extra "OM" | (first | lia | omega)), Nat.ne_of_gt (by first | k_extra "OM" | (first | lia | omega))⟩
        · exact ⟨Nat.ne_of_lt (by first | k_extra "OM" | (first | lia | omega)), Nat.ne_of_lt (by first | k_extra "OM" | (first | lia | omega)), Nat.ne_of_lt hCL⟩
        · have := ht' p q
          exact ⟨Nat.ne_of_gt this, Nat.ne_of_gt (by first | k_extra "OM" | (first | lia | omega)), Nat.ne_of_gt (by first | k_extra "OM" | (first | lia | omega))⟩
        · have := hu' p q
          exact ⟨Nat.ne_of_gt this, Nat.ne_of_gt (by first | k_extra "OM" | (first | lia | omega)), Nat.ne_of_gt (by first | k_extra "OM" | (first | lia | omega))⟩
        · have := (hbL p q).1
          exact ⟨Nat.ne_of_lt (Nat.lt_trans this (Nat.lt_trans hLO hON)), Nat.ne_of_lt (Nat.lt_trans this hLO), Nat.ne_of_lt this⟩
      · have hIO : I < OT := hbO (I, io) (by first | k_extra "MEM" | simp)
        refine ⟨_, h4, tk4, d4, _, (NV, listOf nvv4 nvc4) :: (OF, listOf ofv4 ofc4) :: (LE, listOf (lev.push (.ref OT)) lec4) :: (L' + 1 + 1 + 1 + 1, o4'') :: (CL, listOf cv cc) :: (BD, oBD) :: (L' + 1, o1) :: (NL, listOf nv nc) :: ((t4 ++ tt) ++ (((OT, tupO ov oc) :: outs) ++ big)), rfl, F6, news_sub N6 fun p hp => ?_, fun p hp q hq => ?_, .mk nvv4 nvc4 ofv4 ofc4 (lev.push (.ref OT)) lec4 (t4 ++ tt) ((OT, tupO ov oc) :: outs) o4'' _ _ v74 c4'' ?_ ?_ ?_ ?_ ?_⟩
        · first | (refine sub_use ?_ hp; k_extra "SUB") | (simp only [List.mem_cons, List.mem_append, List.cons_append, List.nil_append] at hp ⊢; grind)
        · rw [List.mem_singleton.mp hq]
          revert p hp
          refine allP_cons ?_ (allP_cons ?_ (allP_cons ?_ (allP_cons ?_ (allP_cons ?_ (allP_cons ?_ (allP_cons ?_ (allP_cons ?_ (allP_app (allP_app (fun p hp => ?_) (fun p hp => ?_)) (allP_cons ?_ (allP_app (fun p hp => ?_) (fun p hp => ?_)))))))))))
          · exact Nat.ne_of_lt hNI
          · exact Nat.ne_of_lt (by first | k_extra "OM" | (first | lia | omega))
          · exact Nat.ne_of_lt (by first | k_extra "OM" | (first | lia | omega))
          · exact Nat.ne_of_lt (by first | k_extra "OM" | (first | lia | omega))
          · exact Nat.ne_of_lt (by first | k_extra "OM" | (first | lia | omega))
          · exact Nat.ne_of_lt (by first | k_extra "OM" | (first | lia | omega))
          · exact Nat.ne_of_lt (by first | k_extra "OM" | (first | lia | omega))
          · exact Nat.ne_of_lt (by first | k_extra "OM" | (first | lia | omega))
          · exact Nat.ne_of_gt (Nat.lt_trans hIO (ht4 p hp))
          · exact hni p (by first | (have hzz := hp; k_extra "MEM") | simp [hp])
          · exact Nat.ne_of_gt hIO
          · exact hni p (by first | (have hzz := hp; k_extra "MEM") | simp [hp])
          · exact hni p (by first | (have hzz := hp; k_extra "MEM") | simp [hp])
        · rw [List.take_add_one, hch0, List.map_append]
          exact hA'.snoc (fun p hp => .tail _ hp) ⟨OT, ov, oc, rfl, .head _, hov, hook⟩
        · unfold nevOf at hn4 ⊢
          rw [take_flat _ hch0]
          exact hn4
        · unfold oftOf at ho4 ⊢
          rw [take_flat _ hch0]
          exact ho4
        · intro p hp
          rcases List.mem_append.mp hp with q | q
          · exact Nat.lt_trans hNO (ht4 p q)
          · exact ht' p q
        · intro p hp
          rcases List.mem_cons.mp hp with rfl | q
          · exact hNO
          · exact hu' p q
  · rintro g₁ h tk d m' news' F4 N4 ⟨nvv, nvc, ofv, ofc, lev, lec, tt, outs, o4', cv4', v6', v7', c4', hA', hn', ho', ht', hu'⟩
    rw [hA.1, List.take_length] at hA' hn' ho'
    refine wpAny_execs_nil ?_
    exact hq _ _ _ _ _ _ _ _ _ _ _ _ _ _ hA' hn' ho' F4 N4
end
end
section
set_option tactic.hygienic false
theorem snoc_ind {α : Type} {P : List α → Prop} (h0 : P []) (h1 : ∀ l a, P l → P (l ++ [a])) (l : List α) : P l := by
  rw [← l.reverse_reverse]
  induction l.reverse with
  | nil => exact h0
  | cons a r ih => rw [List.reverse_cons]; exact h1 _ _ ih
theorem choices_snoc (l : List Str) (a : Str) : choicesOf (l ++ [a]) = choicesOf l ++ (choicesOf l).map fun x => x ++ [a] := by
  unfold choicesOf
  rw [List.foldl_append]
  rfl
theorem choices_all (names : List Str) : ∀ ch : List Str, ch.Sublist names → ch ∈ choicesOf names := by
  induction names using snoc_ind with
  | h0 =>
    intro ch h
    rw [List.sublist_nil.mp h]
    exact .head _
  | h1 l a ih =>
    intro ch h
    obtain ⟨l1, l2, rfl, h1, h2⟩ := List.sublist_append_iff.mp h
    rw [choices_snoc]
    cases h2 with
    | cons _ h2 =>
      rw [List.sublist_nil.mp h2, List.append_nil]
      exact List.mem_append_left _ (ih _ h1)
    | cons_cons _ h2 =>
      rw [List.sublist_nil.mp h2]
      exact List.mem_append_right _ (List.mem_map.mpr ⟨_, ih _ h1, rfl⟩)
theorem choices_ord (names : List Str) : names.Nodup → ∀ (i j : Nat) (x y : List Str), (choicesOf names)[i]? = some x → (choicesOf names)[j]? = some y → (∀ z ∈ x, z ∈ y) → i ≤ j := by
  induction names using snoc_ind with
  | h0 =>
    intro _ i j x y hx hy _
    have h1 : i < 1 := (List.getElem?_eq_some_iff.mp hx).1
    (first | lia | omega)
  | h1 l a ih =>
    intro hn i j x y hx hy hz
    have hn1 : l.Nodup := (List.nodup_append.mp hn).1
    have ha : a ∉ l := fun q => (List.nodup_append.mp hn).2.2 a q a (.head _) rfl
    rw [choices_snoc] at hx hy
    have hsub : ∀ {k : Nat} {z : List Str}, (choicesOf l)[k]? = some z → a ∉ z := fun hk q => ha ((choices_sub l _ (List.mem_of_getElem? hk)).subset q)
    rcases Nat.lt_or_ge i (choicesOf l).length with hi | hi
    · rcases Nat.lt_or_ge j (choicesOf l).length with hj | hj
      · rw [List.getElem?_append_left hi] at hx
        rw [List.getElem?_append_left hj] at hy
        exact ih hn1 i j x y hx hy hz
      · (first | lia | omega)
    · rw [List.getElem?_append_right hi, List.getElem?_map] at hx
      obtain ⟨x', hx', rfl⟩ := Option.map_eq_some_iff.mp hx
      rcases Nat.lt_or_ge j (choicesOf l).length with hj | hj
      · rw [List.getElem?_append_left hj] at hy
        exact absurd (hz a (by simp)) (hsub hy)
      · rw [List.getElem?_append_right hj, List.getElem?_map] at hy
        obtain ⟨y', hy', rfl⟩ := Option.map_eq_some_iff.mp hy
        have := ih hn1 _ _ x' y' hx' hy' fun z hzx => by
          rcases List.mem_append.mp (hz z (List.mem_append_left _ hzx)) with q | q
          · exact q
          · rw [List.mem_singleton.mp q] at hzx
            exact absurd hzx (hsub hx')
        (first | lia | omega)
theorem choices_nodup {names : List Str} (hn : names.Nodup) : (choicesOf names).Nodup := by
  refine List.pairwise_iff_getElem.mpr fun i j hi hj hij heq => ?_
  have := choices_ord names hn j i _ _ (List.getElem?_eq_getElem hj) (List.getElem?_eq_getElem hi) fun z hz => by rw [heq]; exact hz
  (first | lia | omega)
noncomputable def fitB (P : Str → Option Bool) (names ch : List Str) : Bool := names.all fun nm => match P nm with | none => true | some b => decide (nm ∈ ch) == b
theorem fit_snoc {P : Str → Option Bool} {l : List Str} {a : Str} {ch : List Str} (ha : a ∉ l) (hc : a ∉ ch) : fitB P (l ++ [a]) ch = (fitB P l ch && (match P a with | none => true | some b => !b)) := by
  unfold fitB
  rw [List.all_append]
  simp only [List.all_cons, List.all_nil, Bool.and_true, hc, decide_false]
  congr 1
  cases P a with
  | none => rfl
  | some b => cases b <;> rfl
theorem fit_snoc1 {P : Str → Option Bool} {l : List Str} {a : Str} {ch : List Str} (ha : a ∉ l) (hc : a ∉ ch) : fitB P (l ++ [a]) (ch ++ [a]) = (fitB P l ch && (match P a with | none => true | some b => b)) := by
  unfold fitB
  rw [List.all_append]
  congr 1
  · rw [Bool.eq_iff_iff, List.all_eq_true, List.all_eq_true]
    constructor <;> intro h nm hnm <;> have h1 := h nm hnm <;> have hne : nm ≠ a := fun e => ha (e ▸ hnm)
    · cases hp : P nm with
      | none => rfl
      | some b =>
        rw [hp] at h1
        simpa [hne] using h1
    · cases hp : P nm with
      | none => rfl
      | some b =>
        rw [hp] at h1
        simpa [hne] using h1
  · simp only [List.all_cons, List.all_nil, Bool.and_true]
    cases P a with
    | none => rfl
    | some b => cases b <;> simp
theorem fit_count (P : Str → Option Bool) (names : List Str) : names.Nodup → (choicesOf names).countP (fitB P names) = 2 ^ (names.countP fun nm => (P nm).isNone) := by
  induction names using snoc_ind with
  | h0 => intro _; rfl
  | h1 l a ih =>
    intro hn
    have hn1 : l.Nodup := (List.nodup_append.mp hn).1
    have ha : a ∉ l := fun q => (List.nodup_append.mp hn).2.2 a q a (.head _) rfl
    have hsub : ∀ ch ∈ choicesOf l, a ∉ ch := fun ch hch q => ha ((choices_sub l _ hch).subset q)
    rw [choices_snoc, List.countP_append, List.countP_map, List.countP_append]
    have e1 : (choicesOf l).countP (fitB P (l ++ [a])) = (choicesOf l).countP fun ch => fitB P l ch && (match P a with | none => true | some b => !b) :=
      List.countP_congr fun ch hch => by rw [fit_snoc ha (hsub ch hch)]
    have e2 : (choicesOf l).countP (fitB P (l ++ [a]) ∘ fun x => x ++ [a]) = (choicesOf l).countP fun ch => fitB P l ch && (match P a with | none => true | some b => b) :=
      List.countP_congr fun ch hch => by
        show fitB P (l ++ [a]) (ch ++ [a]) = true ↔ _
        rw [fit_snoc1 ha (hsub ch hch)]
    rw [e1, e2]
    have ih' := ih hn1
    cases hp : P a with
    | none =>
      simp only [Bool.and_true, List.countP_singleton, hp, Option.isNone_none, if_true]
      have : (List.countP (fun ch => fitB P l ch) (choicesOf l)) = 2 ^ (l.countP fun nm => (P nm).isNone) := ih'
      rw [this, Nat.pow_succ]
      (first | lia | omega)
    | some b =>
      have : (List.countP (fun ch => fitB P l ch) (choicesOf l)) = 2 ^ (l.countP fun nm => (P nm).isNone) := ih'
      cases b
      · simp [hp, this]
      · simp [hp, this]
/-- the names stand in an order -/
structure Ord (names : List Str) : Prop where
  nd : names.Nodup
  tr : ∀ a ∈ names, ∀ b ∈ names, ∀ c ∈ names, belowB a b = true → belowB b c = true → belowB a c = true
  an : ∀ a ∈ names, ∀ b ∈ names, belowB a b = true → belowB b a = true → a = b
theorem below_refl (a : Str) : belowB a a = true := by simp [belowB]
theorem mem_hit {names ch : List Str} {nm hd : Str} (hn : nm ∈ names) : hd ∈ hit names ch nm ↔ hd ∈ ch ∧ belowB hd nm = true := by
  unfold hit hitB
  rw [List.mem_filter, decide_eq_true_iff, List.mem_filter]
  exact ⟨fun h => ⟨h.1, h.2.2⟩, fun h => ⟨h.1, hn, h.2⟩⟩
theorem outB_iff {names ch : List Str} {nm : Str} (hn : nm ∈ names) : outB names ch nm = true ↔ ∃ hd ∈ ch, belowB hd nm = true := by
  unfold outB
  rw [Bool.not_eq_true', decide_eq_false_iff_not]
  constructor
  · intro h
    obtain ⟨hd, hh⟩ := List.exists_mem_of_ne_nil _ h
    exact ⟨hd, (mem_hit hn).mp hh⟩
  · rintro ⟨hd, h⟩ e
    have := (mem_hit (ch := ch) hn).mpr h
    rw [e] at this
    cases this
theorem mem_out {names ch : List Str} {nm : Str} : nm ∈ outOf names ch ↔ nm ∈ names ∧ ∃ hd ∈ ch, belowB hd nm = true := by
  unfold outOf
  rw [List.mem_filter]
  constructor
  · exact fun h => ⟨h.1, (outB_iff h.1).mp h.2⟩
  · exact fun h => ⟨h.1, (outB_iff h.1).mpr h.2⟩
theorem out_ext {names ch ch' : List Str} (h : ∀ nm ∈ names, (∃ hd ∈ ch, belowB hd nm = true) ↔ ∃ hd ∈ ch', belowB hd nm = true) : outOf names ch = outOf names ch' := by
  unfold outOf
  refine List.filter_congr fun nm hn => ?_
  rw [Bool.eq_iff_iff, outB_iff hn, outB_iff hn]
  exact h nm hn
theorem sub_out {names ch : List Str} (hs : ∀ x ∈ ch, x ∈ names) : ∀ x ∈ ch, x ∈ outOf names ch := fun x hx => mem_out.mpr ⟨hs x hx, x, hx, below_refl x⟩
theorem out_out {names ch : List Str} (O : Ord names) (hs : ∀ x ∈ ch, x ∈ names) : outOf names (outOf names ch) = outOf names ch := by
  refine out_ext fun nm hn => ?_
  constructor
  · rintro ⟨hd, hh, hb⟩
    obtain ⟨h1, k, hk, hb2⟩ := mem_out.mp hh
    exact ⟨k, hk, O.tr k (hs k hk) hd h1 nm hn hb2 hb⟩
  · rintro ⟨hd, hh, hb⟩
    exact ⟨hd, sub_out hs hd hh, hb⟩
noncomputable def Anti (ch : List Str) : Prop := ∀ nm ∈ ch, ∀ hd ∈ ch, belowB hd nm = true → hd = nm
theorem filter_one {α : Type} [DecidableEq α] {p : α → Bool} : ∀ {l : List α} {a : α}, l.Nodup → a ∈ l → (∀ x ∈ l, p x = true ↔ x = a) → l.filter p = [a]
  | [], a, _, h, _ => by cases h
  | b :: r, a, hn, hm, hp => by
    have hn' := List.nodup_cons.mp hn
    by_cases hb : b = a
    · subst hb
      have h1 : p b = true := (hp b (.head _)).mpr rfl
      rw [List.filter_cons_of_pos h1, List.filter_eq_nil_iff.mpr]
      intro x hx q
      exact hn'.1 (((hp x (.tail _ hx)).mp q) ▸ hx)
    · have h1 : ¬ p b = true := fun q => hb ((hp b (.head _)).mp q)
      rw [List.filter_cons_of_neg h1]
      refine filter_one hn'.2 ?_ fun x hx => hp x (.tail _ hx)
      rcases List.mem_cons.mp hm with q | q
      · exact absurd q.symm hb
      · exact q
theorem apart_iff {names ch : List Str} (hnd : ch.Nodup) (hs : ∀ x ∈ ch, x ∈ names) : (apartOf names ch).length = ch.length ↔ Anti ch := by
  unfold apartOf
  rw [List.length_filter_eq_length_iff]
  constructor
  · intro h nm hn hd hh hb
    have h1 : hit names ch nm = [nm] := of_decide_eq_true (h nm hn)
    have h2 : hd ∈ hit names ch nm := (mem_hit (hs nm hn)).mpr ⟨hh, hb⟩
    rw [h1] at h2
    exact List.mem_singleton.mp h2
  · intro h nm hn
    refine decide_eq_true ?_
    unfold hit
    refine filter_one hnd hn fun x hx => ?_
    have e : hitB names nm x = true ↔ belowB x nm = true := by
      unfold hitB
      rw [decide_eq_true_iff, List.mem_filter]
      exact ⟨fun q => q.2, fun q => ⟨hs nm hn, q⟩⟩
    rw [e]
    exact ⟨fun q => h nm hn x hx q, fun q => by rw [q]; exact below_refl nm⟩
theorem sub_filter {α : Type} [DecidableEq α] : ∀ {ch l : List α}, ch.Sublist l → l.Nodup → l.filter (fun x => decide (x ∈ ch)) = ch := by
  intro ch l h
  induction h with
  | slnil => intro _; rfl
  | @cons l₁ l₂ a h ih =>
    intro hn
    have hn' := List.nodup_cons.mp hn
    have ha : a ∉ l₁ := fun q => hn'.1 (h.subset q)
    rw [List.filter_cons_of_neg (by simpa using ha)]
    exact ih hn'.2
  | @cons_cons l₁ l₂ a h ih =>
    intro hn
    have hn' := List.nodup_cons.mp hn
    rw [List.filter_cons_of_pos (by simp)]
    congr 1
    rw [← ih hn'.2]
    refine List.filter_congr fun x hx => ?_
    have hxa : x ≠ a := fun e => hn'.1 (e ▸ hx)
    rw [ih hn'.2]
    simp [hxa]
theorem count_one {α : Type} [DecidableEq α] {l : List α} {a : α} (hn : l.Nodup) (hm : a ∈ l) : l.countP (fun y => decide (y = a)) = 1 := by
  rw [List.countP_eq_length_filter, filter_one hn hm fun x _ => by simp]
  rfl
noncomputable def wantOf (names ch : List Str) (nm : Str) : Option Bool := if nm ∈ ch then some true else if nm ∈ outOf names ch then none else some false
theorem want_in {names ch : List Str} {nm : Str} (h : nm ∈ ch) : wantOf names ch nm = some true := if_pos h
theorem want_mid {names ch : List Str} {nm : Str} (h : nm ∉ ch) (h2 : nm ∈ outOf names ch) : wantOf names ch nm = none := by rw [wantOf, if_neg h, if_pos h2]
theorem want_not {names ch : List Str} {nm : Str} (h : nm ∉ ch) (h2 : nm ∉ outOf names ch) : wantOf names ch nm = some false := by rw [wantOf, if_neg h, if_neg h2]
/-- the choices that leave out as much as an unlinked one does -/
theorem fit_iff {names ch ch' : List Str} (O : Ord names) (hs : ch.Sublist names) (ha : Anti ch) (hs' : ch'.Sublist names) :
    outOf names ch' = outOf names ch ↔ fitB (wantOf names ch) names ch' = true := by
  have hc : ∀ x ∈ ch, x ∈ names := fun x hx => hs.subset hx
  have hc' : ∀ x ∈ ch', x ∈ names := fun x hx => hs'.subset hx
  unfold fitB
  rw [List.all_eq_true]
  constructor
  · intro h nm hn
    by_cases h1 : nm ∈ ch
    · rw [want_in h1]
      have h2 : nm ∈ outOf names ch' := by rw [h]; exact sub_out hc nm h1
      obtain ⟨_, k, hk, hb⟩ := mem_out.mp h2
      have h3 : k ∈ outOf names ch := by rw [← h]; exact sub_out hc' k hk
      obtain ⟨hkn, j, hj, hb2⟩ := mem_out.mp h3
      have h4 := O.tr j (hc j hj) k hkn nm hn hb2 hb
      have h5 := ha nm h1 j hj h4
      subst h5
      have h6 := O.an k hkn j hn hb hb2
      subst h6
      simp [hk]
    · by_cases h2 : nm ∈ outOf names ch
      · rw [want_mid h1 h2]
      · rw [want_not h1 h2]
        have h3 : nm ∉ ch' := fun q => h2 (by rw [← h]; exact sub_out hc' nm q)
        simp [h3]
  · intro h
    have h1 : ∀ x ∈ ch, x ∈ ch' := fun x hx => by
      have := h x (hc x hx)
      rw [want_in hx] at this
      simpa using this
    have h2 : ∀ x ∈ ch', x ∈ outOf names ch := fun x hx => by
      have := h x (hc' x hx)
      by_cases h3 : x ∈ ch
      · exact sub_out hc x h3
      · by_cases h4 : x ∈ outOf names ch
        · exact h4
        · rw [want_not h3 h4] at this
          simp [hx] at this
    refine out_ext fun nm hn => ?_
    constructor
    · rintro ⟨hd, hh, hb⟩
      obtain ⟨hdn, k, hk, hb2⟩ := mem_out.mp (h2 hd hh)
      exact ⟨k, hk, O.tr k (hc k hk) hd hdn nm hn hb2 hb⟩
    · rintro ⟨hd, hh, hb⟩
      exact ⟨hd, h1 hd hh, hb⟩
theorem out_sub (names ch : List Str) : (outOf names ch).Sublist names := List.filter_sublist
theorem sub_of {α : Type} [DecidableEq α] {a b l : List α} (hn : l.Nodup) (ha : a.Sublist l) (hb : b.Sublist l) (h : ∀ x ∈ a, x ∈ b) : a.Sublist b := by
  have e := sub_filter ha hn
  have e2 := sub_filter hb hn
  rw [← e, ← e2]
  rw [show l.filter (fun x => decide (x ∈ a)) = (l.filter (fun x => decide (x ∈ b))).filter (fun x => decide (x ∈ a)) by
    rw [List.filter_filter]
    refine List.filter_congr fun x _ => ?_
    by_cases hx : x ∈ a
    · simp [hx, h x hx]
    · simp [hx]]
  exact List.filter_sublist
theorem cn_out {names ch : List Str} (O : Ord names) (hs : ch.Sublist names) (ha : Anti ch) : cn (outOf names ch) ((choicesOf names).map (outOf names)) = 2 ^ ((outOf names ch).length - ch.length) := by
  show List.countP _ (List.map _ _) = _
  rw [List.countP_map]
  have e : (choicesOf names).countP ((fun y => decide (y = outOf names ch)) ∘ outOf names) = (choicesOf names).countP (fitB (wantOf names ch) names) :=
    List.countP_congr fun c hc => by
      rw [← fit_iff O hs ha (choices_sub names c hc)]
      show decide (outOf names c = outOf names ch) = true ↔ _
      exact decide_eq_true_iff
  rw [e, fit_count _ names O.nd]
  congr 1
  have h1 : names.countP (fun nm => decide (nm ∈ ch)) = ch.length := by rw [List.countP_eq_length_filter, sub_filter hs O.nd]
  have h2 : names.countP (fun nm => decide (nm ∈ outOf names ch)) = (outOf names ch).length := by rw [List.countP_eq_length_filter, sub_filter (out_sub names ch) O.nd]
  rw [← h1, ← h2]
  have key : ∀ l : List Str, (∀ x ∈ l, x ∈ names) → l.countP (fun nm => (wantOf names ch nm).isNone) + l.countP (fun nm => decide (nm ∈ ch)) = l.countP (fun nm => decide (nm ∈ outOf names ch)) := by
    intro l
    induction l with
    | nil => intro _; rfl
    | cons a r ih =>
      intro hl
      have ih' := ih fun x hx => hl x (.tail _ hx)
      rw [List.countP_cons, List.countP_cons, List.countP_cons]
      by_cases ha1 : a ∈ ch
      · have ha2 : a ∈ outOf names ch := sub_out (fun x hx => hs.subset hx) a ha1
        rw [want_in ha1]
        simp [ha1, ha2]
        (first | lia | omega)
      · by_cases ha2 : a ∈ outOf names ch
        · rw [want_mid ha1 ha2]
          simp [ha1, ha2]
          (first | lia | omega)
        · rw [want_not ha1 ha2]
          simp [ha1, ha2]
          (first | lia | omega)
  have := key names fun x hx => hx
  (first | lia | omega)
theorem cn_choice {names ch : List Str} (O : Ord names) (hs : ch.Sublist names) : cn ch (choicesOf names) = 1 := count_one (choices_nodup O.nd) (choices_all names ch hs)
theorem early {names ch : List Str} (O : Ord names) {i : Nat} (hi : (choicesOf names)[i]? = some ch) : outOf names ch ∈ ((choicesOf names).map (outOf names)).take i ↔ ¬ Anti ch := by
  have hs := choices_sub names ch (List.mem_of_getElem? hi)
  have hc : ∀ x ∈ ch, x ∈ names := fun x hx => hs.subset hx
  rw [← List.map_take]
  constructor
  · intro h ha
    obtain ⟨c, hcm, e⟩ := List.mem_map.mp h
    obtain ⟨j, hj⟩ := List.mem_iff_getElem?.mp hcm
    rw [List.getElem?_take] at hj
    split at hj
    · rename_i hji
      have hsc := choices_sub names c (List.mem_of_getElem? hj)
      have hf := (fit_iff O hs ha hsc).mp e
      unfold fitB at hf
      rw [List.all_eq_true] at hf
      have := choices_ord names O.nd i j ch c hi hj fun x hx => by
        have := hf x (hc x hx)
        rw [want_in hx] at this
        simpa using this
      (first | lia | omega)
    · cases hj
  · intro ha
    have : ∃ nm ∈ ch, ∃ hd ∈ ch, belowB hd nm = true ∧ hd ≠ nm := Classical.byContradiction fun q => ha fun nm hn hd hh hb => Classical.byContradiction fun q2 => q ⟨nm, hn, hd, hh, hb, q2⟩
    obtain ⟨nm, hn, hd, hh, hb, hne⟩ := this
    have hs2 : (ch.filter fun x => !decide (x = nm)).Sublist names := List.filter_sublist.trans hs
    obtain ⟨j, hj⟩ := List.mem_iff_getElem?.mp (choices_all names _ hs2)
    have h1 := choices_ord names O.nd j i _ _ hj hi fun x hx => (List.mem_filter.mp hx).1
    have h2 : j ≠ i := fun e => by
      rw [e, hi] at hj
      have h3 := Option.some.inj hj
      have h4 : nm ∈ ch.filter fun x => !decide (x = nm) := by rw [← h3]; exact hn
      have := (List.mem_filter.mp h4).2
      simp at this
    refine List.mem_map.mpr ⟨_, List.mem_of_getElem? (i := j) (by rw [List.getElem?_take, if_pos (by (first | lia | omega))]; exact hj), ?_⟩
    refine out_ext fun x hx => ?_
    constructor
    · rintro ⟨k, hk, hkb⟩
      exact ⟨k, (List.mem_filter.mp hk).1, hkb⟩
    · rintro ⟨k, hk, hkb⟩
      by_cases hkn : k = nm
      · subst hkn
        exact ⟨hd, List.mem_filter.mpr ⟨hh, by simpa using hne⟩, O.tr hd (hc hd hh) k (hc k hk) x hx hb hkb⟩
      · exact ⟨k, List.mem_filter.mpr ⟨hk, by simpa using hkn⟩, hkb⟩
theorem flat_congr {α β : Type} {f g : α → List β} : ∀ {l : List α}, (∀ x ∈ l, f x = g x) → l.flatMap f = l.flatMap g
  | [], _ => rfl
  | a :: l, h => by rw [List.flatMap_cons, List.flatMap_cons, h a (.head _), flat_congr fun x hx => h x (.tail _ hx)]
theorem cdap_due {names : List Str} (O : Ord names) : cdap ((choicesOf names).map (outOf names)) (choicesOf names) = oftOf names (choicesOf names) ++ nevOf names (choicesOf names) := by
  rw [cdap_is]
  congr 1
  · unfold oftOf
    rw [flat_range, says1_flat, List.length_map]
    refine flat_congr fun k hk => ?_
    obtain ⟨ch, hch⟩ : ∃ c, (choicesOf names)[k]? = some c := ⟨_, List.getElem?_eq_getElem (List.mem_range.mp hk)⟩
    have hs := choices_sub names ch (List.mem_of_getElem? hch)
    have hc : ∀ x ∈ ch, x ∈ names := fun x hx => hs.subset hx
    have hnd : ch.Nodup := hs.nodup O.nd
    unfold say1
    rw [List.getElem?_map, hch]
    try dsimp only [Option.map_some]
    have hE := early O hch
    unfold oftStep
    by_cases ha : Anti ch
    · rw [if_neg fun q => (hE.mp q) ha, cn_out O hs ha, cn_choice O (out_sub names ch)]
      by_cases heq : outOf names ch = ch
      · rw [if_pos heq, heq, Nat.sub_self, if_pos rfl]
      · rw [if_neg heq, if_pos ((apart_iff hnd hc).mpr ha)]
        have h1 : ch.Sublist (outOf names ch) := sub_of O.nd hs (out_sub names ch) (sub_out hc)
        have h2 : ch.length ≠ (outOf names ch).length := fun e => heq (h1.eq_of_length e).symm
        have h3 := h1.length_le
        have h4 : 2 ^ ((outOf names ch).length - ch.length) ≠ 1 := by
          have : 1 < 2 ^ ((outOf names ch).length - ch.length) := Nat.one_lt_two_pow (by (first | lia | omega))
          (first | lia | omega)
        rw [if_neg h4]
    · rw [if_pos (hE.mpr ha)]
      by_cases heq : outOf names ch = ch
      · rw [if_pos heq]
      · rw [if_neg heq, if_neg fun q => ha ((apart_iff hnd hc).mp q)]
  · unfold nevOf
    rw [flat_range, says2_flat]
    refine flat_congr fun k hk => ?_
    obtain ⟨ch, hch⟩ : ∃ c, (choicesOf names)[k]? = some c := ⟨_, List.getElem?_eq_getElem (List.mem_range.mp hk)⟩
    have hs := choices_sub names ch (List.mem_of_getElem? hch)
    have hc : ∀ x ∈ ch, x ∈ names := fun x hx => hs.subset hx
    unfold say2
    rw [hch]
    try dsimp only
    unfold nevStep
    have hnot : ch ∉ (choicesOf names).take k := fun q => by
      obtain ⟨j, hj⟩ := List.mem_iff_getElem?.mp q
      rw [List.getElem?_take] at hj
      split at hj
      · have := choices_ord names O.nd k j ch ch hch hj fun _ h => h
        (first | lia | omega)
      · cases hj
    by_cases heq : outOf names ch = ch
    · rw [if_pos heq, if_pos (List.mem_append_left _ (List.mem_map.mpr ⟨ch, List.mem_of_getElem? hch, heq⟩))]
    · rw [if_neg heq, if_neg, cn_choice O hs]
      intro q
      rcases List.mem_append.mp q with q | q
      · obtain ⟨c, hcm, e⟩ := List.mem_map.mp q
        have hsc := choices_sub names c hcm
        exact heq (by rw [← e]; exact out_out O fun x hx => hsc.subset hx)
      · exact hnot q
end
section
section
variable {prog : Program} {w : World} {p : Program} {loose : List Str} {mean : ExcName → Option Value} {mg mb : Str → Option Value} {dp un : Nat} {gd : Option (List Code)} {cn : Str} {cs : Scope} {a : Addr} {ccd : Value} {cl : List (Str × Addr)} {outer : List Env} {A₀ : Around} {base h₀ : Heap} {L : Addr} {m : Str → Option Value} {news rest : List (Addr × Obj)} {s : Shared} {Q E : Value → Shared → Prop}
open PyProof.Rows.LCg
variable {g : Heap} {L' : Nat} {QF : Flow → Shared → Prop} {tups big : List (Addr × Obj)}
theorem wd_KQ8_65 : True := by
  k_with "binaryOp Add ref ref" => (k_here; k_dflt (refine' add2K ?zF ?zN ?zl ?zb ?za ?zc ?_; (case zF => k_asm); (case zN => k_asm); (case zl => k_mem); (case zb => k_mem); (case za => assumption); (case zc => assumption)); intro _ _ zl9 _ _; (try k_lt zl9))
  trivial
noncomputable def duI : List Stmt := match duB with | a :: _ => [a] | _ => []
noncomputable def dum : List Stmt := match duB with | _ :: _ :: _ :: _ :: a :: b :: c :: _ => [a, b, c] | _ => []
noncomputable def duR : List Stmt := match duB with | _ :: _ :: _ :: _ :: _ :: _ :: _ :: _ :: r => r | _ => []
theorem duB_is : duB = duI ++ (duL1 ++ (duc ++ (duL2 ++ (dum ++ (duL3 ++ duR))))) := by rfl
theorem duI_st {NL : Nat} {o1 o2 o3 o4 : Obj} {cv1 cv2 cv3 cv4 : Option Value} (c1 : o1.data = .cell cv1) (c2 : o2.data = .cell cv2) (c3 : o3.data = .cell cv3) (c4 : o4.data = .cell cv4) (hbL : ∀ p ∈ big, p.1 < L')
    (Y : Ty 8 w p loose mean mg mb dp un gd cn cs L a ccd cl outer base g)
    (F : Fr g L' s.heap (mdu (some (.ref NL)) none none none none none none none))
    (N : News g L' s.heap ((L' + 1 + 1 + 1 + 1, o4) :: (L' + 1 + 1 + 1, o3) :: (L' + 1 + 1, o2) :: (L' + 1, o1) :: big))
    (hq : ∀ (BD : Nat) oBD o1' h' tk', o1'.data = .cell (some (.ref BD)) → oBD.IsDictOf (strKind prog w) [] → (BD == sysModules) = false → L' + 1 + 1 + 1 + 1 < BD → Fr g L' h' (mdu (some (.ref NL)) none none none none none none none) →
      News g L' h' ((BD, oBD) :: (L' + 1 + 1 + 1 + 1, o4) :: (L' + 1 + 1 + 1, o3) :: (L' + 1 + 1, o2) :: (L' + 1, o1') :: big) → QF .next { s with heap := h', toks := tk' }) :
    wpAny (model prog w) ((ktrTop dp un gd cn cs L a ccd cl outer).deeper (duEnv L')) (execs duI (duEnv L')) QF (fun _ _ => False) s := by
  obtain ⟨hk, hd0, hun, B, X, T0⟩ := Y
  have hb1 : ∀ p ∈ big, p.1 ≠ L' + 1 := fun p hp => Nat.ne_of_lt (Nat.lt_succ_of_lt (hbL p hp))
  k_steps
  rename News _ _ _ _ => N1
  rename Fr _ _ _ _ => F1
  rename Obj.IsDictOf (PySem.strKind prog w) _ _ => hd2
  rename (_ == sysModules) = false => hDm
  rename (L' + 1 + 1 + 1 + 1 < _ ∧ _) => hlD
  exact hq _ _ _ _ _ (by first | assumption | rfl) hd2 hDm hlD.1 F1 N1
theorem dum_st {NL CL : Nat} {v1 : Option Value} {cv : Array Value} {cc : Nat}
    (Y : Ty 8 w p loose mean mg mb dp un gd cn cs L a ccd cl outer base g)
    (F : Fr g L' s.heap (mdu (some (.ref NL)) v1 (some (.ref CL)) none none none none none))
    (N : News g L' s.heap ((CL, listOf cv cc) :: big))
    (hq : ∀ (LE OF NV : Nat) h' tk', CL < LE → (∀ p ∈ big, p.1 < LE) → LE < OF → OF < NV → Fr g L' h' (mdu (some (.ref NL)) v1 (some (.ref CL)) (some (.ref LE)) (some (.ref OF)) (some (.ref NV)) none none) →
      News g L' h' ((NV, listOf #[] 0) :: (OF, listOf #[] 0) :: (LE, listOf #[] 0) :: (CL, listOf cv cc) :: big) → QF .next { s with heap := h', toks := tk' }) :
    wpAny (model prog w) ((ktrTop dp un gd cn cs L a ccd cl outer).deeper (duEnv L')) (execs dum (duEnv L')) QF (fun _ _ => False) s := by
  obtain ⟨hk, hd0, hun, B, X, T0⟩ := Y
  k_steps
  rename News _ _ _ _ => N1
  rename Fr _ _ _ _ => F1
  rename CL < _ ∧ _ => l1
  rename _ < _ ∧ CL < _ ∧ _ => l2
  rename _ < _ ∧ _ < _ ∧ CL < _ ∧ _ => l3
  have F2 := Fr.cast (Fr.cast (Fr.cast F1 (fun z => by rw [mdu_left])) (fun z => by rw [mdu_often])) mdu_never
  exact hq _ _ _ _ _ l1.1 (of_allLt l1.2) l2.1 l3.1 F2 N1
noncomputable def dueD (names : List Str) : PyData := .list [.list ((choicesOf names).map wdD), .list (((choicesOf names).map (outOf names)).map wdD), .list ((oftOf names (choicesOf names) ++ nevOf names (choicesOf names)).map outD)]
theorem OutT.appR {h : Heap} {tt tups : List (Addr × Obj)} {o1 o2 : List (Nat × Nat × List Str)} {y1 y2 : List Value} (H1 : OutT tt tups o1 y1) (H2 : OutT tt tups o2 y2) (h1 : ∀ p ∈ tt, h.get? p.1 = some p.2) (ht : ∀ p ∈ tups, h.get? p.1 = some p.2) : ReadsAll h (y1 ++ y2) ((o1 ++ o2).map outD) [] := by
  refine readsAll_of (by simp [H1.1, H2.1]) fun k d hk => ?_
  rw [List.getElem?_map] at hk
  obtain ⟨⟨a, b, x⟩, hx, rfl⟩ := Option.map_eq_some_iff.mp hk
  rcases Nat.lt_or_ge k o1.length with hlt | hge
  · rw [List.getElem?_append_left hlt] at hx
    obtain ⟨T, ta, tb, u, hy, hm, hu⟩ := H1.2 k a b x hx
    exact ⟨_, by rw [List.getElem?_append_left (by rw [H1.1]; exact hlt)]; exact hy, reads_tuple_at (h1 _ hm) rfl rfl (readsAll_cons_val (.int _ _) (readsAll_cons_val (.int _ _) (readsAll_cons_val (hu.readsAt ht) .nil)))⟩
  · rw [List.getElem?_append_right hge] at hx
    obtain ⟨T, ta, tb, u, hy, hm, hu⟩ := H2.2 _ a b x hx
    exact ⟨_, by rw [List.getElem?_append_right (by rw [H1.1]; exact hge), H1.1]; exact hy, reads_tuple_at (h1 _ hm) rfl rfl (readsAll_cons_val (.int _ _) (readsAll_cons_val (.int _ _) (readsAll_cons_val (hu.readsAt ht) .nil)))⟩
theorem duR_st {NL CL OF NV LE : Nat} {cv nvv ofv lev : Array Value} {cc nvc ofc lec : Nat} {names : List Str} {tt outs tt2 : List (Addr × Obj)} {v1 v6 v7 : Option Value}
    (hnz : nvv.size ≤ 500) (hfz : ofv.size ≤ 500) (hA : ListT tt2 (choicesOf names) cv) (hL : ListT outs ((choicesOf names).map (outOf names)) lev) (hn : OutT tt (outs ++ tt2) (nevOf names (choicesOf names)) nvv.toList) (ho : OutT tt (outs ++ tt2) (oftOf names (choicesOf names)) ofv.toList)
    (h1 : ∀ p ∈ tt, p ∈ big) (h2 : ∀ p ∈ outs, p ∈ big) (h3 : ∀ p ∈ tt2, p ∈ big)
    (Y : Ty 8 w p loose mean mg mb dp un gd cn cs L a ccd cl outer base g)
    (F : Fr g L' s.heap (mdu (some (.ref NL)) v1 (some (.ref CL)) (some (.ref LE)) (some (.ref OF)) (some (.ref NV)) v6 v7))
    (N : News g L' s.heap ((NV, listOf nvv nvc) :: (OF, listOf ofv ofc) :: (LE, listOf lev lec) :: (CL, listOf cv cc) :: big))
    (hq : ∀ (RL TO : Nat) led m' h' tk', Fr g L' h' m' → News g L' h' led → (∀ p ∈ big, p ∈ led) →
      (∀ h : Heap, (∀ p ∈ led, h.get? p.1 = some p.2) → Reads h (.ref RL) (dueD names) [RL, CL, LE, TO]) → QF (.ret (.ref RL)) { s with heap := h', toks := tk' }) :
    wpAny (model prog w) ((ktrTop dp un gd cn cs L a ccd cl outer).deeper (duEnv L')) (execs duR (duEnv L')) QF (fun _ _ => False) s := by
  obtain ⟨hk, hd0, hun, B, X, T0⟩ := Y
  k_steps
  rename News _ _ _ _ => N9
  rename Fr _ _ _ _ => F9
  rename_i D9 h9 l2 h5 l5
  refine hq l2 D9 _ _ _ _ F9 N9 (fun p hp => by simp [hp]) fun hh H => ?_
  have hb : ∀ p ∈ big, hh.get? p.1 = some p.2 := fun p hp => H p (by first | (have hzz := hp; k_extra "MEM") | simp [hp])
  have hT : ∀ p ∈ outs ++ tt2, hh.get? p.1 = some p.2 := fun p hp => by
    rcases List.mem_append.mp hp with q | q
    · exact hb p (h2 p q)
    · exact hb p (h3 p q)
  refine reads_list_at (H _ (.head _)) rfl rfl ?_
  refine .cons (reads_list_at (vs := cv) (n := cc) (H (CL, listOf cv cc) (by first | k_extra "MEM" | simp)) rfl rfl (hA.readsAt fun p hp => hb p (h3 p hp))) (.cons (reads_list_at (vs := lev) (n := lec) (H (LE, listOf lev lec) (by first | k_extra "MEM" | simp)) rfl rfl (hL.readsAt fun p hp => hb p (h2 p hp))) (.cons (reads_list_at (vs := (ofv.toList ++ nvv.toList).toArray) (n := 0) (H (_, listOf (ofv.toList ++ nvv.toList).toArray 0) (.tail _ (.head _))) rfl rfl (by
    exact ho.appR hn (h := hh) (fun p hp => hb p (h1 p hp)) hT)) .nil))
theorem mvg {α : Type} {p c o1 o2 o3 o4 n b : α} {lists big : List α} (h : p ∈ c :: o3 :: n :: (o4 :: b :: o2 :: o1 :: (lists ++ big))) : p ∈ c :: b :: o4 :: o3 :: o2 :: o1 :: n :: (lists ++ big) := by
  first | (refine sub_use ?_ h; k_extra "SUB") | (simp only [List.mem_cons, List.mem_append, List.cons_append, List.nil_append] at h ⊢; grind)
theorem due_body {NL : Nat} {o1 o2 o3 o4 : Obj} {nv : Array Value} {nc : Nat} {names : List Str} {cv1 cv2 cv3 cv4 : Option Value} (hn : Strs names nv) (O : NamesOk names) (hz6 : names.length ≤ 6)
    (c1 : o1.data = .cell cv1) (c2 : o2.data = .cell cv2) (c3 : o3.data = .cell cv3) (c4 : o4.data = .cell cv4) (hNL : NL < L') (hbig : ∀ p ∈ big, p.1 < L')
    (Y : Ty 8 w p loose mean mg mb dp un gd cn cs L a ccd cl outer base g)
    (F : Fr g L' s.heap (mdu (some (.ref NL)) none none none none none none none))
    (N : News g L' s.heap ((L' + 1 + 1 + 1 + 1, o4) :: (L' + 1 + 1 + 1, o3) :: (L' + 1 + 1, o2) :: (L' + 1, o1) :: (NL, listOf nv nc) :: big))
    (hq : ∀ (RL TO CL LE : Nat) led m' h' tk' d, Fr g L' h' m' → News g L' h' led → (∀ p ∈ (NL, listOf nv nc) :: big, p ∈ led) →
      (∀ h : Heap, (∀ p ∈ led, h.get? p.1 = some p.2) → Reads h (.ref RL) (dueD names) [RL, CL, LE, TO]) → QF (.ret (.ref RL)) { s with heap := h', toks := tk', drawn := d }) :
    wpAny (model prog w) ((ktrTop dp un gd cn cs L a ccd cl outer).deeper (duEnv L')) (execs duB (duEnv L')) QF (fun _ _ => False) s := by
  rw [duB_is]
  refine execs_app _ _ ?_
  refine duI_st c1 c2 c3 c4 (big := (NL, listOf nv nc) :: big) (fun p hp => ?_) Y F N fun BD oBD o1' h2 tk2 c1' hdB hlo hBD F2 N2 => ?_
  · rcases List.mem_cons.mp hp with rfl | hp
    · exact hNL
    · exact hbig p hp
  refine execs_app _ _ ?_
  refine du1_loop hn O c1' c2 c3 c4 hdB hlo hBD hNL hbig Y F2 N2 fun hdv lists kvs oBD' o2' cv' h3 tk3 d3 c2' hB hdB' hli F3 N3 => ?_
  refine execs_app _ _ ?_
  refine duc_st (led := []) Y F3 N3 fun CL cv cc tt h4 tk4 hA hlt4 F4 N4 => ?_
  refine execs_app _ _ ?_
  have hBC : BD < CL := (hlt4 (BD, oBD') (.head _)).1
  refine du2_loop (tt := tt) (cc := cc) (nc := nc) (big := (L' + 1 + 1 + 1 + 1, o4) :: (BD, oBD') :: (L' + 1 + 1, o2') :: (L' + 1, o1') :: (lists ++ big)) hn hz6 O.ok hA c3 (by first | k_extra "OM" | (first | lia | omega)) (fun p hp => (hlt4 (L' + 1 + 1 + 1 + 1, o4) (by first | k_extra "MEM" | simp)).2 p hp) (fun p hp => ?_) hNL (.head _) Y F4 (news_sub N4 fun p hp => ?_) fun CL2 cv2 cc2 tt2 o3' cv3' h5 tk5 d5 c3' hA2 hC2 ht2 F5 N5 => ?_
  · revert p hp
    refine allP_cons ?_ (allP_cons ?_ (allP_cons ?_ (allP_cons ?_ (allP_app (fun p hp => ?_) (fun p hp => ?_)))))
    · exact Nat.ne_of_gt (Nat.lt_succ_self _)
    · exact Nat.ne_of_gt (by first | k_extra "OM" | (first | lia | omega))
    · exact Nat.ne_of_lt (Nat.lt_succ_self _)
    · exact Nat.ne_of_lt (by first | k_extra "OM" | (first | lia | omega))
    · exact Nat.ne_of_gt (Nat.lt_trans (by first | k_extra "OM" | (first | lia | omega)) (hli p hp))
    · exact Nat.ne_of_lt (Nat.lt_trans (hbig p hp) (by first | k_extra "OM" | (first | lia | omega)))
  · first | (refine sub_use ?_ hp; k_extra "SUB") | (simp only [List.mem_cons, List.mem_append, List.cons_append, List.nil_append] at hp ⊢; grind)
  refine execs_app _ _ ?_
  refine dum_st Y F5 N5 fun LE OF NV h6 tk6 hCL hlt6 hLO hON F6 N6 => ?_
  refine execs_app _ _ ?_
  refine du3_loop (nc := nc) (cc := cc2) (cv4 := cv4) (lists := lists) (tt2 := tt2) (big := (L' + 1 + 1 + 1, o3') :: (L' + 1 + 1, o2') :: (tt2 ++ (lists ++ big))) hn O hz6 hB (fun p hp => .tail _ (.tail _ (List.mem_append_right _ (List.mem_append_left _ hp)))) (fun p hp => .tail _ (.tail _ (List.mem_append_left _ hp))) hdB' hlo hA2 c1' c4 hBD (hlt6 (BD, oBD') (by first | k_extra "MEM" | simp)) hLO hON hNL hCL hC2 (fun p hp => ?_) Y F6 (news_sub N6 fun p hp => ?_) fun nvv nvc ofv ofc lev lec tt9 outs o4' v6' v7' h7 tk7 d7 hL7 hn7 ho7 F7 N7 => ?_
  · revert p hp
    refine allP_cons ?_ (allP_cons ?_ (allP_app (fun p hp => ?_) (allP_app (fun p hp => ?_) (fun p hp => ?_))))
    · exact ⟨hlt6 (L' + 1 + 1 + 1, o3') (by first | k_extra "MEM" | simp), Nat.ne_of_lt (Nat.lt_succ_self _)⟩
    · exact ⟨hlt6 (L' + 1 + 1, o2') (by first | k_extra "MEM" | simp), Nat.ne_of_lt (by first | k_extra "OM" | (first | lia | omega))⟩
    · exact ⟨hlt6 p (by first | (have hzz := hp; k_extra "MEM") | simp [hp]), Nat.ne_of_gt (ht2 p hp)⟩
    · exact ⟨hlt6 p (by first | (have hzz := hp; k_extra "MEM") | simp [hp]), Nat.ne_of_gt (Nat.lt_trans hBD (hli p hp))⟩
    · exact ⟨hlt6 p (by first | (have hzz := hp; k_extra "MEM") | simp [hp]), Nat.ne_of_lt (Nat.lt_trans (hbig p hp) (by first | k_extra "OM" | (first | lia | omega)))⟩
  · first | (refine sub_use ?_ hp; k_extra "SUB") | (simp only [List.mem_cons, List.mem_append, List.cons_append, List.nil_append] at hp ⊢; grind)
  have hlen : (choicesOf names).length ≤ 64 := by
    have := choices_len names [[]]
    show (List.foldl chAdd [[]] names).length ≤ 64
    rw [this]
    have : 2 ^ names.length ≤ 2 ^ 6 := Nat.pow_le_pow_right (by first | k_extra "OM" | (first | lia | omega)) hz6
    simp only [List.length_cons, List.length_nil]
    first | k_extra "OM" | (first | lia | omega)
  have hz1 : nvv.size ≤ 500 := by
    have e1 := hn7.1
    have e2 := nev_le names (choicesOf names)
    rw [Array.length_toList] at e1
    first | k_extra "OM" | (first | lia | omega)
  have hz2 : ofv.size ≤ 500 := by
    have e1 := ho7.1
    have e2 := oft_le names (choicesOf names)
    rw [Array.length_toList] at e1
    first | k_extra "OM" | (first | lia | omega)
  refine duR_st (cc := cc2) (nvc := nvc) (ofc := ofc) (lec := lec) (tt := tt9) (outs := outs) (tt2 := tt2) (big := (L' + 1 + 1 + 1 + 1, o4') :: (BD, oBD') :: (L' + 1, o1') :: (NL, listOf nv nc) :: (tt9 ++ (outs ++ ((L' + 1 + 1 + 1, o3') :: (L' + 1 + 1, o2') :: (tt2 ++ (lists ++ big)))))) hz1 hz2 hA2 hL7 hn7 ho7 (fun p hp => by simp [hp]) (fun p hp => by simp [hp]) (fun p hp => by simp [hp]) Y F7 (news_sub N7 fun p hp => ?_) fun RL TO led m' h8 tk8 F8 N8 hled hR => ?_
  · first | (refine sub_use ?_ hp; k_extra "SUB") | (simp only [List.mem_cons, List.mem_append, List.cons_append, List.nil_append] at hp ⊢; grind)
  · exact hq RL TO CL2 LE led m' h8 tk8 _ F8 N8 (fun p hp => hled p (by
      rcases List.mem_cons.mp hp with rfl | hp
      · simp
      · simp [hp])) hR
theorem wd_KQ8_66 : True := by
  k_with "ENTERSC" => (refine wpAny_call ?_; k_dflt (refine' code_defSC0 ?k1 ?k2 ?k3 ?k4 ?k5 ?kA ?k6 ?k7 ?k8 ?k9 ?kB ?kD ?_ ?cK ?c2 ?c3 ?c4; (case kA => exact rfl); (case k1 => k_asm); (case k2 => k_asm); (case k3 => k_asm); (case k4 => k_asm); (case k5 => k_asm); (case k6 => k_is); (case k7 => k_is); (case k8 => ktr_room); (case k9 => first | exact BindsTo.of_eq rfl | exact binds_K (by k_in) rfl (by k_is) rfl rfl rfl); (case kB => exact rfl); (case kD => decide +kernel); (case cK => assumption); (case c2 => exact rfl); (case c3 => exact rfl); (case c4 => exact rfl); k_whole; intro _ _ _ _ _ _ _ zN' zY' _ _ _ _ zl1; (try k_lt zl1); k_cells zY'; (try simp only [List.cons_append, List.nil_append] at zN'); (try dsimp only); (try k_fold)))
  trivial
theorem due_call {NL : Nat} {nv : Array Value} {nc : Nat} {names : List Str} (hn : Strs names nv) (O : NamesOk names) (hz6 : names.length ≤ 6) (hr : ∀ p ∈ rest, p.1 < NL)
    (C : Cx 40 w p loose mean mg mb dp un cs [] A₀ base h₀ L m s.heap ((NL, listOf nv nc) :: rest))
    (hret : ∀ (RL TO CL LE : Nat) led h' tk' d, Fr h₀ L h' m → News h₀ L h' led → (∀ p ∈ (NL, listOf nv nc) :: rest, p ∈ led) →
      (∀ h : Heap, (∀ p ∈ led, h.get? p.1 = some p.2) → Reads h (.ref RL) (dueD names) [RL, CL, LE, TO]) → Q (.ref RL) { s with heap := h', toks := tk', drawn := d }) :
    wpAny (model prog w) (ktrTop dp un gd cn cs L a ccd [] []) (call (.ref 937) [.ref NL]) Q E s := by
  obtain ⟨B, F, X, N, T0, hk0, hd0, hu⟩ := C
  walk_at "ENTERSC"
  rename Fr _ _ _ _ => F1
  rename Below _ _ _ _ => B1
  rename Frag.In _ _ => X1
  rename Top _ _ _ _ _ _ => T1
  rename News _ _ _ _ => N1
  rename KtsDicts _ _ => D1
  rename NL < _ ∧ _ => l1
  rename_i g' L' h' tk' _ oA oB oC oD dA dB dC dD
  have F2 : Fr g' L' h' (mdu (some (.ref NL)) none none none none none none none) := Fr.cast (show Fr g' L' h' (fun z => if z = Str.ofString "names" then some (.ref NL) else none) from F1) fun z => by simp [mdu]
  clear F1
  have Y : Ty 8 w p loose mean mg mb dp un gd cn cs L a ccd [] [] base g' := ⟨hk0, by (first | lia | omega), by (first | lia | omega), B1, X1, T1⟩
  refine wpAny_mono (E := fun _ _ => False) (due_body hn O hz6 dD dC dB dA l1.1 (of_allLt l1.2) Y F2 N1 fun RL TO CL LE led m' h2 tk2 d F3 N3 hled hR => leaveS0_ F3 N3 .refl fun FF NN => hret RL TO CL LE led _ _ d FF NN hled hR) (fun f s₂ hh => hh) (fun _ _ h => h.elim)
end
end
section
set_option tactic.hygienic false
section
variable {prog : Program} {w : World} {p : Program} {loose : List Str} {mean : ExcName → Option Value} {mg mb : Str → Option Value} {dp un : Nat} {gd : Option (List Code)} {cn : Str} {cs : Scope} {a : Addr} {ccd : Value} {cl : List (Str × Addr)} {outer : List Env} {A₀ : Around} {base h₀ : Heap} {L : Addr} {m : Str → Option Value} {news rest : List (Addr × Obj)} {s : Shared} {Q E : Value → Shared → Prop}
open PyProof.Rows.LCg
variable {g : Heap} {L' : Nat} {QF : Flow → Shared → Prop} {tups big : List (Addr × Obj)}
noncomputable def lawB : List Stmt := match st 38 with | .FunctionDef _ _ b .. => b | _ => []
noncomputable def law1 : List Stmt := match lawB with | a :: _ => [a] | _ => []
noncomputable def law2 : List Stmt := match lawB with | _ :: r => r | _ => []
theorem lawB_is : lawB = law1 ++ law2 := by rfl
noncomputable def lawScope : Scope := match st 38 with | .FunctionDef _ _ _ _ _ _ sc .. => sc | _ => default
noncomputable def law9 : Str := Str.ofString "law"
noncomputable def ysOf (ns : List Int) : List Nat := (ns.take 3 ++ [0, 1]).map fun x : Int => (x.fmod 96).toNat
theorem ysOf_eq (ns : List Int) : (ns.take 3 ++ [0, 1]).map (fun x : Int => x.fmod 96) = (ysOf ns).map (fun y => ((y : Nat) : Int)) := by
  unfold ysOf
  rw [List.map_map]
  refine List.map_congr_left fun x _ => ?_
  exact (Int.toNat_of_nonneg (Int.fmod_nonneg_of_pos x (b := 96) (by decide))).symm
theorem ysOf_lt (ns : List Int) : ∀ y ∈ ysOf ns, y < 96 := by
  intro y hy
  obtain ⟨x, _, rfl⟩ := List.mem_map.mp hy
  have h1 := Int.fmod_nonneg_of_pos x (b := 96) (by decide)
  have h2 := Int.fmod_lt_of_pos x (b := 96) (by decide)
  show (Int.fmod x 96).toNat < 96
  first | k_extra "OM" | (first | lia | omega)
noncomputable def maw (l D : Option Value) : Str → Option Value := fun z => if z = Str.ofString "script" then l else if z = Str.ofString "book" then D else none
theorem maw_book {l D : Option Value} {v : Value} (z : Str) : (if z = Str.ofString "book" then some v else maw l D z) = maw l (some v) z := by
  by_cases h : z = Str.ofString "book"
  · subst h; rfl
  · simp only [maw, if_neg h]
theorem wd_KR1_67 : True := by
  k_with "call ref" => (k_here; (with_reducible show wpAny _ _ (call (Value.ref 927) _) _ _ _); refine mark ?_)
  trivial
theorem law1_st {l : Nat} {vs : Array Value} {ns : List Int} (hl : h₀.IsList l vs) (hi : IntsAre vs.toList ns) (hz : ns.length ≤ 63) 
    (B : Below A₀ base [] h₀) (X : (K w.params).In h₀) (T0 : Top p loose mean mg mb h₀) (hd0 : dp + 60 < recursionLimit) (hun : un + 6000 < cLine)
    (F : Fr h₀ L s.heap (maw (some (.ref l)) none)) (N : News h₀ L s.heap [])
    (hq : ∀ (D : Nat) oD kvs rest h' tk', oD.IsDictOf (strKind prog w) kvs → BookV (bookOf (ysOf ns)) kvs → (D == sysModules) = false → (∀ p ∈ rest, p.1 < D) → Fr h₀ L h' (maw (some (.ref l)) (some (.ref D))) → News h₀ L h' ((D, oD) :: rest) → QF .next { s with heap := h', toks := tk' }) :
    wpAny (model prog w) (ktrTop dp un gd law9 lawScope L a ccd [] []) (execs law1 (envOf law9 lawScope L a ccd)) QF (fun _ _ => False) s := by
  have hk : lawScope.kind = .function := by rfl
  k_steps
  unfold Marked
  rename_i D1 w1 h1 I1 C1 L1 l1 l2 h2 l3 D3 w3 h3 F1 N1 I3 l5
  obtain ⟨l6, l7⟩ := l5
  refine lr_call (ys := ysOf ns) (rest := [(l2, listOf #[Value.int 0 (s.toks + 1), Value.int 1 (s.toks + 1 + 1)] 0), (D1, listOf w1.toArray 0)]) (by simpa using I3) (ysOf_eq ns) (ysOf_lt ns) ?_ ?_ ⟨B, F1, X, N1, T0, hk, by (first | lia | omega), by (first | lia | omega)⟩ fun D oD kvs h' tk' hd9 hbk lo hlt F2 N2 => ?_
  · rw [List.length_append, List.length_take]
    simp only [List.length_cons, List.length_nil]
    first | k_extra "OM" | (first | lia | omega)
  · intro p hp
    revert p hp
    refine allP_cons ?_ (allP_cons ?_ allP_nil)
    · exact l6
    · exact l7
  · clear F1 N1
    k_steps
    rename Fr _ _ _ _ => F3
    rename News _ _ _ _ => N3
    refine hq D oD kvs _ _ _ hd9 hbk lo ?_ (Fr.cast F3 maw_book) N3
    intro p hp
    revert p hp
    refine allP_cons ?_ (allP_cons ?_ (allP_cons ?_ allP_nil))
    · exact hlt
    · exact Nat.lt_trans l6 hlt
    · exact Nat.lt_trans l7 hlt
theorem list_keysK {A : Around} {d : Nat} {o : Obj} {kvs : List (Str × Value)} {Q : Value → Shared → Prop} {news : List (Addr × Obj)} (hh : A.handled = none) (F : Fr h₀ L s.heap m) (N : News h₀ L s.heap news) (hp : (d, o) ∈ news) (hd : o.IsDictOf (PySem.strKind prog w) kvs) (lo : (d == sysModules) = false) (hn : kvs.length ≤ 100)
    (h : ∀ (B : Nat) bv c h' tk, Strs (kvs.map (·.1)) bv → (∀ q ∈ news, q.1 < B) → Fr h₀ L h' m → News h₀ L h' ((B, listOf bv c) :: news) → Q (.ref B) { s with heap := h', toks := tk }) :
    wpAny (model prog w) A (call (.type "list") [.ref d]) Q E s := by
  obtain ⟨ep, hat⟩ := (kda_dict N hp hd).dictAt
  refine kdl_N (kdl_dict (knd := PySem.strKind prog w) (kvs := kvs) (ep := ep) lo) hh F N hat (kdl_size (by first | k_extra "OM" | (first | lia | omega))) fun B c h' tk vs F' N' l1 hl hv => ?_
  refine h B vs.toArray c h' tk ?_ l1 F' N'
  show StrsAre vs _
  have key : ∀ (vs : List Value) (kvs : List (Str × Value)), vs.length = kvs.length → (∀ (j : Nat) (v : Value), vs[j]? = some v → ∃ (k : Str) (x : Value), kvs[j]? = some (k, x) ∧ ∃ t : Tok, v = Value.str k t) → StrsAre vs (kvs.map (·.1)) := by
    intro vs
    induction vs with
    | nil =>
      intro kvs hl hv
      cases kvs with
      | nil => exact .nil
      | cons => simp at hl
    | cons v vs ih =>
      intro kvs hl hv
      cases kvs with
      | nil => simp at hl
      | cons q r =>
        obtain ⟨k, x, e, t, ev⟩ := hv 0 v rfl
        simp only [List.getElem?_cons_zero, Option.some.injEq] at e
        subst e
        subst ev
        exact .cons _ _ (ih r (by simpa using hl) fun j u hu => by simpa using hv (j + 1) u (by simpa using hu))
  refine key vs kvs hl fun j u hu => ?_
  obtain ⟨k, x, hx, hk⟩ := hv j u hu
  exact ⟨k, x, hx, Value.isStrOf_shape hk⟩
theorem wd_KR1_68 : True := by
  k_with "call ref" => (k_here; (with_reducible show wpAny _ _ (call (Value.ref 932) _) _ _ _); refine mark ?_)
  k_with "call ref" => (k_here; (with_reducible show wpAny _ _ (call (Value.ref 937) _) _ _ _); refine mark ?_)
  k_with "call type:list" => (k_here; (with_reducible show wpAny _ _ (call (Value.type "list") [Value.ref _]) _ _ _); refine mark ?_)
  k_with "compareOp Eq ref ref" => (k_here; (with_reducible show wpAny _ _ (compareOp _ (Value.ref _) (Value.ref _)) _ _ _); refine mark ?_)
  trivial
theorem law2_st {l D : Nat} {oD : Obj} {bk : List (Str × Str)} {Ws : List (List Str)} {kvs : List (Str × Value)} (O : BookOk bk Ws) (O2 : NamesOk (bk.map (·.1))) (h6 : (bk.map (·.1)).length ≤ 6)
    (heq : toldD (Ws.map (leftOf (bk.map (·.1)))) Ws = dueD (bk.map (·.1))) (hsh : SeqAt.shaped (dueD (bk.map (·.1))) = true)
    (hd9 : oD.IsDictOf (strKind prog w) kvs) (hbk : BookV bk kvs) (lo : (D == sysModules) = false) (hr : ∀ p ∈ rest, p.1 < D)
    (B : Below A₀ base [] h₀) (X : (K w.params).In h₀) (T0 : Top p loose mean mg mb h₀) (XB : (K w.params).In base) (TB : Top p loose mean mg mb base) (hd0 : dp + 60 < recursionLimit) (hun : un + 6000 < cLine)
    (F : Fr h₀ L s.heap (maw (some (.ref l)) (some (.ref D)))) (N : News h₀ L s.heap ((D, oD) :: rest))
    (hq : ∀ h' tk' d, Fr h₀ L h' (maw (some (.ref l)) (some (.ref D))) → QF (.ret (.bool true)) { s with heap := h', toks := tk', drawn := d }) :
    wpAny (model prog w) (ktrTop dp un gd law9 lawScope L a ccd [] []) (execs law2 (envOf law9 lawScope L a ccd)) QF (fun _ _ => False) s := by
  have hk : lawScope.kind = .function := by rfl
  k_steps
  unfold Marked
  refine told_call O hd9 hbk lo hr XB TB ⟨B, F, X, N, T0, hk, by (first | lia | omega), by (first | lia | omega)⟩ fun RL TO SA LE led h1 tk1 d1 F1 N1 hled hR => ?_
  clear F N
  k_steps
  unfold Marked
  refine list_keysK rfl F1 N1 (hled _ (.head _)) hd9 lo (by have := congrArg List.length hbk.keys; simp only [List.length_map] at this h6; (first | lia | omega)) fun NL bv bc h2 tk2 hst hlt F2 N2 => ?_
  rw [hbk.keys] at hst
  clear F1
  k_steps
  unfold Marked
  refine due_call hst O2 h6 hlt ⟨B, F2, X, N2, T0, hk, by (first | lia | omega), by (first | lia | omega)⟩ fun RL2 TO2 CL LE2 led2 h3 tk3 d3 F3 N3 hled3 hR3 => ?_
  clear F2
  k_steps
  unfold Marked
  refine eq_dataH (hR h3 fun p hp => (N3 p (hled3 p (.tail _ hp))).1) (hR3 h3 fun p hp => (N3 p hp).1) (by rw [heq]; exact hsh) hsh (by show un + 64 < cLine; (first | lia | omega)) ?_
  rw [heq, SeqAt.eqv_refl _ (SeqAt.canLay_of_shaped hsh)]
  k_steps
  exact hq _ _ _ F3
end
/-- what the plain law owes -/
noncomputable def PureAll : Prop := ∀ ns : List Int, ∃ Ws, BookOk (bookOf (ysOf ns)) Ws ∧ NamesOk ((bookOf (ysOf ns)).map (·.1)) ∧ ((bookOf (ysOf ns)).map (·.1)).length ≤ 6 ∧
  toldD (Ws.map (leftOf ((bookOf (ysOf ns)).map (·.1)))) Ws = dueD ((bookOf (ysOf ns)).map (·.1)) ∧ SeqAt.shaped (dueD ((bookOf (ysOf ns)).map (·.1))) = true
end
section
open PySem PySem.W PySem.Calls PyProof.Rows PySem.Spec PySem.SeqAt
set_option tactic.hygienic false
noncomputable def codes (x : Str) : List Nat := x.cps.toList
theorem toS_codes (x : Str) : toS (codes x) = x := by
  obtain ⟨a⟩ := x
  unfold toS codes
  simp
theorem codes_app (a b : Str) : codes (a ++ b) = codes a ++ codes b := by
  show (a.cps ++ b.cps).toList = _
  rw [Array.toList_append]
  rfl
theorem codes_len (a : Str) : a.length = (codes a).length := by
  show a.cps.size = a.cps.toList.length
  rw [Array.length_toList]
theorem row_lex : ∀ y < 96, lexs 60 3 (codes (rowAt y)) = some [codes (nmAt y)] ∧ lexs 60 3 (35 :: codes (rowAt y)) = some [] ∧ (codes (rowAt y)).getLast? = some 10 ∧ (rowAt y).length ≤ 50 ∧ nmAt y ∈ names8 := by decide +kernel
theorem ends_of {l : List Nat} (h : l.getLast? = some 10) : Ends l := by
  obtain ⟨p, hp⟩ := List.getLast?_eq_some_iff.mp h
  exact .inr ⟨p, hp⟩
theorem hash_codes : codes (Str.ofString "#") = [35] := by decide +kernel
structure Rowed (bk : List (Str × Str)) : Prop where
  of : ∀ e ∈ bk, ∃ y, y < 96 ∧ e = (nmAt y, rowAt y)
  nd : (bk.map (·.1)).Nodup
theorem Rowed.add {bk : List (Str × Str)} (h : Rowed bk) {y : Nat} (hy : y < 96) : Rowed (bookAdd bk y) ∧ (bookAdd bk y).length ≤ bk.length + 1 := by
  unfold bookAdd
  cases q : bk.any (fun e => decide (e.1 = nmAt y)) with
  | true => exact ⟨by rw [if_pos rfl]; exact h, by rw [if_pos rfl]; (first | lia | omega)⟩
  | false =>
    rw [if_neg (by simp)]
    refine ⟨⟨fun e he => ?_, ?_⟩, by simp⟩
    · rcases List.mem_append.mp he with r | r
      · exact h.of e r
      · exact ⟨y, hy, List.mem_singleton.mp r⟩
    · rw [List.map_append]
      refine List.nodup_append.mpr ⟨h.nd, by simp, ?_⟩
      intro a ha b hb
      simp only [List.map_cons, List.map_nil, List.mem_singleton] at hb
      subst hb
      obtain ⟨e, he, rfl⟩ := List.mem_map.mp ha
      have := List.any_eq_false.mp q e he
      simpa using this
theorem rowed_book : ∀ (ys : List Nat) (bk : List (Str × Str)), (∀ y ∈ ys, y < 96) → Rowed bk → Rowed (ys.foldl bookAdd bk) ∧ (ys.foldl bookAdd bk).length ≤ bk.length + ys.length
  | [], bk, _, h => ⟨h, by simp⟩
  | y :: r, bk, hy, h => by
    obtain ⟨h1, h2⟩ := h.add (hy y (.head _))
    obtain ⟨h3, h4⟩ := rowed_book r (bookAdd bk y) (fun z hz => hy z (.tail _ hz)) h1
    refine ⟨h3, ?_⟩
    rw [List.foldl_cons, List.length_cons]
    (first | lia | omega)
theorem book_rowed (ns : List Int) : Rowed (bookOf (ysOf ns)) ∧ (bookOf (ysOf ns)).length ≤ 5 := by
  obtain ⟨h1, h2⟩ := rowed_book (ysOf ns) [] (ysOf_lt ns) ⟨(fun e he => by cases he), .nil⟩
  refine ⟨h1, Nat.le_trans h2 ?_⟩
  unfold ysOf
  rw [List.length_map, List.length_append, List.length_take]
  simp only [List.length_cons, List.length_nil]
  (first | lia | omega)
theorem pages_snoc (bk : List (Str × Str)) (e : Str × Str) : pagesOf (bk ++ [e]) = pageAdd (pagesOf bk) e := by
  unfold pagesOf
  rw [List.foldl_append]
  rfl
theorem pages_len (bk : List (Str × Str)) : (pagesOf bk).length = 2 ^ bk.length := by
  induction bk using snoc_ind with
  | h0 => rfl
  | h1 l a ih =>
    rw [pages_snoc, pageAdd, List.length_append, List.length_map, List.length_map, ih, List.length_append, List.length_singleton, Nat.pow_succ]
    (first | lia | omega)
theorem choices_len1 (names : List Str) : (choicesOf names).length = 2 ^ names.length := by
  have := choices_len names [[]]
  show (List.foldl chAdd [[]] names).length = _
  rw [this]
  simp
theorem pages_lex (bk : List (Str × Str)) : (∀ e ∈ bk, ∃ y, y < 96 ∧ e = (nmAt y, rowAt y)) → ∀ (i : Nat) (pg : Str), (pagesOf bk)[i]? = some pg →
    ∃ ch, (choicesOf (bk.map (·.1)))[i]? = some ch ∧ LexR (codes pg) (ch.map codes) ∧ Ends (codes pg) ∧ pg.length ≤ bk.length * 51 := by
  induction bk using snoc_ind with
  | h0 =>
    intro _ i pg hp
    have h1 : i < 1 := (List.getElem?_eq_some_iff.mp hp).1
    obtain rfl : i = 0 := by (first | lia | omega)
    have h2 : Str.ofString "" = pg := by simpa [pagesOf] using hp
    subst h2
    have h3 : codes (Str.ofString "") = [] := by decide +kernel
    exact ⟨[], rfl, by rw [h3]; exact .nil, by rw [h3]; exact .inl rfl, by rw [codes_len, h3]; simp⟩
  | h1 l e ih =>
    intro hof i pg hp
    obtain ⟨y, hy, rfl⟩ := hof e (by simp)
    obtain ⟨r1, r2, r3, r4, _⟩ := row_lex y hy
    have he := ends_of r3
    have he2 : Ends (35 :: codes (rowAt y)) := by
      rcases he with he | ⟨p, he⟩
      · rw [he] at r3; simp at r3
      · exact .inr ⟨35 :: p, by rw [he]; rfl⟩
    have ih' := ih fun e he => hof e (List.mem_append_left _ he)
    rw [pages_snoc, pageAdd] at hp
    rw [List.map_append, List.map_cons, List.map_nil, choices_snoc]
    have hlen : (choicesOf (l.map (·.1))).length = (pagesOf l).length := by rw [choices_len1, pages_len, List.length_map]
    rcases Nat.lt_or_ge i (pagesOf l).length with hi | hi
    · rw [List.getElem?_append_left (by rw [List.length_map]; exact hi), List.getElem?_map] at hp
      obtain ⟨q, hq, rfl⟩ := Option.map_eq_some_iff.mp hp
      obtain ⟨ch, h1, h2, h3, h4⟩ := ih' i q hq
      refine ⟨ch, by rw [List.getElem?_append_left (by rw [hlen]; exact hi)]; exact h1, ?_, ?_, ?_⟩
      · rw [codes_app, codes_app, hash_codes, List.append_assoc]
        have := h2.app h3 (show LexR ([35] ++ codes (rowAt y)) [] from ⟨60, 3, r2⟩)
        rwa [List.append_nil] at this
      · rw [codes_app, codes_app, hash_codes, List.append_assoc]
        exact h3.app he2
      · rw [codes_len, codes_app, codes_app, hash_codes, List.length_append, List.length_append, ← codes_len, ← codes_len]
        simp only [List.length_append, List.length_cons, List.length_nil]
        (first | lia | omega)
    · rw [List.getElem?_append_right (by rw [List.length_map]; exact hi), List.getElem?_map, List.length_map] at hp
      obtain ⟨q, hq, rfl⟩ := Option.map_eq_some_iff.mp hp
      obtain ⟨ch, h1, h2, h3, h4⟩ := ih' _ q hq
      refine ⟨ch ++ [nmAt y], by rw [List.getElem?_append_right (by rw [hlen]; exact hi), List.getElem?_map, hlen, h1]; rfl, ?_, ?_, ?_⟩
      · rw [codes_app, List.map_append]
        exact h2.app h3 ⟨60, 3, r1⟩
      · rw [codes_app]
        exact h3.app he
      · rw [codes_len, codes_app, List.length_append, ← codes_len, ← codes_len]
        simp only [List.length_append, List.length_cons, List.length_nil]
        (first | lia | omega)
theorem nm_facts : ∀ a ∈ names8, a ≠ Str.ofString "<string>" ∧ PyData.strOk a = true ∧ a.length ≤ 50 ∧ (parts a).length ≤ 50 ∧ (parts a).all PyData.strOk = true := by decide +kernel
theorem nm_pairs : ∀ a ∈ names8, ∀ b ∈ names8, (decide (b = a) || PySem.Txt.startswith b (dotted a)) = belowB a b ∧ (belowB a b = true → belowB b a = true → a = b) := by decide +kernel
theorem below_tr {a b c : Str} (h1 : belowB a b = true) (h2 : belowB b c = true) : belowB a c = true := by
  unfold belowB at *
  rw [decide_eq_true_iff] at *
  have p1 : parts a <+: parts b := List.prefix_iff_eq_take.mpr h1.symm
  have p2 : parts b <+: parts c := List.prefix_iff_eq_take.mpr h2.symm
  exact (List.prefix_iff_eq_take.mp (p1.trans p2)).symm
theorem canLay_map {α : Type} (f : α → PyData) : ∀ {l : List α}, (∀ x ∈ l, PyData.canLay0 (f x) = true) → PyData.canLayAll0 (l.map f) = true
  | [], _ => rfl
  | a :: l, h => by
    rw [List.map_cons, PyData.canLayAll0, h a (.head _), canLay_map f fun x hx => h x (.tail _ hx)]
    rfl
theorem depth_map {α : Type} (f : α → PyData) (n : Nat) : ∀ {l : List α}, (∀ x ∈ l, PyData.depth (f x) ≤ n) → PyData.depthAll (l.map f) ≤ n
  | [], _ => Nat.zero_le _
  | a :: l, h => by
    rw [List.map_cons, PyData.depthAll]
    exact Nat.max_le.mpr ⟨h a (.head _), depth_map f n fun x hx => h x (.tail _ hx)⟩
theorem wd_lay {W : List Str} (h : W.all PyData.strOk = true) : PyData.canLay0 (wdD W) = true := by
  simp [wdD, PyData.canLay0, canLay_strs W h]
theorem wd_depth (W : List Str) : PyData.depth (wdD W) ≤ 1 := by
  simp [wdD, PyData.depth, depth_strs]
theorem out_depth (o : Nat × Nat × List Str) : PyData.depth (outD o) ≤ 2 := by
  have := wd_depth o.2.2
  simp only [outD, PyData.depth, PyData.depthAll]
  (first | lia | omega)
theorem pure_all : PureAll := by
  intro ns
  obtain ⟨R, hz⟩ := book_rowed ns
  generalize bookOf (ysOf ns) = bk at R hz
  have hz2 : (bk.map (·.1)).length ≤ 5 := by rw [List.length_map]; exact hz
  have hm : ∀ nm ∈ bk.map (·.1), nm ∈ names8 := fun nm h => by
    obtain ⟨e, he, rfl⟩ := List.mem_map.mp h
    obtain ⟨y, hy, rfl⟩ := R.of e he
    exact (row_lex y hy).2.2.2.2
  have O : Ord (bk.map (·.1)) := ⟨R.nd, fun a _ b _ c _ h1 h2 => below_tr h1 h2, fun a ha b hb => (nm_pairs a (hm a ha) b (hm b hb)).2⟩
  have hok : (bk.map (·.1)).all PyData.strOk = true := List.all_eq_true.mpr fun x hx => (nm_facts x (hm x hx)).2.1
  have hsub : ∀ ch ∈ choicesOf (bk.map (·.1)), ∀ x ∈ ch, x ∈ bk.map (·.1) := fun ch hc x hx => (choices_sub _ ch hc).subset hx
  have hcok : ∀ ch ∈ choicesOf (bk.map (·.1)), ch.all PyData.strOk = true := fun ch hc => List.all_eq_true.mpr fun x hx => (List.all_eq_true.mp hok) x (hsub ch hc x hx)
  have hook : ∀ ch, (outOf (bk.map (·.1)) ch).all PyData.strOk = true := fun ch => all_filter hok
  have hleft : ∀ ch ∈ choicesOf (bk.map (·.1)), leftOf (bk.map (·.1)) ch = outOf (bk.map (·.1)) ch := fun ch hc => by
    unfold leftOf outOf
    refine List.filter_congr fun nm hn => ?_
    rw [Bool.eq_iff_iff, outB_iff hn]
    unfold outP
    rw [Bool.or_eq_true, decide_eq_true_iff, List.any_eq_true]
    constructor
    · rintro (h | ⟨k, hk, h⟩)
      · exact ⟨nm, h, below_refl nm⟩
      · refine ⟨k, hk, ?_⟩
        rw [← (nm_pairs k (hm k (hsub ch hc k hk)) nm (hm nm hn)).1, h, Bool.or_true]
    · rintro ⟨k, hk, h⟩
      rw [← (nm_pairs k (hm k (hsub ch hc k hk)) nm (hm nm hn)).1, Bool.or_eq_true, decide_eq_true_iff] at h
      rcases h with rfl | h
      · exact .inl hk
      · exact .inr ⟨k, hk, h⟩
  have hmap : (choicesOf (bk.map (·.1))).map (leftOf (bk.map (·.1))) = (choicesOf (bk.map (·.1))).map (outOf (bk.map (·.1))) := List.map_congr_left hleft
  have hcd := cdap_due O
  have h32 : ∀ n, n ≤ 5 → 2 ^ n ≤ 32 := fun n hn => Nat.pow_le_pow_right (n := 2) (by (first | lia | omega)) hn
  have hcl : (choicesOf (bk.map (·.1))).length ≤ 32 := by rw [choices_len1]; exact h32 _ hz2
  have hol : (oftOf (bk.map (·.1)) (choicesOf (bk.map (·.1))) ++ nevOf (bk.map (·.1)) (choicesOf (bk.map (·.1)))).length ≤ 64 := by
    rw [List.length_append]
    have h1 := oft_le (bk.map (·.1)) (choicesOf (bk.map (·.1)))
    have h2 := nev_le (bk.map (·.1)) (choicesOf (bk.map (·.1)))
    (first | lia | omega)
  refine ⟨choicesOf (bk.map (·.1)), ⟨fun k hk => ?_, fun k hk q hq => ?_, fun e he => ?_, R.nd, fun k hk => (nm_facts k (hm k hk)).1, hok, ?_, fun i pg hp => ?_, ?_, by (first | lia | omega)⟩, ⟨by (first | lia | omega), fun nm h => ?_, fun nm h => ?_, fun nm h => (nm_facts nm (hm nm h)).2.2.2.2, hok, R.nd⟩, by (first | lia | omega), ?_, ?_⟩
  · rw [pages_len, List.length_take]
    have := h32 (min k bk.length) (by (first | lia | omega))
    (first | lia | omega)
  · obtain ⟨i, hi⟩ := List.mem_iff_getElem?.mp hq
    obtain ⟨ch, _, _, _, h⟩ := pages_lex (bk.take k) (fun e he => R.of e (List.mem_of_mem_take he)) i q hi
    rw [List.length_take] at h
    (first | lia | omega)
  · obtain ⟨y, hy, rfl⟩ := R.of e he
    exact (row_lex y hy).2.2.2.1
  · rw [choices_len1, pages_len, List.length_map]
  · obtain ⟨ch, h1, ⟨n, k, h2⟩, _, h4⟩ := pages_lex bk R.of i pg hp
    have hc := List.mem_of_getElem? h1
    refine ⟨ch, n, k, ch.map codes, h1, by (first | lia | omega), h2, ?_, ?_, hcok ch hc, fun x hx => ?_⟩
    · rw [List.map_map]
      conv => rhs; rw [← List.map_id ch]
      exact List.map_congr_left fun x _ => toS_codes x
    · have := (choices_sub _ ch hc).length_le
      (first | lia | omega)
    · have := (nm_facts x (hm x (hsub ch hc x hx))).2.2.1
      (first | lia | omega)
  · rw [hmap, hcd]
    (first | lia | omega)
  · have := (nm_facts nm (hm nm h)).2.2.1
    (first | lia | omega)
  · have := (nm_facts nm (hm nm h)).2.2.2.1
    (first | lia | omega)
  · unfold toldD dueD
    rw [hmap, hcd]
  · unfold SeqAt.shaped dueD
    rw [Bool.and_eq_true, decide_eq_true_iff]
    constructor
    · have e1 : PyData.canLayAll0 ((choicesOf (bk.map (·.1))).map wdD) = true := canLay_map _ fun ch hc => wd_lay (hcok ch hc)
      have e2 : PyData.canLayAll0 (((choicesOf (bk.map (·.1))).map (outOf (bk.map (·.1)))).map wdD) = true := canLay_map _ fun ch hc => by
        obtain ⟨c, _, rfl⟩ := List.mem_map.mp hc
        exact wd_lay (hook c)
      have e3 : PyData.canLayAll0 ((oftOf (bk.map (·.1)) (choicesOf (bk.map (·.1))) ++ nevOf (bk.map (·.1)) (choicesOf (bk.map (·.1)))).map outD) = true := canLay_map _ fun o ho => by
        have hw : o.2.2.all PyData.strOk = true := by
          rcases List.mem_append.mp ho with h | h
          · obtain ⟨c, hc, h⟩ := List.mem_flatMap.mp h
            unfold oftStep at h
            split at h
            · cases h
            · split at h
              · rw [List.mem_singleton.mp h]; exact hook c
              · cases h
          · obtain ⟨c, hc, h⟩ := List.mem_flatMap.mp h
            unfold nevStep at h
            split at h
            · cases h
            · rw [List.mem_singleton.mp h]; exact hcok c hc
        simp [outD, PyData.canLay0, PyData.canLayAll0, wd_lay hw]
      simp only [PyData.canLay0, PyData.canLayAll0, e1, e2, e3, Bool.and_true]
    · have e1 := depth_map wdD 2 (l := choicesOf (bk.map (·.1))) fun ch _ => Nat.le_succ_of_le (wd_depth ch)
      have e2 := depth_map wdD 2 (l := (choicesOf (bk.map (·.1))).map (outOf (bk.map (·.1)))) fun ch _ => Nat.le_succ_of_le (wd_depth ch)
      have e3 := depth_map outD 2 (l := oftOf (bk.map (·.1)) (choicesOf (bk.map (·.1))) ++ nevOf (bk.map (·.1)) (choicesOf (bk.map (·.1)))) fun o _ => out_depth o
      simp only [PyData.depth, PyData.depthAll]
      (first | lia | omega)
end
section
open PyProof.Rows.LCg
theorem all_said (PA : PureAll) : rr.Holds := head (by
  intro w s₀ s₁ mg mb G Y fa o pm cd doc dV kV ho hd hcd hD hmg hg args vals as hpre hlay hrd hwl hlo
  have KX := kIn_of Y
  have X := (Ground.X G).1
  have V := (Ground.X G).2
  refine Ground.open G ?_
  intro T B D TE TW
  try (refine guard_noD D (by decide +kernel) ?_; clear D)
  obtain ⟨_, _, M⟩ := bmod_of_top T
  have TA := at_of_top T
  try (obtain ⟨_, _, he, B0⟩ := based_of_top T rfl hmg ho hd; have he' : cd = _ := he; subst he'; clear he)
  clear hmg
  wrow_args hpre hlay hrd hwl hlo
  first | refine callC_kw (enter_call ?_) | refine enter_call ?_ | refine callC_kw (enter_callW ?_) | refine enter_callW ?_ | w_how
  w_top on
  try refine codeAny_mono ?_ (fun _ _ g => GoodW.toG g)
  have K0 := below_caller (Top.heap T)
  w_call any ho hd hcd hD T F
  clear hd TA
  k_drop
  rename_i w9 w8 w7 w6 ns hs hlay0 hL1 hr1 hl2 w4 w3 l vs w1 hL ra wl r0 hI hr hc1 hc2 h₁ N0
  obtain ⟨Ws, O, O2, h6, heq, hsh⟩ := PA ns
  have F1 : Fr s₁.heap s₁.heap.objs.size h₁ (maw (some (.ref l)) none) := Fr.cast F fun z => by
    simp only [maw, List.reverse_singleton, List.lookup]
    by_cases hz : z = Str.ofString "script"
    · subst hz; rfl
    · rw [if_neg hz]
      have : (z == Str.ofString "script") = false := by simpa using hz
      rw [this]
      show (none : Option Value) = if z = Str.ofString "book" then none else none
      split <;> rfl
  clear F
  have hlen : ns.length ≤ 63 := by (first | lia | omega)
  have hdp : (callerA.deeper (envOf law9 lawScope s₁.heap.objs.size fa (Value.ref w7))).depth + 60 < recursionLimit := by ktr_room
  have hun9 : (callerA.deeper (envOf law9 lawScope s₁.heap.objs.size fa (Value.ref w7))).units + 6000 < cLine := by ktr_units
  have hd9 : dd.name = law9 := by rfl
  have KB : Below callerA s₁.heap [] s₁.heap := K0
  refine wpAny_mono (Q := fun f s' => f = .ret (.bool true) ∧ ∃ m', Fr s₁.heap s₁.heap.objs.size s'.heap m' ∧ s'.gens = s₁.gens ∧ s'.os = s₁.os) (E := fun _ _ => False) ?_ (fun f s' hf => ?_) (fun _ _ h => h.elim)
  · show wpAny _ (callerA.deeper (envOf law9 lawScope s₁.heap.objs.size fa (Value.ref w7))) (execs lawB (envOf law9 lawScope s₁.heap.objs.size fa (Value.ref w7))) _ _ _
    rw [lawB_is]
    refine wpAny_mono (execs_app _ _ (law1_st (dp := (callerA.deeper (envOf law9 lawScope s₁.heap.objs.size fa (Value.ref w7))).depth) (un := (callerA.deeper (envOf law9 lawScope s₁.heap.objs.size fa (Value.ref w7))).units) (gd := (callerA.deeper (envOf law9 lawScope s₁.heap.objs.size fa (Value.ref w7))).guards) hL (by simpa using hI) hlen KB KX T ?_ ?_ F1 N0 fun D oD kvs rest h' tk' hdo hbk lo hrr F2 N2 => ?_)) (fun _ _ h => h) (fun _ _ h => h)
    · exact hdp
    · exact hun9
    · exact law2_st O O2 h6 heq hsh hdo hbk lo hrr KB KX T KX T hdp hun9 F2 N2 fun h2 tk2 d2 F3 => ⟨rfl, _, F3, rfl, rfl⟩
  · obtain ⟨rfl, m', F3, hg3, ho3⟩ := hf
    exact goodW_bool F3 (by rw [hg3]; exact hg) (fun cls => by rfl) (by wrow_post) ho3)
end
end Mine
set_option maxRecDepth 100000 in
theorem PySem.Challenge.cw_kt0073_01_holds : PySem.Challenge.rw_kt0073_01.Holds := by
  exact Mine.all_said Mine.pure_all
