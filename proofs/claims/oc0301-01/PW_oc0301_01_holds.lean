import PyProof.Rows.All
import Wide.All
import OpenK.AllK
import Wide.FinOn
import PySem.Challenge.RW_oc0301_01
set_option Elab.async false
set_option compiler.extract_closed false
section TextHead
open PySem PySem.W PyProof.Rows PySem.Calls
set_option maxRecDepth 100000
set_option maxHeartbeats 8000000
namespace Mine
/-! ## the head: the text's top is run once, over a heap laid as a tree -/
noncomputable def bt? : List Obj → BT → Nat → Option BT
  | [], t, _ => some t
  | o :: l, t, n => match ((t.ins n o).get n).isSome with
    | true => bt? l (t.ins n o) (n + 1)
    | false => none
theorem bt?_spec (life : Life) : ∀ (l : List Obj) (t : BT) (n : Nat) (t' : BT), bt? l t n = some t' →
    (absHeap t' (n + l.length) life).objs.toList = (absHeap t n life).objs.toList ++ l
  | [], t, n, t', h => by cases h; simp
  | o :: l, t, n, t', h => by
    unfold bt? at h
    split at h
    · rename_i e
      have ih := bt?_spec life l _ _ _ h
      rw [List.length_cons, show n + (l.length + 1) = n + 1 + l.length by omega, ih, absHeap_ins e]
      show ((absHeap t n life).objs.push o).toList ++ l = _
      simp
    · cases h
theorem bt?_abs {s : Shared} {T : BT} (h : bt? s.heap.objs.toList .nil 0 = some T) : (⟨T, s.heap.objs.size, s.heap.life, s.gens, s.drawn, s.toks, s.os⟩ : SharedT).abs = s := by
  have e := bt?_spec s.heap.life _ _ _ _ h
  obtain ⟨⟨objs, life⟩, gens, drawn, toks, os⟩ := s
  unfold SharedT.abs
  dsimp only at e ⊢
  have e0 : (absHeap BT.nil 0 life).objs.toList = [] := rfl
  rw [e0, List.nil_append, Nat.zero_add, Array.length_toList] at e
  have e1 : (absHeap T objs.size life).objs = objs := Array.toList_inj.mp e
  have e2 : absHeap T objs.size life = ⟨objs, life⟩ := by
    show Heap.mk _ _ = Heap.mk _ _
    exact congrArg (Heap.mk · life) e1
  rw [e2]
noncomputable def goT (ok : Thread → Bool) (stp : SharedT → Thread → Option (SharedT × Thread)) : Nat → SharedT → Thread → Option SharedT
  | 0, _, _ => none
  | n + 1, s, t => match through t with
    | true => some s
    | false => match ok t with
      | false => none
      | true => match stp s t with
        | some (s', t') => goT ok stp n s' t'
        | none => none
theorem goT_of {tb : String → Option Builtin} {p : Program} {w : World} {n₀ : Nat} {ann : Option Value} : ∀ {n : Nat} {s s' : SharedT} {t : Thread}, goT (stepOk n₀ ann) (stepT (denote tb) p w) n s t = some s' → topRun tb p w n₀ ann n s.abs t = some s'.abs
  | 0, _, _, _, h => by cases h
  | n + 1, s, s', t, h => by
    unfold goT at h
    unfold topRun
    cases he : through t with
    | true => rw [he] at h; cases h; rfl
    | false =>
      rw [he] at h
      cases hk : stepOk n₀ ann t with
      | false => rw [hk] at h; cases h
      | true =>
        rw [hk] at h
        cases hs : stepT (denote tb) p w s t with
        | none => rw [hs] at h; cases h
        | some r => obtain ⟨s₂, t₂⟩ := r; rw [hs] at h; dsimp only; rw [stepT_spec hs]; exact goT_of h
/-- the whole of it, as one reckoning -/
noncomputable def pipe (p q : Program) (loose : List Str) (Xt : Shared → Bool) {α : Type} (Yf : Shared → α) (N : Nat) (w : World) :=
  (fencedOpening treeTable p w N).bind fun s₀ => match s₀.heap.isNs mainGlobals && s₀.gens.size == 0 with
    | false => none
    | true => (bt? s₀.heap.objs.toList .nil 0).bind fun T => (goT (stepOk s₀.heap.objs.size (s₀.heap.nsMap mainGlobals "__annotations__")) (stepT (denote treeTable) p w) N ⟨T, s₀.heap.objs.size, s₀.heap.life, s₀.gens, s₀.drawn, s₀.toks, s₀.os⟩ (topStub p)).bind fun s₁ =>
      match staticsOk (importedModules p.main.body) s₀.heap s₁.abs.heap && namesBound p s₁.abs.heap && gensDone s₁.abs && laidKept s₀.heap s₁.abs.heap with
      | true => some (openSeen q loose (importedModules p.main.body) Xt true s₁.abs, Yf s₁.abs)
      | false => none
theorem pipe_of {p q : Program} {loose : List Str} {Xt : Shared → Bool} {α : Type} {Yf : Shared → α} {Ya : World → α} {N : Nat} (h : ∀ w, pipe p q loose Xt Yf N w = some (openGood q loose, Ya w)) : LeftO p q loose Xt Yf Ya N := fun w => by
  have e := h w
  unfold pipe at e
  unfold openEnds
  cases h0 : fencedOpening treeTable p w N with
  | none => rw [h0] at e; cases e
  | some s₀ =>
    rw [h0] at e
    dsimp only [Option.bind] at e ⊢
    unfold topFrom
    cases h1 : s₀.heap.isNs mainGlobals && s₀.gens.size == 0 with
    | false => rw [h1] at e; cases e
    | true =>
      rw [h1] at e
      dsimp only at e ⊢
      cases h2 : bt? s₀.heap.objs.toList .nil 0 with
      | none => rw [h2] at e; cases e
      | some T =>
        rw [h2] at e
        dsimp only at e
        cases h3 : goT (stepOk s₀.heap.objs.size (s₀.heap.nsMap mainGlobals "__annotations__")) (stepT (denote treeTable) p w) N ⟨T, s₀.heap.objs.size, s₀.heap.life, s₀.gens, s₀.drawn, s₀.toks, s₀.os⟩ (topStub p) with
        | none => rw [h3] at e; cases e
        | some s₁ =>
          rw [h3] at e
          have r := goT_of h3
          rw [bt?_abs h2] at r
          rw [r]
          dsimp only [Option.bind] at e ⊢
          cases h4 : staticsOk (importedModules p.main.body) s₀.heap s₁.abs.heap && namesBound p s₁.abs.heap && gensDone s₁.abs && laidKept s₀.heap s₁.abs.heap with
          | false => rw [h4] at e; cases e
          | true => rw [h4] at e; exact e
/-- the text's statements, by their place -/
def st (i : Nat) : Stmt := PySem.Challenge.pw_oc0301_01.main.body.getD i (.Pass default)
def cst (i j : Nat) : Stmt := match st i with
  | .ClassDef _ _ _ b _ _ _ _ _ _ _ => b.getD j (.Pass default)
  | _ => .Pass default
def fArgs : Stmt → Arguments
  | .FunctionDef _ a _ _ _ _ _ _ _ _ => a
  | _ => default
def fBody : Stmt → List Stmt
  | .FunctionDef _ _ b _ _ _ _ _ _ _ => b
  | _ => []
def fScope : Stmt → Scope
  | .FunctionDef _ _ _ _ _ _ s _ _ _ => s
  | _ => default
open PySem.Str (ofString)
/-- the part of the heap behind the top that the walk knows (printed by wip/PrintK.lean) -/
noncomputable def KK (P : Params) : Frag :=
  (nat_lit 3, ⟨(.type "dict"), none, (.dict #[⟨PyData.keyHash P (ofString "__name__"), .str (ofString "__name__") 165, (.str (ofString "law_oc0301_01") 1323)⟩, ⟨PyData.keyHash P (ofString "__doc__"), .str (ofString "__doc__") 166, .none⟩, ⟨PyData.keyHash P (ofString "__package__"), .str (ofString "__package__") 167, .none⟩, ⟨PyData.keyHash P (ofString "__loader__"), .str (ofString "__loader__") 168, (.builtin "__main__.__loader__#opaque")⟩, ⟨PyData.keyHash P (ofString "__spec__"), .str (ofString "__spec__") 169, .none⟩, ⟨PyData.keyHash P (ofString "__annotations__"), .str (ofString "__annotations__") 170, (.ref 6)⟩, ⟨PyData.keyHash P (ofString "__builtins__"), .str (ofString "__builtins__") 171, (.ref 4)⟩, ⟨PyData.keyHash P (ofString "__file__"), .str (ofString "__file__") 173, (.str (ofString "/claim/cut.py") 172)⟩, ⟨PyData.keyHash P (ofString "__cached__"), .str (ofString "__cached__") 174, .none⟩, ⟨PyData.keyHash P (ofString "_sre"), .str (ofString "_sre") 275, (.ref 12)⟩, ⟨PyData.keyHash P (ofString "deque"), .str (ofString "deque") 317, (.type "collections.deque")⟩, ⟨PyData.keyHash P (ofString "_wall"), .str (ofString "_wall") 330, (.ref 44)⟩, ⟨PyData.keyHash P (ofString "_raise_serialization_error"), .str (ofString "_raise_serialization_error") 339, (.ref 51)⟩, ⟨PyData.keyHash P (ofString "_escape_attrib"), .str (ofString "_escape_attrib") 346, (.ref 58)⟩, ⟨PyData.keyHash P (ofString "heappush"), .str (ofString "heappush") 356, (.ref 65)⟩, ⟨PyData.keyHash P (ofString "heappop"), .str (ofString "heappop") 365, (.ref 72)⟩, ⟨PyData.keyHash P (ofString "heapreplace"), .str (ofString "heapreplace") 374, (.ref 79)⟩, ⟨PyData.keyHash P (ofString "heappushpop"), .str (ofString "heappushpop") 382, (.ref 86)⟩, ⟨PyData.keyHash P (ofString "_siftdown"), .str (ofString "_siftdown") 394, (.ref 93)⟩, ⟨PyData.keyHash P (ofString "_siftup"), .str (ofString "_siftup") 407, (.ref 100)⟩, ⟨PyData.keyHash P (ofString "_twin_re_1"), .str (ofString "_twin_re_1") 447, (.ref 105)⟩, ⟨PyData.keyHash P (ofString "_whence"), .str (ofString "_whence") 457, (.ref 112)⟩, ⟨PyData.keyHash P (ofString "_index"), .str (ofString "_index") 465, (.ref 119)⟩, ⟨PyData.keyHash P (ofString "UnsupportedOperation"), .str (ofString "UnsupportedOperation") 487, (.ref 129)⟩, ⟨PyData.keyHash P (ofString "IOBase"), .str (ofString "IOBase") 519, (.ref 149)⟩, ⟨PyData.keyHash P (ofString "BufferedIOBase"), .str (ofString "BufferedIOBase") 537, (.ref 164)⟩, ⟨PyData.keyHash P (ofString "TextIOBase"), .str (ofString "TextIOBase") 555, (.ref 176)⟩, ⟨PyData.keyHash P (ofString "BytesIO"), .str (ofString "BytesIO") 817, (.ref 406)⟩, ⟨PyData.keyHash P (ofString "StringIO"), .str (ofString "StringIO") 1104, (.ref 653)⟩, ⟨PyData.keyHash P (ofString "_kind"), .str (ofString "_kind") 1115, (.ref 662)⟩, ⟨PyData.keyHash P (ofString "_fspath"), .str (ofString "_fspath") 1124, (.ref 669)⟩, ⟨PyData.keyHash P (ofString "_check_arg_types"), .str (ofString "_check_arg_types") 1134, (.ref 676)⟩, ⟨PyData.keyHash P (ofString "isabs"), .str (ofString "isabs") 1141, (.ref 683)⟩, ⟨PyData.keyHash P (ofString "join"), .str (ofString "join") 1152, (.ref 690)⟩, ⟨PyData.keyHash P (ofString "dirname"), .str (ofString "dirname") 1162, (.ref 697)⟩, ⟨PyData.keyHash P (ofString "shlex"), .str (ofString "shlex") 1303, (.ref 788)⟩, ⟨PyData.keyHash P (ofString "split"), .str (ofString "split") 1313, (.ref 800)⟩, ⟨PyData.keyHash P (ofString "_find_unsafe"), .str (ofString "_find_unsafe") 1315, (.ref 801)⟩, ⟨PyData.keyHash P (ofString "quote"), .str (ofString "quote") 1322, (.ref 808)⟩, ⟨PyData.keyHash P (ofString "_law_word"), .str (ofString "_law_word") 1335, (.ref 815)⟩, ⟨PyData.keyHash P (ofString "_law_ranks"), .str (ofString "_law_ranks") 1341, (.ref 820)⟩, ⟨PyData.keyHash P (ofString "_law_read"), .str (ofString "_law_read") 1353, (.ref 827)⟩, ⟨PyData.keyHash P (ofString "law"), .str (ofString "law") 1359, (.ref 832)⟩] 43), #[]⟩) ::
  (nat_lit 57, ⟨(.type "code"), none, (.fields #[(.str (ofString "_escape_attrib") 340), (.str (ofString "_escape_attrib") 341), (.str (ofString "/claim/cut.py") 342), (.int (9) 0), (.int (1) 0), (.int (0) 0), (.int (0) 0), (.int (3) 0), (.ref 52), (.bool true), (.int (318) 0), (.ref 53), .none, (.ref 54), (.ref 55), (.ref 56), (.int (344) 0), (.int (9) 0), (.str (ofString "/claim/cut.py") 345)]), #[]⟩) ::
  (nat_lit 58, ⟨(.type "function"), none, (.func (fnOf (ofString "_escape_attrib") (ofString "_escape_attrib") (fArgs (st 5)) (fBody (st 5)) (fScope (st 5)) .none .none .none (.str (ofString "cpy313.xml.etree.ElementTree") 331) none (.ref 57) .none)), #[]⟩) ::
  (nat_lit 64, ⟨(.type "code"), none, (.fields #[(.str (ofString "heappush") 349), (.str (ofString "heappush") 350), (.str (ofString "/claim/cut.py") 351), (.int (29) 0), (.int (2) 0), (.int (0) 0), (.int (0) 0), (.int (3) 0), (.ref 59), (.bool true), (.int (318) 0), (.ref 60), .none, (.ref 61), (.ref 62), (.ref 63), (.int (354) 0), (.int (29) 0), (.str (ofString "/claim/cut.py") 355)]), #[]⟩) ::
  (nat_lit 65, ⟨(.type "function"), none, (.func (fnOf (ofString "heappush") (ofString "heappush") (fArgs (st 7)) (fBody (st 7)) (fScope (st 7)) .none .none .none (.str (ofString "cpy313.heapq") 347) none (.ref 64) .none)), #[]⟩) ::
  (nat_lit 71, ⟨(.type "code"), none, (.fields #[(.str (ofString "heappop") 357), (.str (ofString "heappop") 358), (.str (ofString "/claim/cut.py") 359), (.int (32) 0), (.int (1) 0), (.int (0) 0), (.int (0) 0), (.int (3) 0), (.ref 66), (.bool true), (.int (318) 0), (.ref 67), .none, (.ref 68), (.ref 69), (.ref 70), (.int (363) 0), (.int (32) 0), (.str (ofString "/claim/cut.py") 364)]), #[]⟩) ::
  (nat_lit 72, ⟨(.type "function"), none, (.func (fnOf (ofString "heappop") (ofString "heappop") (fArgs (st 8)) (fBody (st 8)) (fScope (st 8)) .none .none .none (.str (ofString "cpy313.heapq") 347) none (.ref 71) .none)), #[]⟩) ::
  (nat_lit 78, ⟨(.type "code"), none, (.fields #[(.str (ofString "heapreplace") 366), (.str (ofString "heapreplace") 367), (.str (ofString "/claim/cut.py") 368), (.int (40) 0), (.int (2) 0), (.int (0) 0), (.int (0) 0), (.int (3) 0), (.ref 73), (.bool true), (.int (318) 0), (.ref 74), .none, (.ref 75), (.ref 76), (.ref 77), (.int (372) 0), (.int (40) 0), (.str (ofString "/claim/cut.py") 373)]), #[]⟩) ::
  (nat_lit 79, ⟨(.type "function"), none, (.func (fnOf (ofString "heapreplace") (ofString "heapreplace") (fArgs (st 9)) (fBody (st 9)) (fScope (st 9)) .none .none .none (.str (ofString "cpy313.heapq") 347) none (.ref 78) .none)), #[]⟩) ::
  (nat_lit 85, ⟨(.type "code"), none, (.fields #[(.str (ofString "heappushpop") 375), (.str (ofString "heappushpop") 376), (.str (ofString "/claim/cut.py") 377), (.int (45) 0), (.int (2) 0), (.int (0) 0), (.int (0) 0), (.int (3) 0), (.ref 80), (.bool true), (.int (318) 0), (.ref 81), .none, (.ref 82), (.ref 83), (.ref 84), (.int (380) 0), (.int (45) 0), (.str (ofString "/claim/cut.py") 381)]), #[]⟩) ::
  (nat_lit 86, ⟨(.type "function"), none, (.func (fnOf (ofString "heappushpop") (ofString "heappushpop") (fArgs (st 10)) (fBody (st 10)) (fScope (st 10)) .none .none .none (.str (ofString "cpy313.heapq") 347) none (.ref 85) .none)), #[]⟩) ::
  (nat_lit 92, ⟨(.type "code"), none, (.fields #[(.str (ofString "_siftdown") 383), (.str (ofString "_siftdown") 384), (.str (ofString "/claim/cut.py") 385), (.int (50) 0), (.int (3) 0), (.int (0) 0), (.int (0) 0), (.int (3) 0), (.ref 87), (.bool true), (.int (318) 0), (.ref 88), .none, (.ref 89), (.ref 90), (.ref 91), (.int (392) 0), (.int (50) 0), (.str (ofString "/claim/cut.py") 393)]), #[]⟩) ::
  (nat_lit 93, ⟨(.type "function"), none, (.func (fnOf (ofString "_siftdown") (ofString "_siftdown") (fArgs (st 11)) (fBody (st 11)) (fScope (st 11)) .none .none .none (.str (ofString "cpy313.heapq") 347) none (.ref 92) .none)), #[]⟩) ::
  (nat_lit 99, ⟨(.type "code"), none, (.fields #[(.str (ofString "_siftup") 395), (.str (ofString "_siftup") 396), (.str (ofString "/claim/cut.py") 397), (.int (61) 0), (.int (2) 0), (.int (0) 0), (.int (0) 0), (.int (3) 0), (.ref 94), (.bool true), (.int (318) 0), (.ref 95), .none, (.ref 96), (.ref 97), (.ref 98), (.int (405) 0), (.int (61) 0), (.str (ofString "/claim/cut.py") 406)]), #[]⟩) ::
  (nat_lit 100, ⟨(.type "function"), none, (.func (fnOf (ofString "_siftup") (ofString "_siftup") (fArgs (st 12)) (fBody (st 12)) (fScope (st 12)) .none .none .none (.str (ofString "cpy313.heapq") 347) none (.ref 99) .none)), #[]⟩) ::
  (nat_lit 104, ⟨(.type "tuple"), none, (.seq #[(.int (14) 0), (.int (17) 0), (.int (4) 0), (.int (1) 0), (.int (1) 0), (.int (21) 0), (.int (9) 0), (.int (0) 0), (.int (604043296) 0), (.int (1) 0), (.int (0) 0), (.int (0) 0), (.int (0) 0), (.int (0) 0), (.int (0) 0), (.int (8) 0), (.int (4) 0), (.int (0) 0), (.int (13) 0), (.int (14) 0), (.int (21) 0), (.int (9) 0), (.int (0) 0), (.int (604043296) 0), (.int (1) 0), (.int (0) 0), (.int (0) 0), (.int (0) 0), (.int (0) 0), (.int (0) 0), (.int (8) 0), (.int (4) 0), (.int (0) 0), (.int (1) 0)] 0), #[]⟩) ::
  (nat_lit 105, ⟨(.type "re.Pattern"), none, (.fields #[(.str (ofString "[^\\w@%+=:,./-]") 409), (.int (256) 446), (.int (0) 0), .none, .none, (.ref 104), (.int (0) 0)]), #[]⟩) ::
  (nat_lit 118, ⟨(.type "code"), none, (.fields #[(.str (ofString "_index") 458), (.str (ofString "_index") 459), (.str (ofString "/claim/cut.py") 460), (.int (82) 0), (.int (2) 0), (.int (0) 0), (.int (0) 0), (.int (3) 0), (.ref 113), (.bool true), (.int (318) 0), (.ref 114), .none, (.ref 115), (.ref 116), (.ref 117), (.int (463) 0), (.int (82) 0), (.str (ofString "/claim/cut.py") 464)]), #[]⟩) ::
  (nat_lit 119, ⟨(.type "function"), none, (.func (fnOf (ofString "_index") (ofString "_index") (fArgs (st 16)) (fBody (st 16)) (fScope (st 16)) .none .none .none (.str (ofString "io") 448) none (.ref 118) .none)), #[]⟩) ::
  (nat_lit 145, ⟨(.type "code"), none, (.fields #[(.str (ofString "__new__") 502), (.str (ofString "IOBase.__new__") 503), (.str (ofString "/claim/cut.py") 504), (.int (94) 0), (.int (1) 0), (.int (1) 0), (.int (0) 0), (.int (15) 0), (.ref 140), (.bool true), (.int (318) 0), (.ref 141), .none, (.ref 142), (.ref 143), (.ref 144), (.int (508) 0), (.int (94) 0), (.str (ofString "/claim/cut.py") 509)]), #[]⟩) ::
  (nat_lit 146, ⟨(.type "function"), none, (.func (fnOf (ofString "__new__") (ofString "IOBase.__new__") (fArgs (cst 18 1)) (fBody (cst 18 1)) (fScope (cst 18 1)) .none .none .none (.str (ofString "io") 448) none (.ref 145) .none)), #[]⟩) ::
  (nat_lit 148, ⟨(.type "dict"), none, (.dict #[⟨PyData.keyHash P (ofString "__module__"), .str (ofString "__module__") 495, (.str (ofString "io") 500)⟩, ⟨PyData.keyHash P (ofString "__firstlineno__"), .str (ofString "__firstlineno__") 499, (.int (91) 498)⟩, ⟨PyData.keyHash P (ofString "__new__"), .str (ofString "__new__") 510, (.ref 150)⟩, ⟨PyData.keyHash P (ofString "__static_attributes__"), .str (ofString "__static_attributes__") 511, (.ref 147)⟩, ⟨PyData.keyHash P (ofString "__dict__"), .str (ofString "__dict__") 514, (.ref 151)⟩, ⟨PyData.keyHash P (ofString "__weakref__"), .str (ofString "__weakref__") 516, (.ref 152)⟩, ⟨PyData.keyHash P (ofString "__doc__"), .str (ofString "__doc__") 517, .none⟩] 4), #[]⟩) ::
  (nat_lit 149, ⟨(.type "type"), none, (.cls { name := (ofString "IOBase"), bases := [(.type "object")], mro := [(.ref 149), (.type "object")], ns := 148, qualname := (ofString "IOBase"), hasDict := true, slotNames := [], subclasses := [(.ref 164), (.ref 176)], abstract := false, collection := none, hasDel := false }), #[none, none, (some (.str (ofString "IOBase") 488)), (some (.str (ofString "IOBase") 496)), (some .none), (some (.bool true))]⟩) ::
  (nat_lit 150, ⟨(.type "staticmethod"), none, (.fields #[(.ref 146)]), #[]⟩) ::
  (nat_lit 167, ⟨(.type "tuple"), none, (.seq #[(.ref 149)] 0), #[]⟩) ::
  (nat_lit 175, ⟨(.type "dict"), none, (.dict #[⟨PyData.keyHash P (ofString "__module__"), .str (ofString "__module__") 545, (.str (ofString "io") 550)⟩, ⟨PyData.keyHash P (ofString "__firstlineno__"), .str (ofString "__firstlineno__") 549, (.int (100) 548)⟩, ⟨PyData.keyHash P (ofString "__static_attributes__"), .str (ofString "__static_attributes__") 552, (.ref 174)⟩, ⟨PyData.keyHash P (ofString "__doc__"), .str (ofString "__doc__") 553, .none⟩] 2), #[]⟩) ::
  (nat_lit 176, ⟨(.type "type"), none, (.cls { name := (ofString "TextIOBase"), bases := [(.ref 149)], mro := [(.ref 176), (.ref 149), (.type "object")], ns := 175, qualname := (ofString "TextIOBase"), hasDict := true, slotNames := [], subclasses := [(.ref 653)], abstract := false, collection := none, hasDel := false }), #[(some (.ref 167)), none, (some (.str (ofString "TextIOBase") 538)), (some (.str (ofString "TextIOBase") 546)), (some .none), (some (.bool true))]⟩) ::
  (nat_lit 406, ⟨(.type "type"), none, (.cls { name := (ofString "BytesIO"), bases := [(.ref 164)], mro := [(.ref 406), (.ref 164), (.ref 149), (.type "object")], ns := 405, qualname := (ofString "BytesIO"), hasDict := true, slotNames := [], subclasses := [], abstract := false, collection := none, hasDel := false }), #[(some (.ref 179)), none, (some (.str (ofString "BytesIO") 556)), (some (.str (ofString "BytesIO") 564)), (some .none), (some (.bool true))]⟩) ::
  (nat_lit 409, ⟨(.type "tuple"), none, (.seq #[(.ref 176)] 0), #[]⟩) ::
  (nat_lit 416, ⟨(.type "tuple"), none, (.seq #[(.str (ofString "") 832), (.str (ofString "\n") 833)] 0), #[]⟩) ::
  (nat_lit 422, ⟨(.type "code"), none, (.fields #[(.str (ofString "__init__") 834), (.str (ofString "StringIO.__init__") 835), (.str (ofString "/claim/cut.py") 836), (.int (275) 0), (.int (3) 0), (.int (0) 0), (.int (0) 0), (.int (3) 0), (.ref 417), (.bool true), (.int (318) 0), (.ref 418), .none, (.ref 419), (.ref 420), (.ref 421), (.int (840) 0), (.int (275) 0), (.str (ofString "/claim/cut.py") 841)]), #[]⟩) ::
  (nat_lit 423, ⟨(.type "function"), none, (.func (fnOf (ofString "__init__") (ofString "StringIO.__init__") (fArgs (cst 22 1)) (fBody (cst 22 1)) (fScope (cst 22 1)) (.ref 416) .none .none (.str (ofString "io") 448) none (.ref 422) .none)), #[]⟩) ::
  (nat_lit 429, ⟨(.type "code"), none, (.fields #[(.str (ofString "__translated") 843), (.str (ofString "StringIO.__translated") 844), (.str (ofString "/claim/cut.py") 845), (.int (288) 0), (.int (2) 0), (.int (0) 0), (.int (0) 0), (.int (3) 0), (.ref 424), (.bool true), (.int (318) 0), (.ref 425), .none, (.ref 426), (.ref 427), (.ref 428), (.int (849) 0), (.int (288) 0), (.str (ofString "/claim/cut.py") 850)]), #[]⟩) ::
  (nat_lit 430, ⟨(.type "function"), none, (.func (fnOf (ofString "__translated") (ofString "StringIO.__translated") (fArgs (cst 22 2)) (fBody (cst 22 2)) (fScope (cst 22 2)) .none .none .none (.str (ofString "io") 448) none (.ref 429) .none)), #[]⟩) ::
  (nat_lit 436, ⟨(.type "code"), none, (.fields #[(.str (ofString "__check") 852), (.str (ofString "StringIO.__check") 853), (.str (ofString "/claim/cut.py") 854), (.int (296) 0), (.int (1) 0), (.int (0) 0), (.int (0) 0), (.int (3) 0), (.ref 431), (.bool true), (.int (318) 0), (.ref 432), .none, (.ref 433), (.ref 434), (.ref 435), (.int (856) 0), (.int (296) 0), (.str (ofString "/claim/cut.py") 857)]), #[]⟩) ::
  (nat_lit 437, ⟨(.type "function"), none, (.func (fnOf (ofString "__check") (ofString "StringIO.__check") (fArgs (cst 22 3)) (fBody (cst 22 3)) (fScope (cst 22 3)) .none .none .none (.str (ofString "io") 448) none (.ref 436) .none)), #[]⟩) ::
  (nat_lit 592, ⟨(.type "tuple"), none, (.seq #[(.int (-1) 1025)] 0), #[]⟩) ::
  (nat_lit 598, ⟨(.type "code"), none, (.fields #[(.str (ofString "read") 1026), (.str (ofString "StringIO.read") 1027), (.str (ofString "/claim/cut.py") 1028), (.int (418) 0), (.int (2) 0), (.int (2) 0), (.int (0) 0), (.int (3) 0), (.ref 593), (.bool true), (.int (318) 0), (.ref 594), .none, (.ref 595), (.ref 596), (.ref 597), (.int (1033) 0), (.int (418) 0), (.str (ofString "/claim/cut.py") 1034)]), #[]⟩) ::
  (nat_lit 599, ⟨(.type "function"), none, (.func (fnOf (ofString "read") (ofString "StringIO.read") (fArgs (cst 22 25)) (fBody (cst 22 25)) (fScope (cst 22 25)) (.ref 592) .none .none (.str (ofString "io") 448) none (.ref 598) .none)), #[]⟩) ::
  (nat_lit 621, ⟨(.type "code"), none, (.fields #[(.str (ofString "__iter__") 1056), (.str (ofString "StringIO.__iter__") 1057), (.str (ofString "/claim/cut.py") 1058), (.int (442) 0), (.int (1) 0), (.int (0) 0), (.int (0) 0), (.int (3) 0), (.ref 616), (.bool true), (.int (318) 0), (.ref 617), .none, (.ref 618), (.ref 619), (.ref 620), (.int (1060) 0), (.int (442) 0), (.str (ofString "/claim/cut.py") 1061)]), #[]⟩) ::
  (nat_lit 622, ⟨(.type "function"), none, (.func (fnOf (ofString "__iter__") (ofString "StringIO.__iter__") (fArgs (cst 22 28)) (fBody (cst 22 28)) (fScope (cst 22 28)) .none .none .none (.str (ofString "io") 448) none (.ref 621) .none)), #[]⟩) ::
  (nat_lit 628, ⟨(.type "code"), none, (.fields #[(.str (ofString "__next__") 1063), (.str (ofString "StringIO.__next__") 1064), (.str (ofString "/claim/cut.py") 1065), (.int (446) 0), (.int (1) 0), (.int (0) 0), (.int (0) 0), (.int (3) 0), (.ref 623), (.bool true), (.int (318) 0), (.ref 624), .none, (.ref 625), (.ref 626), (.ref 627), (.int (1068) 0), (.int (446) 0), (.str (ofString "/claim/cut.py") 1069)]), #[]⟩) ::
  (nat_lit 629, ⟨(.type "function"), none, (.func (fnOf (ofString "__next__") (ofString "StringIO.__next__") (fArgs (cst 22 29)) (fBody (cst 22 29)) (fScope (cst 22 29)) .none .none .none (.str (ofString "io") 448) none (.ref 628) .none)), #[]⟩) ::
  (nat_lit 652, ⟨(.type "dict"), none, (.dict #[⟨PyData.keyHash P (ofString "__module__"), .str (ofString "__module__") 825, (.str (ofString "_io") 830)⟩, ⟨PyData.keyHash P (ofString "__firstlineno__"), .str (ofString "__firstlineno__") 829, (.int (272) 828)⟩, ⟨PyData.keyHash P (ofString "__init__"), .str (ofString "__init__") 842, (.ref 423)⟩, ⟨PyData.keyHash P (ofString "_StringIO__translated"), .str (ofString "_StringIO__translated") 851, (.ref 430)⟩, ⟨PyData.keyHash P (ofString "_StringIO__check"), .str (ofString "_StringIO__check") 858, (.ref 437)⟩, ⟨PyData.keyHash P (ofString "_StringIO__check_dot"), .str (ofString "_StringIO__check_dot") 865, (.ref 444)⟩, ⟨PyData.keyHash P (ofString "_StringIO__line"), .str (ofString "_StringIO__line") 880, (.ref 451)⟩, ⟨PyData.keyHash P (ofString "closed"), .str (ofString "closed") 888, (.ref 459)⟩, ⟨PyData.keyHash P (ofString "line_buffering"), .str (ofString "line_buffering") 896, (.ref 467)⟩, ⟨PyData.keyHash P (ofString "newlines"), .str (ofString "newlines") 904, (.ref 475)⟩, ⟨PyData.keyHash P (ofString "encoding"), .str (ofString "encoding") 912, (.ref 483)⟩, ⟨PyData.keyHash P (ofString "errors"), .str (ofString "errors") 920, (.ref 491)⟩, ⟨PyData.keyHash P (ofString "close"), .str (ofString "close") 927, (.ref 498)⟩, ⟨PyData.keyHash P (ofString "__enter__"), .str (ofString "__enter__") 934, (.ref 505)⟩, ⟨PyData.keyHash P (ofString "__exit__"), .str (ofString "__exit__") 942, (.ref 512)⟩, ⟨PyData.keyHash P (ofString "readable"), .str (ofString "readable") 949, (.ref 519)⟩, ⟨PyData.keyHash P (ofString "writable"), .str (ofString "writable") 956, (.ref 526)⟩, ⟨PyData.keyHash P (ofString "seekable"), .str (ofString "seekable") 963, (.ref 533)⟩, ⟨PyData.keyHash P (ofString "isatty"), .str (ofString "isatty") 970, (.ref 540)⟩, ⟨PyData.keyHash P (ofString "flush"), .str (ofString "flush") 977, (.ref 547)⟩, ⟨PyData.keyHash P (ofString "fileno"), .str (ofString "fileno") 984, (.ref 554)⟩, ⟨PyData.keyHash P (ofString "detach"), .str (ofString "detach") 991, (.ref 561)⟩, ⟨PyData.keyHash P (ofString "getvalue"), .str (ofString "getvalue") 998, (.ref 568)⟩, ⟨PyData.keyHash P (ofString "tell"), .str (ofString "tell") 1005, (.ref 575)⟩, ⟨PyData.keyHash P (ofString "seek"), .str (ofString "seek") 1015, (.ref 583)⟩, ⟨PyData.keyHash P (ofString "truncate"), .str (ofString "truncate") 1023, (.ref 591)⟩, ⟨PyData.keyHash P (ofString "read"), .str (ofString "read") 1035, (.ref 599)⟩, ⟨PyData.keyHash P (ofString "readline"), .str (ofString "readline") 1045, (.ref 607)⟩, ⟨PyData.keyHash P (ofString "readlines"), .str (ofString "readlines") 1055, (.ref 615)⟩, ⟨PyData.keyHash P (ofString "__iter__"), .str (ofString "__iter__") 1062, (.ref 622)⟩, ⟨PyData.keyHash P (ofString "__next__"), .str (ofString "__next__") 1070, (.ref 629)⟩, ⟨PyData.keyHash P (ofString "write"), .str (ofString "write") 1082, (.ref 636)⟩, ⟨PyData.keyHash P (ofString "writelines"), .str (ofString "writelines") 1090, (.ref 643)⟩, ⟨PyData.keyHash P (ofString "__repr__"), .str (ofString "__repr__") 1097, (.ref 650)⟩, ⟨PyData.keyHash P (ofString "__static_attributes__"), .str (ofString "__static_attributes__") 1101, (.ref 651)⟩, ⟨PyData.keyHash P (ofString "__doc__"), .str (ofString "__doc__") 1102, .none⟩] 2), #[]⟩) ::
  (nat_lit 653, ⟨(.type "type"), none, (.cls { name := (ofString "StringIO"), bases := [(.ref 176)], mro := [(.ref 653), (.ref 176), (.ref 149), (.type "object")], ns := 652, qualname := (ofString "StringIO"), hasDict := true, slotNames := [], subclasses := [], abstract := false, collection := none, hasDel := false }), #[(some (.ref 409)), none, (some (.str (ofString "StringIO") 818)), (some (.str (ofString "StringIO") 826)), (some .none), (some (.bool true))]⟩) ::
  (nat_lit 705, ⟨(.type "tuple"), none, (.seq #[.none, .none, (.bool false), (.bool false)] 0), #[]⟩) ::
  (nat_lit 711, ⟨(.type "code"), none, (.fields #[(.str (ofString "__init__") 1177), (.str (ofString "shlex.__init__") 1178), (.str (ofString "/claim/cut.py") 1179), (.int (543) 0), (.int (5) 0), (.int (0) 0), (.int (0) 0), (.int (3) 0), (.ref 706), (.bool true), (.int (318) 0), (.ref 707), .none, (.ref 708), (.ref 709), (.ref 710), (.int (1186) 0), (.int (543) 0), (.str (ofString "/claim/cut.py") 1187)]), #[]⟩) ::
  (nat_lit 712, ⟨(.type "function"), none, (.func (fnOf (ofString "__init__") (ofString "shlex.__init__") (fArgs (cst 31 0)) (fBody (cst 31 0)) (fScope (cst 31 0)) (.ref 705) .none .none (.str (ofString "cpy313.shlex") 1163) none (.ref 711) .none)), #[]⟩) ::
  (nat_lit 718, ⟨(.type "code"), none, (.fields #[(.str (ofString "punctuation_chars") 1189), (.str (ofString "shlex.punctuation_chars") 1190), (.str (ofString "/claim/cut.py") 1191), (.int (584) 0), (.int (1) 0), (.int (0) 0), (.int (0) 0), (.int (3) 0), (.ref 713), (.bool true), (.int (318) 0), (.ref 714), .none, (.ref 715), (.ref 716), (.ref 717), (.int (1193) 0), (.int (584) 0), (.str (ofString "/claim/cut.py") 1194)]), #[]⟩) ::
  (nat_lit 719, ⟨(.type "function"), none, (.func (fnOf (ofString "punctuation_chars") (ofString "shlex.punctuation_chars") (fArgs (cst 31 1)) (fBody (cst 31 1)) (fScope (cst 31 1)) .none .none .none (.str (ofString "cpy313.shlex") 1163) none (.ref 718) .none)), #[]⟩) ::
  (nat_lit 720, ⟨(.type "property"), none, (.fields #[(.ref 719), .none, .none, .none, (.str (ofString "punctuation_chars") 1196), (.bool false)]), #[]⟩) ::
  (nat_lit 748, ⟨(.type "code"), none, (.fields #[(.str (ofString "get_token") 1221), (.str (ofString "shlex.get_token") 1222), (.str (ofString "/claim/cut.py") 1223), (.int (611) 0), (.int (1) 0), (.int (0) 0), (.int (0) 0), (.int (3) 0), (.ref 743), (.bool true), (.int (318) 0), (.ref 744), .none, (.ref 745), (.ref 746), (.ref 747), (.int (1230) 0), (.int (611) 0), (.str (ofString "/claim/cut.py") 1231)]), #[]⟩) ::
  (nat_lit 749, ⟨(.type "function"), none, (.func (fnOf (ofString "get_token") (ofString "shlex.get_token") (fArgs (cst 31 5)) (fBody (cst 31 5)) (fScope (cst 31 5)) .none .none .none (.str (ofString "cpy313.shlex") 1163) none (.ref 748) .none)), #[]⟩) ::
  (nat_lit 755, ⟨(.type "code"), none, (.fields #[(.str (ofString "read_token") 1233), (.str (ofString "shlex.read_token") 1234), (.str (ofString "/claim/cut.py") 1235), (.int (638) 0), (.int (1) 0), (.int (0) 0), (.int (0) 0), (.int (3) 0), (.ref 750), (.bool true), (.int (318) 0), (.ref 751), .none, (.ref 752), (.ref 753), (.ref 754), (.int (1241) 0), (.int (638) 0), (.str (ofString "/claim/cut.py") 1242)]), #[]⟩) ::
  (nat_lit 756, ⟨(.type "function"), none, (.func (fnOf (ofString "read_token") (ofString "shlex.read_token") (fArgs (cst 31 6)) (fBody (cst 31 6)) (fScope (cst 31 6)) .none .none .none (.str (ofString "cpy313.shlex") 1163) none (.ref 755) .none)), #[]⟩) ::
  (nat_lit 777, ⟨(.type "code"), none, (.fields #[(.str (ofString "__iter__") 1261), (.str (ofString "shlex.__iter__") 1262), (.str (ofString "/claim/cut.py") 1263), (.int (785) 0), (.int (1) 0), (.int (0) 0), (.int (0) 0), (.int (3) 0), (.ref 772), (.bool true), (.int (318) 0), (.ref 773), .none, (.ref 774), (.ref 775), (.ref 776), (.int (1265) 0), (.int (785) 0), (.str (ofString "/claim/cut.py") 1266)]), #[]⟩) ::
  (nat_lit 778, ⟨(.type "function"), none, (.func (fnOf (ofString "__iter__") (ofString "shlex.__iter__") (fArgs (cst 31 9)) (fBody (cst 31 9)) (fScope (cst 31 9)) .none .none .none (.str (ofString "cpy313.shlex") 1163) none (.ref 777) .none)), #[]⟩) ::
  (nat_lit 784, ⟨(.type "code"), none, (.fields #[(.str (ofString "__next__") 1268), (.str (ofString "shlex.__next__") 1269), (.str (ofString "/claim/cut.py") 1270), (.int (788) 0), (.int (1) 0), (.int (0) 0), (.int (0) 0), (.int (3) 0), (.ref 779), (.bool true), (.int (318) 0), (.ref 780), .none, (.ref 781), (.ref 782), (.ref 783), (.int (1273) 0), (.int (788) 0), (.str (ofString "/claim/cut.py") 1274)]), #[]⟩) ::
  (nat_lit 785, ⟨(.type "function"), none, (.func (fnOf (ofString "__next__") (ofString "shlex.__next__") (fArgs (cst 31 10)) (fBody (cst 31 10)) (fScope (cst 31 10)) .none .none .none (.str (ofString "cpy313.shlex") 1163) none (.ref 784) .none)), #[]⟩) ::
  (nat_lit 787, ⟨(.type "dict"), none, (.dict #[⟨PyData.keyHash P (ofString "__module__"), .str (ofString "__module__") 1172, (.str (ofString "cpy313.shlex") 1163)⟩, ⟨PyData.keyHash P (ofString "__firstlineno__"), .str (ofString "__firstlineno__") 1176, (.int (541) 1175)⟩, ⟨PyData.keyHash P (ofString "__init__"), .str (ofString "__init__") 1188, (.ref 712)⟩, ⟨PyData.keyHash P (ofString "punctuation_chars"), .str (ofString "punctuation_chars") 1196, (.ref 720)⟩, ⟨PyData.keyHash P (ofString "push_token"), .str (ofString "push_token") 1204, (.ref 727)⟩, ⟨PyData.keyHash P (ofString "push_source"), .str (ofString "push_source") 1213, (.ref 735)⟩, ⟨PyData.keyHash P (ofString "pop_source"), .str (ofString "pop_source") 1220, (.ref 742)⟩, ⟨PyData.keyHash P (ofString "get_token"), .str (ofString "get_token") 1232, (.ref 749)⟩, ⟨PyData.keyHash P (ofString "read_token"), .str (ofString "read_token") 1243, (.ref 756)⟩, ⟨PyData.keyHash P (ofString "sourcehook"), .str (ofString "sourcehook") 1251, (.ref 763)⟩, ⟨PyData.keyHash P (ofString "error_leader"), .str (ofString "error_leader") 1260, (.ref 771)⟩, ⟨PyData.keyHash P (ofString "__iter__"), .str (ofString "__iter__") 1267, (.ref 778)⟩, ⟨PyData.keyHash P (ofString "__next__"), .str (ofString "__next__") 1275, (.ref 785)⟩, ⟨PyData.keyHash P (ofString "__static_attributes__"), .str (ofString "__static_attributes__") 1296, (.ref 786)⟩, ⟨PyData.keyHash P (ofString "__dict__"), .str (ofString "__dict__") 1298, (.ref 789)⟩, ⟨PyData.keyHash P (ofString "__weakref__"), .str (ofString "__weakref__") 1300, (.ref 790)⟩, ⟨PyData.keyHash P (ofString "__doc__"), .str (ofString "__doc__") 1301, .none⟩] 4), #[]⟩) ::
  (nat_lit 788, ⟨(.type "type"), none, (.cls { name := (ofString "shlex"), bases := [(.type "object")], mro := [(.ref 788), (.type "object")], ns := 787, qualname := (ofString "shlex"), hasDict := true, slotNames := [], subclasses := [], abstract := false, collection := none, hasDel := false }), #[none, none, (some (.str (ofString "shlex") 1165)), (some (.str (ofString "shlex") 1173)), (some (.builtin "object.__new__")), (some (.bool true))]⟩) ::
  (nat_lit 793, ⟨(.type "tuple"), none, (.seq #[(.bool false), (.bool true)] 0), #[]⟩) ::
  (nat_lit 799, ⟨(.type "code"), none, (.fields #[(.str (ofString "split") 1304), (.str (ofString "split") 1305), (.str (ofString "/claim/cut.py") 1306), (.int (793) 0), (.int (3) 0), (.int (0) 0), (.int (0) 0), (.int (3) 0), (.ref 794), (.bool true), (.int (318) 0), (.ref 795), .none, (.ref 796), (.ref 797), (.ref 798), (.int (1311) 0), (.int (793) 0), (.str (ofString "/claim/cut.py") 1312)]), #[]⟩) ::
  (nat_lit 800, ⟨(.type "function"), none, (.func (fnOf (ofString "split") (ofString "split") (fArgs (st 32)) (fBody (st 32)) (fScope (st 32)) (.ref 793) .none .none (.str (ofString "cpy313.shlex") 1163) none (.ref 799) .none)), #[]⟩) ::
  (nat_lit 801, ⟨(.type "builtin_function_or_method"), none, (.fields #[(.builtin "re.Pattern.search"), (.ref 105)]), #[]⟩) ::
  (nat_lit 807, ⟨(.type "code"), none, (.fields #[(.str (ofString "quote") 1316), (.str (ofString "quote") 1317), (.str (ofString "/claim/cut.py") 1318), (.int (802) 0), (.int (1) 0), (.int (0) 0), (.int (0) 0), (.int (3) 0), (.ref 802), (.bool true), (.int (318) 0), (.ref 803), .none, (.ref 804), (.ref 805), (.ref 806), (.int (1320) 0), (.int (802) 0), (.str (ofString "/claim/cut.py") 1321)]), #[]⟩) ::
  (nat_lit 808, ⟨(.type "function"), none, (.func (fnOf (ofString "quote") (ofString "quote") (fArgs (st 34)) (fBody (st 34)) (fScope (st 34)) .none .none .none (.str (ofString "cpy313.shlex") 1163) none (.ref 807) .none)), #[]⟩) ::
  (nat_lit 814, ⟨(.type "code"), none, (.fields #[(.str (ofString "_law_word") 1325), (.str (ofString "_law_word") 1326), (.str (ofString "/claim/cut.py") 1327), (.int (809) 0), (.int (1) 0), (.int (0) 0), (.int (0) 0), (.int (3) 0), (.ref 809), (.bool true), (.int (318) 0), (.ref 810), .none, (.ref 811), (.ref 812), (.ref 813), (.int (1333) 0), (.int (809) 0), (.str (ofString "/claim/cut.py") 1334)]), #[]⟩) ::
  (nat_lit 815, ⟨(.type "function"), none, (.func (fnOf (ofString "_law_word") (ofString "_law_word") (fArgs (st 36)) (fBody (st 36)) (fScope (st 36)) .none .none .none (.str (ofString "law_oc0301_01") 1323) none (.ref 814) .none)), #[]⟩) ::
  (nat_lit 819, ⟨(.type "code"), none, (.fields #[(.str (ofString "_law_ranks") 1336), (.str (ofString "_law_ranks") 1337), (.str (ofString "/claim/cut.py") 1338), (.int (818) 0), (.int (1) 0), (.int (0) 0), (.int (0) 0), (.int (3) 0), (.ref 816), (.bool true), (.int (318) 0), (.ref 817), .none, .none, .none, (.ref 818), (.int (1339) 0), (.int (818) 0), (.str (ofString "/claim/cut.py") 1340)]), #[]⟩) ::
  (nat_lit 820, ⟨(.type "function"), none, (.func (fnOf (ofString "_law_ranks") (ofString "_law_ranks") (fArgs (st 37)) (fBody (st 37)) (fScope (st 37)) .none .none .none (.str (ofString "law_oc0301_01") 1323) none (.ref 819) .none)), #[]⟩) ::
  (nat_lit 826, ⟨(.type "code"), none, (.fields #[(.str (ofString "_law_read") 1342), (.str (ofString "_law_read") 1343), (.str (ofString "/claim/cut.py") 1344), (.int (831) 0), (.int (1) 0), (.int (0) 0), (.int (0) 0), (.int (3) 0), (.ref 821), (.bool true), (.int (318) 0), (.ref 822), .none, (.ref 823), (.ref 824), (.ref 825), (.int (1351) 0), (.int (831) 0), (.str (ofString "/claim/cut.py") 1352)]), #[]⟩) ::
  (nat_lit 827, ⟨(.type "function"), none, (.func (fnOf (ofString "_law_read") (ofString "_law_read") (fArgs (st 38)) (fBody (st 38)) (fScope (st 38)) .none .none .none (.str (ofString "law_oc0301_01") 1323) none (.ref 826) .none)), #[]⟩) ::
  (nat_lit 831, ⟨(.type "code"), none, (.fields #[(.str (ofString "law") 1354), (.str (ofString "law") 1355), (.str (ofString "/claim/cut.py") 1356), (.int (839) 0), (.int (1) 0), (.int (0) 0), (.int (0) 0), (.int (3) 0), (.ref 828), (.bool true), (.int (318) 0), (.ref 829), .none, .none, .none, (.ref 830), (.int (1357) 0), (.int (839) 0), (.str (ofString "/claim/cut.py") 1358)]), #[]⟩) ::
  (nat_lit 832, ⟨(.type "function"), none, (.func (fnOf (ofString "law") (ofString "law") (fArgs (st 39)) (fBody (st 39)) (fScope (st 39)) .none .none .none (.str (ofString "law_oc0301_01") 1323) none (.ref 831) .none)), #[]⟩) :: []
noncomputable def KA : List Addr := nat_lit 3 :: nat_lit 57 :: nat_lit 58 :: nat_lit 64 :: nat_lit 65 :: nat_lit 71 :: nat_lit 72 :: nat_lit 78 :: nat_lit 79 :: nat_lit 85 :: nat_lit 86 :: nat_lit 92 :: nat_lit 93 :: nat_lit 99 :: nat_lit 100 :: nat_lit 104 :: nat_lit 105 :: nat_lit 118 :: nat_lit 119 :: nat_lit 145 :: nat_lit 146 :: nat_lit 148 :: nat_lit 149 :: nat_lit 150 :: nat_lit 167 :: nat_lit 175 :: nat_lit 176 :: nat_lit 406 :: nat_lit 409 :: nat_lit 416 :: nat_lit 422 :: nat_lit 423 :: nat_lit 429 :: nat_lit 430 :: nat_lit 436 :: nat_lit 437 :: nat_lit 592 :: nat_lit 598 :: nat_lit 599 :: nat_lit 621 :: nat_lit 622 :: nat_lit 628 :: nat_lit 629 :: nat_lit 652 :: nat_lit 653 :: nat_lit 705 :: nat_lit 711 :: nat_lit 712 :: nat_lit 718 :: nat_lit 719 :: nat_lit 720 :: nat_lit 748 :: nat_lit 749 :: nat_lit 755 :: nat_lit 756 :: nat_lit 777 :: nat_lit 778 :: nat_lit 784 :: nat_lit 785 :: nat_lit 787 :: nat_lit 788 :: nat_lit 793 :: nat_lit 799 :: nat_lit 800 :: nat_lit 801 :: nat_lit 807 :: nat_lit 808 :: nat_lit 814 :: nat_lit 815 :: nat_lit 819 :: nat_lit 820 :: nat_lit 826 :: nat_lit 827 :: nat_lit 831 :: nat_lit 832 :: []
/-- the view: the imports and the law; all else is loose -/
noncomputable def VQ : Program := view PySem.Challenge.pw_oc0301_01 [0, 1, 39]
noncomputable def LQ : List Str := ["_wall", "_raise_serialization_error", "_escape_attrib", "heappush", "heappop", "heapreplace", "heappushpop", "_siftdown", "_siftup", "_twin_re_1", "_whence", "_index", "UnsupportedOperation", "IOBase", "BufferedIOBase", "TextIOBase", "BytesIO", "StringIO", "_kind", "_fspath", "_check_arg_types", "isabs", "join", "dirname", "shlex", "split", "_find_unsafe", "quote", "_law_word", "_law_ranks", "_law_read"]
/-- the model's record of statics (object 2): it stands in K with one fact alone, that no package from outside was loaded -/
noncomputable def Quiet (P : Params) (h : Heap) : Prop := ∃ o, Frag.In ((cStatics, o) :: KK P) h ∧ nsIn ((cStatics, o) :: KK P) cStatics "thirdparty.any" = some none
noncomputable def quietB (h : Heap) : Bool := match h.get? cStatics with
  | some o => nsIn [(cStatics, o)] cStatics "thirdparty.any" == some none
  | none => false
theorem quiet_of {P : Params} {h : Heap} (X : (KK P).In h) (e : quietB h = true) : Quiet P h := by
  unfold quietB at e
  split at e
  · rename_i o ho
    refine ⟨o, fun a o' q => ?_, ?_⟩
    · rw [List.lookup_cons] at q
      split at q
      · rename_i q2
        cases q
        rw [show a = cStatics from eq_of_beq q2]
        exact ho
      · exact X a o' q
    · have e' := eq_of_beq e
      unfold nsIn at e' ⊢
      rw [List.lookup_cons, beq_self_eq_true] at e' ⊢
      exact e'
  · cases e
theorem Quiet.keeps {P : Params} {h h' : Heap} (x : Quiet P h) (k : ∀ b o, h.get? b = some o → h'.get? b = some o) : Quiet P h' := by
  obtain ⟨o, x1, x2⟩ := x
  exact ⟨o, x1.keeps k, x2⟩
noncomputable def HK : Hook := kHook KK KA (fun _ => by kernel_rfl)
theorem ev : ∀ w, pipe PySem.Challenge.pw_oc0301_01 VQ LQ (fun s => xlAt VQ [] s && recOk (RowW.records PySem.Challenge.rw_oc0301_01.row.toRowW) s) (fun s => (KA.map s.heap.get?, quietB s.heap)) 10626 w = some (openGood VQ LQ, (KK w.params).map (fun p => some p.2), true) := fun w => by
  delta pipe fencedOpening
  rw [PySem.W.Fast.te10156331382660048174, PySem.W.Fast.te6613529449190102663, PySem.W.Fast.te11892475500146522536, PySem.W.Fast.te10274390034422433532, PySem.W.Fast.te14289696077712309145, PySem.W.Fast.te1435165496053646825, PySem.W.Fast.te14364793385576792824, PySem.W.Fast.te4187177175401517315]
  kernel_rfl
end Mine
end TextHead
section TextHd2
open PySem PySem.W PyProof.Rows PySem.Calls
set_option maxRecDepth 100000
set_option maxHeartbeats 8000000
namespace Mine
theorem look_bare : (["vars", "dir", "locals"] : List Str).filter (readsOut PySem.Challenge.rw_oc0301_01.row.prog PySem.Challenge.rw_oc0301_01.row.prog.main.body) = [] := by
  rw [PySem.W.Fast.te13343964577679436407]
  decide +kernel
/-- look by look, each a reckoning of its own (in one it takes 5 GB) -/
theorem said : PySem.Challenge.rw_oc0301_01.wellSaid = true := by
  delta OpenLaw.wellSaid OpenRow.wellSaid OpenRow.partSaid looksOpen
  rw [look_bare]
  rw [PySem.W.Fast.te11788848310118352699, PySem.W.Fast.te9807087744658564304, PySem.W.Fast.te12862048085361865435, PySem.W.Fast.te8377067652309620493, PySem.W.Fast.te8326940854005059898, PySem.W.Fast.te17119622794617984870, PySem.W.Fast.te17868728402115742887]
  repeat' (with_reducible refine look_both ?_ ?_)
  all_goals decide +kernel
def fPos : Stmt → Pos
  | .FunctionDef _ _ _ _ _ _ _ _ _ p => p
  | _ => default
def dLaw : DefRec := { name := PySem.Str.ofString "law", params := fArgs (st 39), body := fBody (st 39), scope := fScope (st 39), pos := fPos (st 39) }
theorem hd (walk : WalkO VQ LQ (XL VQ []) (fun w h => InK KK w h ∧ Quiet w.params h) PySem.Challenge.rw_oc0301_01.row.toRowW dLaw [] fun f vs => call f vs) : PySem.Challenge.rw_oc0301_01.Holds :=
  holds_law said fun said => PySem.W.holds_open (r := PySem.Challenge.rw_oc0301_01.row) (q := VQ) (loose := LQ) (Xt := fun s => xlAt VQ [] s && recOk (RowW.records PySem.Challenge.rw_oc0301_01.row.toRowW) s) (XP := XL VQ []) (Yf := fun s => (KA.map s.heap.get?, quietB s.heap)) (Ya := fun w => ((KK w.params).map (fun p => some p.2), true)) (YP := fun w h => InK KK w h ∧ Quiet w.params h) (N := 10626)
    (pipe_of (Ya := fun w => ((KK w.params).map (fun p => some p.2), true)) ev) (fun w s x => ⟨InK.of (fun _ => by kernel_rfl) w s (Prod.mk.inj x).1, quiet_of (InK.of (fun _ => by kernel_rfl) w s (Prod.mk.inj x).1) (Prod.mk.inj x).2⟩) (fun w h h' x k => ⟨InK.keeps w h h' x.1 k, x.2.keeps k⟩) (fun s e => xl_of s (Bool.and_eq_true_iff.mp e).1) XL.keeps (d := dLaw) (kwd := []) (by kernel_rfl) (by kernel_rfl) (by kernel_rfl) (fun s e => recFacts_of (Bool.and_eq_true_iff.mp e).2) (by rfl) said (by decide +kernel) ⟨rfl, rfl, rfl, rfl, rfl, by decide +kernel⟩ (by w_witness2) walk
end Mine
end TextHd2
section TextPure1
open PySem PySem.W PyProof.Rows PySem.Calls
namespace Mine
/-! ## texts as lists of code points -/
abbrev S (l : List Nat) : Str := ⟨l.toArray⟩
theorem S_toList (x : Str) : S x.cps.toList = x := by cases x; rfl
theorem S_len (l : List Nat) : (S l).length = l.length := by simp [Str.length]
/-- a stop for the walk -/
def Hold (P : Prop) : Prop := P
theorem Hold.out {P : Prop} (h : Hold P) : P := h
def forBody (s : Stmt) : List Stmt := match s with | .For _ _ b _ _ => b | _ => []
def whileBody (s : Stmt) : List Stmt := match s with | .While _ b _ _ => b | _ => []
def whileTest (s : Stmt) : Expr := match s with | .While t _ _ _ => t | _ => .Name default default
theorem sg97 : Str.ofString "a" = S [97] := by decide +kernel
theorem sg37 : Str.ofString "%" = S [37] := by decide +kernel
theorem sg39 : Str.ofString "'" = S [39] := by decide +kernel
theorem sg34 : Str.ofString "\"" = S [34] := by decide +kernel
def rep (c : Nat) (z : List Nat) (l : List Nat) : List Nat := l.flatMap fun d => if d = c then z else [d]
theorem rep_append (c : Nat) (z a b : List Nat) : rep c z (a ++ b) = rep c z a ++ rep c z b := by simp [rep]
theorem rep_free (c : Nat) (z : List Nat) : ∀ l : List Nat, c ∉ l → rep c z l = l
  | [], _ => rfl
  | k :: r, h => by
    have h1 : ¬ k = c := fun e => h (e ▸ List.mem_cons_self ..)
    have h2 : c ∉ r := fun m => h (List.mem_cons_of_mem _ m)
    show (if k = c then z else [k]) ++ rep c z r = _
    rw [if_neg h1, rep_free c z r h2]; rfl
theorem rep_join (c : Nat) (z : Str) : ∀ parts : List Str, (∀ p ∈ parts, c ∉ p.cps.toList) → rep c z.cps.toList (Str.join ⟨#[c]⟩ parts).cps.toList = (Str.join z parts).cps.toList
  | [], _ => rfl
  | [p], h => rep_free c _ _ (h p (List.mem_singleton.mpr rfl))
  | p :: q :: r, h => by
    have ih := rep_join c z (q :: r) fun a ha => h a (List.mem_cons_of_mem _ ha)
    show rep c z.cps.toList (p ++ ⟨#[c]⟩ ++ Str.join ⟨#[c]⟩ (q :: r)).cps.toList = (p ++ z ++ Str.join z (q :: r)).cps.toList
    simp only [Str.cps_append, Array.toList_append]
    rw [rep_append, rep_append, ih, rep_free c _ _ (h p (List.mem_cons_self ..))]
    simp [rep]
theorem replace_rep (x z : Str) (c : Nat) : (Txt.replace x ⟨#[c]⟩ z).cps.toList = rep c z.cps.toList x.cps.toList := by
  rw [StrLaws.replace_one, ← rep_join c z _ (StrLaws.split_free x c), StrLaws.join_split]
theorem rep_len (c : Nat) (z : List Nat) (k : Nat) (hk : z.length ≤ k) (h1 : 1 ≤ k) : ∀ l : List Nat, (rep c z l).length ≤ k * l.length
  | [] => by simp [rep]
  | a :: l => by
    have ih := rep_len c z k hk h1 l
    have e : rep c z (a :: l) = (if a = c then z else [a]) ++ rep c z l := rfl
    rw [e, List.length_append, List.length_cons, Nat.mul_add, Nat.mul_one]
    split <;> simp <;> omega
theorem replace_len (x z : Str) (c k : Nat) (hk : z.length ≤ k) (h1 : 1 ≤ k) : (Txt.replace x ⟨#[c]⟩ z).length ≤ k * x.length := by
  have := rep_len c z.cps.toList k (by simpa [Str.length] using hk) h1 x.cps.toList
  rw [← replace_rep] at this
  simpa [Str.length] using this
theorem replace_none {x z : Str} {c : Nat} (h : (Builtin.Str.occurrences x ⟨#[c]⟩ 0 x.length 1).isEmpty = true) : Txt.replace x ⟨#[c]⟩ z = x := by
  have e := StrLaws.found_one x c
  rw [h] at e
  have hn : c ∉ x.cps.toList := by simpa using e.symm
  have := replace_rep x z c
  rw [rep_free _ _ _ hn] at this
  cases hx : Txt.replace x ⟨#[c]⟩ z with
  | mk a => rw [hx] at this; cases x with | mk b => exact congrArg Str.mk (Array.toList_inj.mp this)
theorem replace_lenE {x z cS : Str} {c k : Nat} (hc : cS = ⟨#[c]⟩) (hk : z.length ≤ k) (h1 : 1 ≤ k) : (Txt.replace x cS z).length ≤ k * x.length := by
  subst hc; exact replace_len x z c k hk h1
theorem replace_repE {x z cS : Str} {c : Nat} {zl : List Nat} (hc : cS = ⟨#[c]⟩) (hz : z.cps.toList = zl) : (Txt.replace x cS z).cps.toList = rep c zl x.cps.toList := by
  subst hc hz; exact replace_rep x z c
/-- what a sign becomes in an attribute's value -/
def escC (c : Nat) : List Nat :=
  if c = 38 then [38, 97, 109, 112, 59] else if c = 60 then [38, 108, 116, 59] else if c = 62 then [38, 103, 116, 59] else if c = 34 then [38, 113, 117, 111, 116, 59]
  else if c = 13 then [38, 35, 49, 51, 59] else if c = 10 then [38, 35, 49, 48, 59] else if c = 9 then [38, 35, 48, 57, 59] else [c]
def escF (l : List Nat) : List Nat := l.flatMap escC
def esc7 (l : List Nat) : List Nat := rep 9 [38, 35, 48, 57, 59] (rep 10 [38, 35, 49, 48, 59] (rep 13 [38, 35, 49, 51, 59] (rep 34 [38, 113, 117, 111, 116, 59] (rep 62 [38, 103, 116, 59] (rep 60 [38, 108, 116, 59] (rep 38 [38, 97, 109, 112, 59] l))))))
theorem esc7_append (a b : List Nat) : esc7 (a ++ b) = esc7 a ++ esc7 b := by simp only [esc7, rep_append]
theorem rep_one (c : Nat) (z : List Nat) (d : Nat) : rep c z [d] = if d = c then z else [d] := by simp [rep]
theorem esc7_one (d : Nat) : esc7 [d] = escC d := by
  unfold esc7 escC
  by_cases h1 : d = 38
  · subst h1; decide
  by_cases h2 : d = 60
  · subst h2; decide
  by_cases h3 : d = 62
  · subst h3; decide
  by_cases h4 : d = 34
  · subst h4; decide
  by_cases h5 : d = 13
  · subst h5; decide
  by_cases h6 : d = 10
  · subst h6; decide
  by_cases h7 : d = 9
  · subst h7; decide
  simp only [rep_one, if_neg h1, if_neg h2, if_neg h3, if_neg h4, if_neg h5, if_neg h6, if_neg h7]
theorem esc7_eq : ∀ l, esc7 l = escF l
  | [] => rfl
  | d :: l => by
    have := esc7_append [d] l
    rw [List.singleton_append] at this
    rw [this, esc7_one, esc7_eq l]; rfl
end Mine
end TextPure1
section TextEsc
open PySem PySem.W PyProof.Rows PySem.Calls
set_option maxRecDepth 100000
set_option maxHeartbeats 8000000
set_option pp.deepTerms false
set_option pp.maxSteps 1500
namespace Mine
/-! ## _escape_attrib -/
section Esc
local macro_rules | `(tactic| walk_at "eval Name") => `(tactic| (k_here; k_dflt (refine' ld ?k1 ?k2 ?_; (case k1 => k_asm); (case k2 => first | exact rfl | assumption); k_whole)))
local macro_rules | `(tactic| walk_at "execs cons") => `(tactic| ((with_reducible refine wpAny_execs_cons ?_); try dsimp only))
local macro_rules | `(tactic| walk_at "execs nil") => `(tactic| refine wpAny_execs_nil ?_)
def escSt (i : Nat) : Stmt := (match (fBody (st 5)).getD 0 (.Pass default) with | .Try b _ _ _ _ => b | _ => []).getD i (.Pass default)
abbrev escEnv (L f : Addr) (cd : Value) : Env := envOf (Str.ofString "_escape_attrib") (fScope (st 5)) L f cd
theorem replace_noneE {x z c : Str} (hc : ∃ k, c = ⟨#[k]⟩) (h : (Builtin.Str.occurrences x c 0 x.length 1).isEmpty = true) : Txt.replace x c z = x := by
  obtain ⟨k, rfl⟩ := hc
  exact replace_none h
/-- one if of the seven -/
def EscStep (S : Stmt) (c z : Str) : Prop := (∃ k, c = ⟨#[k]⟩) → ∀ {w : World} {h₀ : Heap} {L f : Addr} {m : Str → Option Value} {news : List (Addr × Obj)} {s : Shared} {A : Around} {E : Value → Shared → Prop} {Q : Flow → Shared → Prop} {cd : Value} {x : Str} {t : Tok} {rest : List Stmt}
    (_ : (KK w.params).In h₀) (_ : Fr h₀ L s.heap m) (_ : News h₀ L s.heap news) (_ : m (Str.ofString "text") = some (.str x t)) (_ : s.toks ≠ 0) (_ : x.length ≤ 1048576)
    (_ : ∀ h' m' t' tk', Fr h₀ L h' m' → News h₀ L h' news → m' (Str.ofString "text") = some (.str (Txt.replace x c z) t') → tk' ≠ 0 → wpAny (model PySem.Challenge.rw_oc0301_01.row.prog w) A (execs rest (escEnv L f cd)) Q E { s with heap := h', toks := tk' }),
    wpAny (model PySem.Challenge.rw_oc0301_01.row.prog w) A (execs (S :: rest) (escEnv L f cd)) Q E s
local macro_rules | `(tactic| walk_at "esc step") => `(tactic| (
  unfold EscStep
  w_on
  k_fill
  intro hc w h₀ L f m news s A E Q cd x t rest X F N hm hs hx h
  show wpAny _ _ (execs (Stmt.If _ _ _ _ :: _) _) _ _ _
  k_steps
  · rename (_ : List _).isEmpty = true => he
    exact h _ _ _ _ (by assumption) (by assumption) (by rw [replace_noneE (by assumption) he]; assumption) (by omega)
  · exact h _ _ _ _ (by assumption) (by assumption) rfl (by omega)))
theorem esc0 : EscStep (escSt 0) (Str.ofString "&") (Str.ofString "&amp;") := by walk_at "esc step"
theorem esc1 : EscStep (escSt 1) (Str.ofString "<") (Str.ofString "&lt;") := by walk_at "esc step"
theorem esc2 : EscStep (escSt 2) (Str.ofString ">") (Str.ofString "&gt;") := by walk_at "esc step"
theorem esc3 : EscStep (escSt 3) (Str.ofString "\"") (Str.ofString "&quot;") := by walk_at "esc step"
theorem esc4 : EscStep (escSt 4) (Str.ofString "\r") (Str.ofString "&#13;") := by walk_at "esc step"
theorem esc5 : EscStep (escSt 5) (Str.ofString "\n") (Str.ofString "&#10;") := by walk_at "esc step"
theorem esc6 : EscStep (escSt 6) (Str.ofString "\t") (Str.ofString "&#09;") := by walk_at "esc step"
theorem esc_spec : ∀ {w : World} {mean : ExcName → Option Value} {mg mb : Str → Option Value} {A A₀ : Around} {env : Env} {outer : List Env} {base h₀ : Heap} {L : Addr} {m : Str → Option Value} {news : List (Addr × Obj)} {s : Shared} {Q E : Value → Shared → Prop} {x : Str} {t : Tok}
    (_ : Below A₀ base outer h₀) (_ : Fr h₀ L s.heap m) (_ : (KK w.params).In h₀) (_ : News h₀ L s.heap news) (_ : Top VQ (looseW VQ LQ) mean mg mb h₀) (_ : A.frames = some (env :: outer)) (_ : env.frame = some L) (_ : env.scope.kind = .function) (_ : A.depth < recursionLimit) (_ : x.length ≤ 17)
    (_ : ∀ t' h' tk', Fr h₀ L h' m → News h₀ L h' news → tk' ≠ 0 → Q (.str (S (escF x.cps.toList)) t') { s with heap := h', toks := tk' }),
    wpAny (model PySem.Challenge.rw_oc0301_01.row.prog w) A (call (.ref 58) [.str x t]) Q E s := by
  w_on
  k_fill
  intro w mean mg mb A A₀ env outer base h₀ L m news s Q E x t B F X N T hA hf hk hd hx hret
  refine wpAny_call ?_
  refine' code_def (binds := [(Str.ofString "text", .str x t)]) B F X N T hA hf hk ?k6 ?k7 hd ?k9 ?kB ?_ ?c2 ?c3 ?c4 ?c5
  case k6 => k_is
  case k7 => k_is
  case k9 => exact BindsTo.of_eq rfl
  case c5 => decide
  case kB => exact locs rfl
  case c2 => exact rfl
  case c3 => exact rfl
  case c4 => exact rfl
  intro g L' h₁ FG F' N' B' X' T'
  dsimp only
  k_fold
  show wpAny _ _ (execs (Stmt.Try _ _ _ _ _ :: _) _) _ _ _
  refine wpAny_execs_cons ?_
  walk1
  k_fold
  refine esc0 ⟨38, by decide +kernel⟩ X' F' N' rfl (by simp) (by omega) ?_
  intro h2 m2 t2 k2 F2 N2 e2 z2
  have l2 : (Txt.replace x (Str.ofString "&") (Str.ofString "&amp;")).length ≤ 5 * x.length := replace_lenE (c := 38) (by decide +kernel) (by decide +kernel) (by decide)
  have v2 : (Txt.replace x (Str.ofString "&") (Str.ofString "&amp;")).cps.toList = rep 38 [38, 97, 109, 112, 59] x.cps.toList := replace_repE (by decide +kernel) (by decide +kernel)
  generalize Txt.replace x (Str.ofString "&") (Str.ofString "&amp;") = x1 at e2 l2 v2
  refine esc1 ⟨60, by decide +kernel⟩ X' F2 N2 e2 z2 (by omega) ?_
  intro h3 m3 t3 k3 F3 N3 e3 z3
  have l3 : (Txt.replace x1 (Str.ofString "<") (Str.ofString "&lt;")).length ≤ 4 * x1.length := replace_lenE (c := 60) (by decide +kernel) (by decide +kernel) (by decide)
  have v3 : (Txt.replace x1 (Str.ofString "<") (Str.ofString "&lt;")).cps.toList = rep 60 [38, 108, 116, 59] x1.cps.toList := replace_repE (by decide +kernel) (by decide +kernel)
  generalize Txt.replace x1 (Str.ofString "<") (Str.ofString "&lt;") = x2 at e3 l3 v3
  refine esc2 ⟨62, by decide +kernel⟩ X' F3 N3 e3 z3 (by omega) ?_
  intro h4 m4 t4 k4 F4 N4 e4 z4
  have l4 : (Txt.replace x2 (Str.ofString ">") (Str.ofString "&gt;")).length ≤ 4 * x2.length := replace_lenE (c := 62) (by decide +kernel) (by decide +kernel) (by decide)
  have v4 : (Txt.replace x2 (Str.ofString ">") (Str.ofString "&gt;")).cps.toList = rep 62 [38, 103, 116, 59] x2.cps.toList := replace_repE (by decide +kernel) (by decide +kernel)
  generalize Txt.replace x2 (Str.ofString ">") (Str.ofString "&gt;") = x3 at e4 l4 v4
  refine esc3 ⟨34, by decide +kernel⟩ X' F4 N4 e4 z4 (by omega) ?_
  intro h5 m5 t5 k5 F5 N5 e5 z5
  have l5 : (Txt.replace x3 (Str.ofString "\"") (Str.ofString "&quot;")).length ≤ 6 * x3.length := replace_lenE (c := 34) (by decide +kernel) (by decide +kernel) (by decide)
  have v5 : (Txt.replace x3 (Str.ofString "\"") (Str.ofString "&quot;")).cps.toList = rep 34 [38, 113, 117, 111, 116, 59] x3.cps.toList := replace_repE (by decide +kernel) (by decide +kernel)
  generalize Txt.replace x3 (Str.ofString "\"") (Str.ofString "&quot;") = x4 at e5 l5 v5
  refine esc4 ⟨13, by decide +kernel⟩ X' F5 N5 e5 z5 (by omega) ?_
  intro h6 m6 t6 k6 F6 N6 e6 z6
  have l6 : (Txt.replace x4 (Str.ofString "\r") (Str.ofString "&#13;")).length ≤ 5 * x4.length := replace_lenE (c := 13) (by decide +kernel) (by decide +kernel) (by decide)
  have v6 : (Txt.replace x4 (Str.ofString "\r") (Str.ofString "&#13;")).cps.toList = rep 13 [38, 35, 49, 51, 59] x4.cps.toList := replace_repE (by decide +kernel) (by decide +kernel)
  generalize Txt.replace x4 (Str.ofString "\r") (Str.ofString "&#13;") = x5 at e6 l6 v6
  refine esc5 ⟨10, by decide +kernel⟩ X' F6 N6 e6 z6 (by omega) ?_
  intro h7 m7 t7 k7 F7 N7 e7 z7
  have l7 : (Txt.replace x5 (Str.ofString "\n") (Str.ofString "&#10;")).length ≤ 5 * x5.length := replace_lenE (c := 10) (by decide +kernel) (by decide +kernel) (by decide)
  have v7 : (Txt.replace x5 (Str.ofString "\n") (Str.ofString "&#10;")).cps.toList = rep 10 [38, 35, 49, 48, 59] x5.cps.toList := replace_repE (by decide +kernel) (by decide +kernel)
  generalize Txt.replace x5 (Str.ofString "\n") (Str.ofString "&#10;") = x6 at e7 l7 v7
  refine esc6 ⟨9, by decide +kernel⟩ X' F7 N7 e7 z7 (by omega) ?_
  intro h8 m8 t8 k8 F8 N8 e8 z8
  have l8 : (Txt.replace x6 (Str.ofString "\t") (Str.ofString "&#09;")).length ≤ 5 * x6.length := replace_lenE (c := 9) (by decide +kernel) (by decide +kernel) (by decide)
  have v8 : (Txt.replace x6 (Str.ofString "\t") (Str.ofString "&#09;")).cps.toList = rep 9 [38, 35, 48, 57, 59] x6.cps.toList := replace_repE (by decide +kernel) (by decide +kernel)
  generalize Txt.replace x6 (Str.ofString "\t") (Str.ofString "&#09;") = x7 at e8 l8 v8
  have hx7 : x7 = S (escF x.cps.toList) := by
    rw [← S_toList x7, v8, v7, v6, v5, v4, v3, v2, ← esc7_eq]; rfl
  subst hx7
  k_steps
  exact hret _ _ _ (by assumption) (by assumption) (by assumption)
end Esc
end Mine
end TextEsc
section TextRe1
open PySem PySem.W PyProof.Rows PySem.Calls
set_option maxRecDepth 100000
namespace Mine
/-! ## the search for an unsafe sign -/
def SIGNS : List Nat := [97, 37, 38, 60, 62, 34, 39, 32, 9, 10, 13, 35, 92, 233]
def SAFE : List Nat := [97, 37]
def UNSAFE : List Nat := [38, 60, 62, 34, 39, 32, 9, 10, 13, 35, 92, 233]
def reCode : Array Nat := #[14, 17, 4, 1, 1, 21, 9, 0, 604043296, 1, 0, 0, 0, 0, 0, 8, 4, 0, 13, 14, 21, 9, 0, 604043296, 1, 0, 0, 0, 0, 0, 8, 4, 0, 1]
/-- rules are let by -/
noncomputable def val? {α : Type} : Sem α → Option α
  | .pure a => some a
  | .rule _ k => val? (k ())
  | _ => none
theorem wp_of_val? {α : Type} {M : Model} {A : Around} {Q : α → Shared → Prop} {E : Value → Shared → Prop} {s : Shared} {a : α} (q : Q a s) : ∀ t : Sem α, val? t = some a → wpAny M A t Q E s := by
  intro t h Γ p hΓ
  induction t with
  | pure b => cases h; exact q
  | rule _ k ih => exact ih () h
  | _ => cases h
def reRun (x : Array Nat) : Sem (Option Sre.M) := Builtin.Re.reRunToEnd (Sre.forSearch reCode x 0 0 x.size false)
noncomputable def reOut (l : List Nat) : Option Bool := (val? (reRun l.toArray)).map Option.isSome
def reTgt (x : Str) (t : Tok) : Builtin.Re.ReTarget := { pattern := .ref 105, string := .str x t, code := reCode, text := x.cps, kind := 0, groups := 0, pos := min (0 : Int).toNat x.cps.size, lim := min (2 ^ 63 - 1 : Int).toNat x.cps.size }
theorem entry_search : entryFor table "re.Pattern.search" = some Builtin.«re.Pattern.search» := entryFor_of_fast (by kernel_rfl)
theorem looks_target {w : World} {h : Heap} (X : (KK w.params).In h) {x : Str} {t : Tok} : Looks (model PySem.Challenge.rw_oc0301_01.row.prog w) h (Builtin.Re.reTarget "re.Pattern.search" "search" ⟨[.ref 105, .str x t], []⟩) (reTgt x t) :=
  Looks.of_peek X (by kernel_rfl)
theorem looks_check {w : World} {h : Heap} (X : (KK w.params).In h) {x : Str} {t : Tok} : Looks (model PySem.Challenge.rw_oc0301_01.row.prog w) h (checkBoundCall "re.Pattern.search" ⟨[.ref 105, .str x t], []⟩) () :=
  Looks.of_peek X (by kernel_rfl)
theorem looks_keeper {w : World} {h : Heap} (X : (KK w.params).In h) : Looks (model PySem.Challenge.rw_oc0301_01.row.prog w) h (keeperOf (.ref 801)) .machine :=
  Looks.of_peek X (by kernel_rfl)
theorem reTgt_run {x : Str} {t : Tok} (hx : x.length ≤ 100) : Sre.forSearch (reTgt x t).code (reTgt x t).text (reTgt x t).groups (reTgt x t).pos (reTgt x t).lim false = Sre.forSearch reCode x.cps 0 0 x.cps.size false := by
  have h1 : (reTgt x t).pos = 0 := by show min (0 : Int).toNat x.cps.size = 0; simp
  have h2 : (reTgt x t).lim = x.cps.size := by
    show min (2 ^ 63 - 1 : Int).toNat x.cps.size = x.cps.size
    have : x.cps.size ≤ 100 := hx
    have e : (2 ^ 63 - 1 : Int).toNat = 9223372036854775807 := by decide
    rw [e]; omega
  rw [h1, h2]; rfl
theorem search_spec {w : World} {A : Around} {h₀ : Heap} {L : Addr} {m : Str → Option Value} {news : List (Addr × Obj)} {s : Shared} {Q E : Value → Shared → Prop} {x : Str} {t : Tok} {b : Bool}
    (X : (KK w.params).In h₀) (F : Fr h₀ L s.heap m) (N : News h₀ L s.heap news) (hx : x.length ≤ 100) (hb : reOut x.cps.toList = some b)
    (h0 : b = false → Q .none s) (h1 : b = true → ∀ a h', Fr h₀ L h' m → News h₀ L h' news → Q (.ref a) { s with heap := h' }) :
    wpAny (model PySem.Challenge.rw_oc0301_01.row.prog w) A (call (.ref 801) [.str x t]) Q E s := by
  have X' := X.keeps F.keep
  refine wpAny_call (codeAny_of_tree ?_)
  show wpAny _ _ (callAny (.ref 801) ⟨[.str x t], []⟩) _ _ s
  unfold callAny
  refine wpAny_bind (wpAny_load (X' 801 ⟨.type "builtin_function_or_method", none, .fields #[.builtin "re.Pattern.search", .ref 105], #[]⟩ (by kernel_rfl)) ?_)
  refine wpAny_bind ((looks_check X').here ?_)
  refine wpAny_pure ⟨by kernel_rfl, ?_⟩
  show codeAny _ _ (.builtin "re.Pattern.search" ⟨[.ref 105, .str x t], []⟩) _ s
  refine codeAny_builtin entry_search ?_
  unfold Builtin.«re.Pattern.search»
  refine wpAny_bind ((looks_target X').here ?_)
  unfold Builtin.Re.reAnswer
  rw [reTgt_run hx]
  unfold reOut at hb
  obtain ⟨r, hr, hr'⟩ := Option.map_eq_some_iff.mp hb
  rw [show x.cps.toList.toArray = x.cps by simp] at hr
  refine wpAny_bind (wp_of_val? ?_ _ hr)
  cases r with
  | none => exact wpAny_pure (h0 hr'.symm)
  | some r =>
    refine wpAny_bind ?_
    show wpAny _ _ (Builtin.Re.reNewMatch (.ref 105) (.str x t) 0 _ _ r) _ _ s
    unfold Builtin.Re.reNewMatch
    dsimp only [List.range_zero, List.flatMap_nil, List.any_nil, Bool.false_eq_true, if_false]
    refine wpAny_bind (wpAny_newObj_type ?_ (show (2 : Nat) ≤ sizeLine by decide))
    refine wpAny_newObj_type ?_ (show (6 : Nat) ≤ sizeLine + 2 by decide)
    refine wpAny_pure ?_
    have F1 := F.push { cls := .type "tuple", data := .seq [rawInt r.start, rawInt r.handed].toArray }
    have N1 := N.push F { cls := .type "tuple", data := .seq [rawInt r.start, rawInt r.handed].toArray }
    refine h1 hr'.symm _ _ (F1.push _) (fun p hp => (N1.push F1 _) p (.tail _ (.tail _ hp)))
end Mine
end TextRe1
section TextRe2
open PySem PySem.W PyProof.Rows PySem.Calls
set_option maxRecDepth 100000
namespace Mine
def isSafe (c : Nat) : Bool := c == 97 || c == 37
def IsWord (l : List Nat) : Prop := l.length ≤ 3 ∧ ∀ c ∈ l, c ∈ SIGNS
theorem re1 : (SIGNS.all fun a => reOut [a] == some (!isSafe a)) = true := by decide +kernel
theorem re2u (y : Nat) : (UNSAFE.all fun a => reOut [a, y] == some true) = true := by kernel_rfl
theorem re2s : (SAFE.all fun a => SIGNS.all fun b => reOut [a, b] == some (!isSafe b)) = true := by decide +kernel
theorem re3u (y z : Nat) : (UNSAFE.all fun a => reOut [a, y, z] == some true) = true := by kernel_rfl
theorem re3su (z : Nat) : (SAFE.all fun a => UNSAFE.all fun b => reOut [a, b, z] == some true) = true := by kernel_rfl
theorem re3s : (SAFE.all fun a => SAFE.all fun b => SIGNS.all fun c => reOut [a, b, c] == some (!isSafe c)) = true := by decide +kernel
theorem sign_split {c : Nat} (h : c ∈ SIGNS) : (c ∈ SAFE ∧ isSafe c = true) ∨ (c ∈ UNSAFE ∧ isSafe c = false) := by
  revert c; decide
theorem all_get {α : Type} {l : List α} {f : α → Bool} (h : l.all f = true) {a : α} (ha : a ∈ l) : f a = true := List.all_eq_true.mp h a ha
theorem reOut_word {l : List Nat} (h : IsWord l) (hne : l ≠ []) : reOut l = some (!l.all isSafe) := by
  obtain ⟨hl, hs⟩ := h
  match l, hl, hs, hne with
  | [a], _, hs, _ =>
    have := all_get re1 (hs a (by simp))
    simpa using this
  | [a, b], _, hs, _ =>
    have ha := hs a (by simp)
    have hb := hs b (by simp)
    rcases sign_split ha with ⟨h1, h2⟩ | ⟨h1, h2⟩
    · have := all_get (all_get re2s h1) hb
      simp only [beq_iff_eq] at this
      simp [this, h2]
    · have := all_get (re2u b) h1
      simp only [beq_iff_eq] at this
      simp [this, h2]
  | [a, b, c], _, hs, _ =>
    have ha := hs a (by simp)
    have hb := hs b (by simp)
    have hc := hs c (by simp)
    rcases sign_split ha with ⟨h1, h2⟩ | ⟨h1, h2⟩
    · rcases sign_split hb with ⟨h3, h4⟩ | ⟨h3, h4⟩
      · have := all_get (all_get (all_get re3s h1) h3) hc
        simp only [beq_iff_eq] at this
        simp [this, h2, h4]
      · have := all_get (all_get (re3su c) h1) h3
        simp only [beq_iff_eq] at this
        simp [this, h2, h4]
    · have := all_get (re3u b c) h1
      simp only [beq_iff_eq] at this
      simp [this, h2]
end Mine
end TextRe2
section TextQuote
open PySem PySem.W PyProof.Rows PySem.Calls
set_option maxRecDepth 100000
set_option maxHeartbeats 8000000
set_option pp.deepTerms false
set_option pp.maxSteps 1500
namespace Mine
def quoteF (l : List Nat) : List Nat := if l = [] then [39, 39] else if l.all isSafe then l else 39 :: (rep 39 [39, 34, 39, 34, 39] l ++ [39])
theorem callWith_find {w : World} {A : Around} {E : Value → Shared → Prop} {s : Shared} {env : Env} {pos : Pos} {Q : Value → Shared → Prop} {e : Expr}
    (h : wpAny (model PySem.Challenge.rw_oc0301_01.row.prog w) A (spliced (backTo pos (starEach [e] env))) (fun vs s₁ => (KK w.params).In s₁.heap ∧ wpAny (model PySem.Challenge.rw_oc0301_01.row.prog w) A (call (.ref 801) vs) Q E s₁) E s)
    (he : starEach [e] env = (false, eval e env) :: starEach [] env := by rfl) :
    wpAny (model PySem.Challenge.rw_oc0301_01.row.prog w) A (callWith pos (.ref 801) [] (backTo pos (starEach [e] env)) []) Q E s := by
  rw [he] at h ⊢
  exact callWith_of rfl (fun h X => ⟨.machine, .inr (.inl rfl), looks_keeper X⟩) (evalArgs_plain h)
section Quote
local macro_rules | `(tactic| walk_at "eval Name") => `(tactic| (k_here; k_dflt (refine' ld ?k1 ?k2 ?_; (case k1 => k_asm); (case k2 => first | exact rfl | assumption); k_whole)))
local macro_rules | `(tactic| walk_at "execs cons") => `(tactic| ((with_reducible refine wpAny_execs_cons ?_); try dsimp only))
local macro_rules | `(tactic| walk_at "execs nil") => `(tactic| refine wpAny_execs_nil ?_)
local macro_rules | `(tactic| walk_at "callWith ref") => `(tactic| (k_here; (with_reducible show wpAny _ _ (callWith _ (Value.ref 801) _ _ _) _ _ _); refine callWith_find ?_))
local macro_rules | `(tactic| walk_at "binaryOp Add str str") => `(tactic| (k_here; (refine' PyProof.Rows.add_str ?_ ?hsz; (case hsz => (have hq1 : (Str.ofString "'").length = 1 := by decide +kernel); (simp only [Str.length_append]); (rw [sizeLine_eq]); omega)); intro _ _))
theorem quote_spec : ∀ {w : World} {mean : ExcName → Option Value} {mg mb : Str → Option Value} {A A₀ : Around} {env : Env} {outer : List Env} {base h₀ : Heap} {L : Addr} {m : Str → Option Value} {news : List (Addr × Obj)} {s : Shared} {Q E : Value → Shared → Prop} {x : Str} {t : Tok}
    (_ : Below A₀ base outer h₀) (_ : Fr h₀ L s.heap m) (_ : (KK w.params).In h₀) (_ : News h₀ L s.heap news) (_ : Top VQ (looseW VQ LQ) mean mg mb h₀) (_ : A.frames = some (env :: outer)) (_ : env.frame = some L) (_ : env.scope.kind = .function) (_ : A.depth < recursionLimit) (_ : IsWord x.cps.toList)
    (_ : ∀ t' h' tk', Fr h₀ L h' m → News h₀ L h' news → Q (.str (S (quoteF x.cps.toList)) t') { s with heap := h', toks := tk' }),
    wpAny (model PySem.Challenge.rw_oc0301_01.row.prog w) A (call (.ref 808) [.str x t]) Q E s := by
  w_on
  k_fill
  intro w mean mg mb A A₀ env outer base h₀ L m news s Q E x t B F X N T hA hf hk hd hx hret
  have hlen : x.length ≤ 3 := by have := hx.1; simpa [Str.length] using this
  refine wpAny_call ?_
  refine' code_def (binds := [(Str.ofString "s", .str x t)]) B F X N T hA hf hk ?k6 ?k7 hd ?k9 ?kB ?_ ?c2 ?c3 ?c4 ?c5
  case k6 => k_is
  case k7 => k_is
  case k9 => exact BindsTo.of_eq rfl
  case c5 => decide
  case kB => exact locs rfl
  case c2 => exact rfl
  case c3 => exact rfl
  case c4 => exact rfl
  intro g L' h₁ FG F' N' B' X' T'
  dsimp only
  k_fold
  k_steps
  · rename ((x.length : Int) ≠ 0) => hne
    have hne' : x.cps.toList ≠ [] := fun e => hne (by have : x.cps.toList.length = 0 := by rw [e]; rfl
                                                      have h2 : x.length = 0 := by simpa [Str.length] using this
                                                      rw [h2]; rfl)
    refine search_spec X' (by assumption) (by assumption) (by omega) (reOut_word hx hne') ?_ ?_
    · intro hs
      k_steps
      have e : Value.str x t = Value.str (S (quoteF x.cps.toList)) t := by
        unfold quoteF
        rw [if_neg hne', if_pos (by simpa using hs), S_toList]
      rw [e]
      exact hret _ _ _ (by assumption) (by assumption)
    · intro hs a h' F2 N2
      dsimp only
      have hl : (Txt.replace x (Str.ofString "'") (Str.ofString "'\"'\"'")).length ≤ 5 * x.length := replace_lenE (c := 39) (by decide +kernel) (by decide +kernel) (by decide)
      have hv : (Txt.replace x (Str.ofString "'") (Str.ofString "'\"'\"'")).cps.toList = rep 39 [39, 34, 39, 34, 39] x.cps.toList := replace_repE (by decide +kernel) (by decide +kernel)
      k_steps
      have e : Str.ofString "'" ++ Txt.replace x (Str.ofString "'") (Str.ofString "'\"'\"'") ++ Str.ofString "'" = S (quoteF x.cps.toList) := by
        unfold quoteF
        rw [if_neg hne', if_neg (by simpa using hs)]
        refine Str.ext' (Array.toList_inj.mp ?_)
        simp only [Str.cps_append, Array.toList_append, hv]
        rw [show (Str.ofString "'").cps.toList = [39] by decide +kernel]
        simp
      rw [e]
      exact hret _ _ _ (by assumption) (by assumption)
  · have hz : x.cps.toList = [] := by
      have h0 : (x.length : Int) = 0 := by assumption
      have h2 : x.length = 0 := by omega
      exact List.length_eq_zero_iff.mp (by simpa [Str.length] using h2)
    have e : Str.ofString "''" = S (quoteF x.cps.toList) := by rw [hz]; decide +kernel
    rw [e]
    exact hret _ _ _ (by assumption) (by assumption)
end Quote
end Mine
end TextQuote
section TextWord
open PySem PySem.W PyProof.Rows PySem.Calls
set_option maxRecDepth 100000
set_option maxHeartbeats 8000000
set_option pp.deepTerms false
set_option pp.maxSteps 1500
namespace Mine
section Word
local macro_rules | `(tactic| walk_at "eval Name") => `(tactic| (k_here; k_dflt (refine' ld ?k1 ?k2 ?_; (case k1 => k_asm); (case k2 => first | exact rfl | assumption); k_whole)))
abbrev wordEnv (L f : Addr) (cd : Value) : Env := envOf (Str.ofString "_law_word") (fScope (st 36)) L f cd
def wordTurn : List Stmt := forBody ((fBody (st 36)).getD 3 (.Pass default))
def wdig (n : Int) : List Nat := if n.fmod 15 = 0 then [] else [SIGNS.getD (n.fmod 15 - 1).toNat 0]
theorem item_signs {k : Int} (h0 : 0 ≤ k) (h1 : k < 14) : Txt.item (S SIGNS) k = S [SIGNS.getD k.toNat 0] := by
  have : ∀ i : Fin 14, Txt.item (S SIGNS) (i.val : Int) = S [SIGNS.getD ((i.val : Int)).toNat 0] := by decide +kernel
  have h2 := this ⟨k.toNat, by omega⟩
  rw [show ((k.toNat : Nat) : Int) = k by omega] at h2
  exact h2
theorem S_append (a b : List Nat) : S a ++ S b = S (a ++ b) := Str.ext' (by simp [Str.cps_append])
noncomputable def wordK : Nat → Int → List Nat
  | 0, _ => []
  | k + 1, n => wdig n ++ wordK k (n.fdiv 15)
noncomputable def wordF (x : Int) : List Nat := wordK 3 ((x.fmod 13500).fdiv 4)
theorem wdig_len (n : Int) : (wdig n).length ≤ 1 := by unfold wdig; split <;> simp
/-- one turn -/
theorem word_turn : ∀ {w : World} {h₀ : Heap} {L f : Addr} {m : Str → Option Value} {news : List (Addr × Obj)} {s : Shared} {A : Around} {E : Value → Shared → Prop} {Q : Flow → Shared → Prop} {cd : Value} {x : List Nat} {n : Int} {t1 t2 t3 : Tok}
    (_ : (KK w.params).In h₀) (_ : Fr h₀ L s.heap m) (_ : News h₀ L s.heap news) (_ : m (Str.ofString "left") = some (.int n t1)) (_ : m (Str.ofString "word") = some (.str (S x) t2)) (_ : m (Str.ofString "signs") = some (.str (S SIGNS) t3)) (_ : 0 ≤ n) (_ : x.length ≤ 10)
    (_ : ∀ h' m' t1 t2 tk', Fr h₀ L h' m' → News h₀ L h' news → m' (Str.ofString "left") = some (.int (n.fdiv 15) t1) → m' (Str.ofString "word") = some (.str (S (x ++ wdig n)) t2) → m' (Str.ofString "signs") = some (.str (S SIGNS) t3) → Q .next { s with heap := h', toks := tk' }),
    wpAny (model PySem.Challenge.rw_oc0301_01.row.prog w) A (execs wordTurn (wordEnv L f cd)) Q E s := by
  w_on
  k_fill
  intro w h₀ L f m news s A E Q cd x n t1 t2 t3 X F N h1 h2 h3 hn hx h
  have hxl : (S x).length ≤ 10 := by rw [S_len]; exact hx
  show wpAny _ _ (execs (Stmt.If _ _ _ _ :: _) _) _ _ _
  have hb := fdiv_fmod_facts n 15
  k_steps
  · rename (n.fmod 15 ≠ 0) => hne
    have e : S (x ++ wdig n) = S x ++ Txt.item (S SIGNS) (n.fmod 15 - 1) := by
      rw [item_signs (by omega) (by omega), S_append]
      unfold wdig
      rw [if_neg hne]
    rw [e] at h
    exact h _ _ _ _ _ (by assumption) (by assumption) rfl rfl (by assumption)
  · have e : wdig n = [] := by unfold wdig; rw [if_pos (by assumption)]
    rw [e, List.append_nil] at h
    exact h _ _ _ _ _ (by assumption) (by assumption) rfl (by assumption) (by assumption)
theorem word_loop {w : World} {h₀ : Heap} {L f : Addr} {news : List (Addr × Obj)} {s : Shared} {A : Around} {E : Value → Shared → Prop} {Q : Flow → Shared → Prop} {cd : Value} {t3 : Tok} {I : Addr} (X : (KK w.params).In h₀) (off : ∀ p ∈ news, p.1 ≠ I) :
    ∀ (k i : Nat) (m : Str → Option Value) (x : List Nat) (n : Int) (t1 t2 : Tok), m (Str.ofString "left") = some (.int n t1) → m (Str.ofString "word") = some (.str (S x) t2) → m (Str.ofString "signs") = some (.str (S SIGNS) t3) → 0 ≤ n → x.length + k ≤ 10 →
    (∀ h tk m' t', Fr h₀ L h m' → News h₀ L h news → m' (Str.ofString "word") = some (.str (S (x ++ wordK k n)) t') → Q .next { s with heap := h, toks := tk }) →
    RangeRest PySem.Challenge.rw_oc0301_01.row.prog w A E h₀ (wordEnv L f cd) (Str.ofString "k") wordTurn Q s I 0 3 k i m news
  | 0, i, m, x, n, t1, t2, e1, e2, e3, hn, hx, h => by
    refine RangeRest.zero fun h' tk F N => h h' tk m t2 F N ?_
    rw [wordK, List.append_nil]; exact e2
  | k + 1, i, m, x, n, t1, t2, e1, e2, e3, hn, hx, h => by
    refine RangeRest.succ fun t h' tk F N => ?_
    refine word_turn X F N (t1 := t1) (t2 := t2) (t3 := t3) (by exact e1) (by exact e2) (by exact e3) hn (by omega) ?_
    intro h2 m2 t1' t2' tk2 F2 N2 d1 d2 d3
    refine ⟨h2, tk2, m2, news, rfl, F2, N2, off, ?_⟩
    refine word_loop X off k (i + 1) m2 (x ++ wdig n) (n.fdiv 15) t1' t2' d1 d2 d3 (Int.fdiv_nonneg hn (by decide)) (by have := wdig_len n; rw [List.length_append]; omega) ?_
    intro h3 tk3 m3 t' F3 N3 d
    refine h h3 tk3 m3 t' F3 N3 ?_
    rw [d, wordK, List.append_assoc]
local macro_rules | `(tactic| walk_at "pyIter ref") => `(tactic| walk_at "no such")
local macro_rules | `(tactic| walk_at "exec For Name Call cons nil") => `(tactic| (k_here; (rename Fr _ _ _ _ => lF'); (with_unfolding_all refine' For_invVF lF' ?k1 ?k2 ?_; (case k1 => exact rfl); (case k2 => exact rfl); k_whole)))
theorem word_spec : ∀ {w : World} {mean : ExcName → Option Value} {mg mb : Str → Option Value} {A A₀ : Around} {env : Env} {outer : List Env} {base h₀ : Heap} {L : Addr} {m : Str → Option Value} {news : List (Addr × Obj)} {s : Shared} {Q E : Value → Shared → Prop} {x : Int} {t : Tok}
    (_ : Below A₀ base outer h₀) (_ : Fr h₀ L s.heap m) (_ : (KK w.params).In h₀) (_ : News h₀ L s.heap news) (_ : Top VQ (looseW VQ LQ) mean mg mb h₀) (_ : A.frames = some (env :: outer)) (_ : env.frame = some L) (_ : env.scope.kind = .function) (_ : A.depth < recursionLimit) (_ : A.handled = none)
    (_ : ∀ t' h' tk', Fr h₀ L h' m → News h₀ L h' news → Q (.str (S (wordF x)) t') { s with heap := h', toks := tk' }),
    wpAny (model PySem.Challenge.rw_oc0301_01.row.prog w) A (call (.ref 815) [.int x t]) Q E s := by
  w_on
  k_fill
  intro w mean mg mb A A₀ env outer base h₀ L m news s Q E x t B F X N T hA hf hk hd hh hret
  refine wpAny_call ?_
  refine' code_def (binds := [(Str.ofString "x", .int x t)]) B F X N T hA hf hk ?k6 ?k7 hd ?k9 ?kB ?_ ?c2 ?c3 ?c4 ?c5
  case k6 => k_is
  case k7 => k_is
  case k9 => exact BindsTo.of_eq rfl
  case c5 => decide
  case kB => exact locs rfl
  case c2 => exact rfl
  case c3 => exact rfl
  case c4 => exact rfl
  intro g L' h₁ FG F' N' B' X' T'
  dsimp only
  k_fold
  k_steps
  dsimp only at *
  refine iter_rangeUnr (n := 3) hh (by assumption) (by decide) (by decide) (by assumption) (by assumption) ?_
  intro I hI
  refine word_loop X' (fun p hp => Nat.ne_of_lt (hI p hp)) 3 0 _ [] ((x.fmod 13500).fdiv 4) _ _ rfl rfl rfl ?_ (by decide) ?_
  · have := fdiv_fmod_facts x 13500
    exact Int.fdiv_nonneg (by omega) (by decide)
  intro h4 tk4 m4 t4 F4 N4 e4
  rw [List.nil_append] at e4
  k_steps
  exact hret _ _ _ (by assumption) (by assumption)
end Word
end Mine
end TextWord
section TextPureR
open PySem PySem.W PyProof.Rows PySem.Calls
namespace Mine
theorem slice_to_S {a b : List Nat} : Txt.slice (S (a ++ b)) none (some (a.length : Int)) = S a := by
  show StrLaws.sliceText _ none (some _) = _
  rw [StrLaws.sliceText_to ⟨by omega, by simp; omega⟩]
  simp [S]
theorem slice_from_S {a b : List Nat} : Txt.slice (S (a ++ b)) (some (a.length : Int)) none = S b := by
  show StrLaws.sliceText _ (some _) none = _
  rw [StrLaws.sliceText_from ⟨by omega, by simp; omega⟩]
  have e : (((a ++ b).length : Int) - (a.length : Int)).toNat = b.length := by rw [List.length_append]; omega
  show (⟨(((a ++ b).drop (a.length : Int).toNat).take (((a ++ b).length : Int) - (a.length : Int)).toNat).toArray⟩ : Str) = _
  rw [e]
  simp [S]
theorem find_S {c : Nat} {a b : List Nat} (h : c ∉ a) : Txt.find (S (a ++ c :: b)) ⟨#[c]⟩ = (a.length : Int) := by
  have gd : ∀ v, (S (a ++ c :: b)).cps.getD v 0 = (a ++ c :: b).getD v 0 := fun v => by simp [S, Array.getD, List.getD]; split <;> simp_all
  have hlen : (S (a ++ c :: b)).length = a.length + (b.length + 1) := by rw [S_len]; simp
  have at_a : (a ++ c :: b).getD a.length 0 = c := by simp
  rw [find_is_find3]
  have fz : PySem.fromIndex (S (a ++ c :: b)).length 0 = 0 := by simp [PySem.fromIndex]
  rcases StrLaws.find3_spec (S (a ++ c :: b)) c 0 with ⟨_, hn⟩ | ⟨k, e, _, hk, hc, hlt⟩
  · exact absurd ((gd _).trans at_a) (hn a.length (by rw [fz]; omega) (by omega))
  · rw [e]
    rw [gd] at hc
    rcases Nat.lt_trichotomy k a.length with h1 | h1 | h1
    · exfalso
      apply h
      rw [← hc]
      simp [List.getD, List.getElem?_append_left h1, h1]
    · rw [h1]
    · exact absurd ((gd _).trans at_a) (hlt a.length (by rw [fz]; omega) h1)
noncomputable def joinL (c : Nat) : List (List Nat) → List Nat
  | [] => []
  | [p] => p
  | p :: q :: r => p ++ c :: joinL c (q :: r)
theorem join_S (c : Nat) : ∀ ps : List Str, (Str.join ⟨#[c]⟩ ps).cps.toList = joinL c (ps.map fun p => p.cps.toList)
  | [] => rfl
  | [p] => rfl
  | p :: q :: r => by
    have ih := join_S c (q :: r)
    show (p ++ ⟨#[c]⟩ ++ Str.join ⟨#[c]⟩ (q :: r)).cps.toList = p.cps.toList ++ c :: joinL c ((q :: r).map fun p => p.cps.toList)
    simp only [Str.cps_append, Array.toList_append]
    rw [ih]; simp
theorem cut_eq {c : Nat} : ∀ {a b x y : List Nat}, c ∉ a → c ∉ b → a ++ c :: x = b ++ c :: y → a = b ∧ x = y
  | [], [], _, _, _, _, h => ⟨rfl, by simpa using h⟩
  | [], e :: b, _, _, _, h2, h => absurd (by simp at h; exact h.1 ▸ List.mem_cons_self ..) h2
  | e :: a, [], _, _, h1, _, h => absurd (by simp at h; exact h.1 ▸ List.mem_cons_self ..) h1
  | d :: a, e :: b, x, y, h1, h2, h => by
    simp only [List.cons_append, List.cons.injEq] at h
    obtain ⟨r1, r2⟩ := cut_eq (fun m => h1 (.tail _ m)) (fun m => h2 (.tail _ m)) h.2
    exact ⟨by rw [h.1, r1], r2⟩
theorem joinL_inj {c : Nat} : ∀ {ps qs : List (List Nat)}, (∀ p ∈ ps, c ∉ p) → (∀ q ∈ qs, c ∉ q) → ps ≠ [] → qs ≠ [] → joinL c ps = joinL c qs → ps = qs
  | [], _, _, _, h, _, _ => absurd rfl h
  | _, [], _, _, _, h, _ => absurd rfl h
  | [p], [q], _, _, _, _, h => by rw [show p = q from h]
  | [p], q :: q' :: r, h1, _, _, _, h => by
    exfalso
    apply h1 p (.head _)
    rw [show p = q ++ c :: joinL c (q' :: r) from h]
    simp
  | p :: p' :: r, [q], _, h2, _, _, h => by
    exfalso
    apply h2 q (.head _)
    rw [← show p ++ c :: joinL c (p' :: r) = q from h]
    simp
  | p :: p' :: r, q :: q' :: r', h1, h2, _, _, h => by
    obtain ⟨e1, e2⟩ := cut_eq (h1 p (.head _)) (h2 q (.head _)) (show p ++ c :: joinL c (p' :: r) = q ++ c :: joinL c (q' :: r') from h)
    rw [e1, joinL_inj (fun x hx => h1 x (.tail _ hx)) (fun x hx => h2 x (.tail _ hx)) (by simp) (by simp) e2]
theorem split_S {c : Nat} {ps : List (List Nat)} (h0 : ps ≠ []) (h : ∀ p ∈ ps, c ∉ p) : Txt.split (S (joinL c ps)) ⟨#[c]⟩ = ps.map S := by
  have e := StrLaws.join_split (S (joinL c ps)) ⟨#[c]⟩
  have e1 := congrArg (fun x : Str => x.cps.toList) e
  rw [join_S] at e1
  have e2 : joinL c ((Txt.split (S (joinL c ps)) ⟨#[c]⟩).map fun p => p.cps.toList) = joinL c ps := e1
  have hp := split_pos (S (joinL c ps)) ⟨#[c]⟩
  have e3 := joinL_inj (by
    intro p hp
    obtain ⟨q, hq, rfl⟩ := List.mem_map.mp hp
    exact StrLaws.split_free _ _ q hq) h (by
    intro z
    have := congrArg List.length z
    simp at this
    rw [this] at hp
    simp at hp) h0 e2
  have e4 := congrArg (List.map S) e3
  rw [List.map_map] at e4
  rw [← e4]
  refine (List.map_id _).symm.trans (List.map_congr_left fun p _ => ?_)
  exact (S_toList p).symm
/-- the name of a sign's reference -/
def nm (c : Nat) : List Nat := (escC c).drop 1 |>.dropLast
def isRef (c : Nat) : Bool := c == 38 || c == 60 || c == 62 || c == 34 || c == 13 || c == 10 || c == 9
theorem escC_ref {c : Nat} (h : isRef c = true) : escC c = 38 :: (nm c ++ [59]) := by
  simp only [isRef, Bool.or_eq_true, beq_iff_eq] at h
  rcases h with (((((rfl | rfl) | rfl) | rfl) | rfl) | rfl) | rfl <;> rfl
theorem escC_plain {c : Nat} (h : isRef c = false) : escC c = [c] := by
  simp only [isRef, Bool.or_eq_false_iff, beq_eq_false_iff_ne, ne_eq] at h
  obtain ⟨⟨⟨⟨⟨⟨a, b⟩, d⟩, e⟩, f⟩, g⟩, i⟩ := h
  simp [escC, a, b, d, e, f, g, i]
theorem nm_free {c : Nat} (h : isRef c = true) : 38 ∉ nm c ∧ 59 ∉ nm c := by
  simp only [isRef, Bool.or_eq_true, beq_iff_eq] at h
  rcases h with (((((rfl | rfl) | rfl) | rfl) | rfl) | rfl) | rfl <;> decide
/-- the text cut at its references -/
noncomputable def escP : List Nat → List Nat × List (Nat × List Nat)
  | [] => ([], [])
  | c :: x => if isRef c then ([], (c, (escP x).1) :: (escP x).2) else (c :: (escP x).1, (escP x).2)
def ptext (p : Nat × List Nat) : List Nat := nm p.1 ++ 59 :: p.2
noncomputable def escParts (x : List Nat) : List (List Nat) := (escP x).1 :: (escP x).2.map ptext
theorem escP_back : ∀ x, (escP x).1 ++ (escP x).2.flatMap (fun p => p.1 :: p.2) = x
  | [] => rfl
  | c :: x => by
    have ih := escP_back x
    unfold escP
    split
    · simpa using ih
    · simpa using ih
theorem joinL_cons (c : Nat) (p : List Nat) (a : Nat) (ps : List (List Nat)) : joinL c ((a :: p) :: ps) = a :: joinL c (p :: ps) := by
  cases ps <;> rfl
theorem joinL_pre (c : Nat) (q p : List Nat) (ps : List (List Nat)) : joinL c ((q ++ p) :: ps) = q ++ joinL c (p :: ps) := by
  cases ps <;> simp [joinL]
theorem escP_join : ∀ x, joinL 38 (escParts x) = escF x
  | [] => rfl
  | c :: x => by
    have ih := escP_join x
    have e : escF (c :: x) = escC c ++ escF x := by simp [escF]
    rw [e, ← ih]
    have ec : escP (c :: x) = if isRef c then ([], (c, (escP x).1) :: (escP x).2) else (c :: (escP x).1, (escP x).2) := rfl
    unfold escParts
    rw [ec]
    cases h : isRef c with
    | true =>
      rw [if_pos rfl, escC_ref h]
      show joinL 38 ([] :: ptext (c, (escP x).1) :: (escP x).2.map ptext) = _
      show 38 :: joinL 38 ((nm c ++ 59 :: (escP x).1) :: (escP x).2.map ptext) = _
      rw [show nm c ++ 59 :: (escP x).1 = (nm c ++ [59]) ++ (escP x).1 by simp, joinL_pre]
      simp
    | false =>
      rw [if_neg (by simp), escC_plain h]
      exact joinL_cons _ _ _ _
theorem escP_free : ∀ x, 38 ∉ (escP x).1 ∧ ∀ p ∈ (escP x).2, isRef p.1 = true ∧ 38 ∉ p.2
  | [] => by simp [escP]
  | c :: x => by
    obtain ⟨h1, h2⟩ := escP_free x
    unfold escP
    cases h : isRef c with
    | true =>
      rw [if_pos rfl]
      refine ⟨by simp, fun p hp => ?_⟩
      rcases List.mem_cons.mp hp with rfl | hp
      · exact ⟨h, h1⟩
      · exact h2 p hp
    | false =>
      rw [if_neg (by simp)]
      refine ⟨?_, h2⟩
      intro m
      rcases List.mem_cons.mp m with rfl | m
      · exact absurd h (by decide)
      · exact h1 m
theorem split_esc (x : List Nat) : Txt.split (S (escF x)) ⟨#[38]⟩ = (escParts x).map S := by
  rw [← escP_join]
  refine split_S (by simp [escParts]) fun p hp => ?_
  obtain ⟨h1, h2⟩ := escP_free x
  rcases List.mem_cons.mp hp with rfl | hp
  · exact h1
  · obtain ⟨q, hq, rfl⟩ := List.mem_map.mp hp
    obtain ⟨a, b⟩ := h2 q hq
    have := nm_free a
    intro m
    rcases List.mem_append.mp m with m | m
    · exact this.1 m
    · rcases List.mem_cons.mp m with e | m
      · exact absurd e (by decide)
      · exact b m
end Mine
end TextPureR
section TextRT
open PySem PySem.W PyProof.Rows PySem.Calls
set_option maxRecDepth 100000
set_option maxHeartbeats 8000000
set_option pp.deepTerms false
set_option pp.maxSteps 1500
namespace Mine
local macro_rules | `(tactic| walk_at "pad") => `(tactic| skip)
section Read
local macro_rules | `(tactic| walk_at "eval Name") => `(tactic| (k_here; k_dflt (refine' ld ?k1 ?k2 ?_; (case k1 => k_asm); (case k2 => first | exact rfl | assumption); k_whole)))
local macro_rules | `(tactic| walk_at "getMethod ref") => `(tactic| (k_here; k_dflt (refine' kdg_method (knd := PySem.strKind _ _) ?k1 ?k2 ?k3 ?_; (case k1 => k_asm); (case k2 => assumption); (case k3 => assumption); k_whole)))
local macro_rules | `(tactic| walk_at "call builtin:dict.get") => `(tactic| (k_here; (show wpAny _ _ (call (Value.builtin "dict.get") [Value.ref _, Value.str _ _, Value.str _ _]) _ _ _); k_dflt (refine' kdg_get2 (knd := PySem.strKind _ _) ?k1 ?k2 ?k3 ?k4 (strKind_is _ _ _ _) (some (.str _ _)) ?k5 ?_; (case k1 => k_asm); (case k2 => assumption); (case k3 => assumption); (case k4 => assumption); (case k5 => assumption); k_whole); dsimp only [Option.getD]))
abbrev rdEnv (L f : Addr) (cd : Value) : Env := envOf (Str.ofString "_law_read") (fScope (st 38)) L f cd
def rdTurn : List Stmt := forBody ((fBody (st 38)).getD 3 (.Pass default))
theorem rd_turn : ∀ {w : World} {mean : ExcName → Option Value} {mg mb : Str → Option Value} {h₀ : Heap} {L f D : Addr} {m : Str → Option Value} {news : List (Addr × Obj)} {o : Obj} {kvs : List (Str × Value)} {s : Shared} {A : Around} {E : Value → Shared → Prop} {Q : Flow → Shared → Prop} {cd : Value} {P b ch : Str} {u v tc : Tok}
    (_ : (KK w.params).In h₀) (_ : Fr h₀ L s.heap m) (_ : News h₀ L s.heap news) (_ : (D, o) ∈ news) (_ : o.IsDictOf (PySem.strKind PySem.Challenge.rw_oc0301_01.row.prog w) kvs) (_ : (D == sysModules) = false) (_ : m (Str.ofString "part") = some (.str P u)) (_ : m (Str.ofString "known") = some (.ref D)) (_ : m (Str.ofString "bare") = some (.str b v)) (_ : P.length ≤ 100) (_ : b.length ≤ 100) (_ : Top VQ (looseW VQ LQ) mean mg mb h₀) (_ : valueAt kvs (Txt.slice P none (some (Txt.find P (Str.ofString ";")))) = some (.str ch tc)) (_ : ch.length ≤ 1)
    (_ : ∀ h' m' t' tk', Fr h₀ L h' m' → News h₀ L h' news → m' (Str.ofString "known") = some (.ref D) → m' (Str.ofString "bare") = some (.str (b ++ ch ++ Txt.slice P (some (Txt.find P (Str.ofString ";") + 1)) none) t') → Q .next { s with heap := h', toks := tk' }),
    wpAny (model PySem.Challenge.rw_oc0301_01.row.prog w) A (execs rdTurn (rdEnv L f cd)) Q E s := by
  w_on
  k_fill
  intro w mean mg mb h₀ L f D m news o kvs s A E Q cd P b ch u v tc X F N hD hd lo e1 e2 e3 hP hb T hv hc h
  k_steps
  exact h _ _ _ _ (by assumption) (by assumption) (by exact e2) rfl
theorem pick1 (v : Value) (vs : List Value) : slicePick (v :: vs).toArray (some 1) none none = vs.toArray := by
  rw [kmk_pick_nat (a := 1) (b := vs.length + 1) _ (by simp [sliceBounds]; omega)]
  simp
theorem escF_len (l : List Nat) : (escF l).length ≤ 6 * l.length := by
  induction l with
  | nil => simp [escF]
  | cons c l ih =>
    have e : escF (c :: l) = escC c ++ escF l := by simp [escF]
    have : (escC c).length ≤ 6 := by unfold escC; (repeat' split) <;> simp
    rw [e, List.length_append, List.length_cons]; omega
theorem rd_loop {w : World} {mean : ExcName → Option Value} {mg mb : Str → Option Value} {h₀ : Heap} {L f D : Addr} {news : List (Addr × Obj)} {o : Obj} {kvs : List (Str × Value)} {s : Shared} {A : Around} {E : Value → Shared → Prop} {Q : Flow → Shared → Prop} {cd : Value} {I : Addr} {lp : Addr × Obj} (X : (KK w.params).In h₀) (T : Top VQ (looseW VQ LQ) mean mg mb h₀) (hD : (D, o) ∈ news) (hd : o.IsDictOf (PySem.strKind PySem.Challenge.rw_oc0301_01.row.prog w) kvs) (lo : (D == sysModules) = false) (hI : ∀ p ∈ news, p.1 < I) (hlp : lp ∈ news)
    (hkv : ∀ c, isRef c = true → ∃ tc, valueAt kvs (S (nm c)) = some (.str (S [c]) tc)) :
    ∀ (ls : List (Str × Tok)) (ps : List (Nat × List Nat)) (m : Str → Option Value) (b : List Nat) (t : Tok), ls.map (·.1) = ps.map (fun p => S (ptext p)) → m (Str.ofString "known") = some (.ref D) → m (Str.ofString "bare") = some (.str (S b) t) → (∀ p ∈ ps, isRef p.1 = true ∧ p.2.length ≤ 90) → b.length + (ps.flatMap (fun p => p.1 :: p.2)).length ≤ 100 →
    (∀ h tk m' t', Fr h₀ L h m' → News h₀ L h news → m' (Str.ofString "bare") = some (.str (S (b ++ ps.flatMap (fun p => p.1 :: p.2))) t') → Q .next { s with heap := h, toks := tk }) →
    ListRest PySem.Challenge.rw_oc0301_01.row.prog w A E h₀ (rdEnv L f cd) (Str.ofString "part") rdTurn Q s I lp (strValues ls) m news
  | [], [], m, b, t, hm, e1, e2, hs, hl, h => by
    refine ListRest.zero fun h' tk F N => h h' tk m t F N (by simpa using e2)
  | [], _ :: _, m, b, t, hm, e1, e2, hs, hl, h => by simp at hm
  | _ :: _, [], m, b, t, hm, e1, e2, hs, hl, h => by simp at hm
  | (P, u) :: ls, p :: ps, m, b, t, hm, e1, e2, hs, hl, h => by
    simp only [List.map_cons, List.cons.injEq] at hm
    obtain ⟨rfl, hm⟩ := hm
    obtain ⟨hr, hpl⟩ := hs p (.head _)
    obtain ⟨tc, hv⟩ := hkv p.1 hr
    have hnf := nm_free hr
    have hnl : (nm p.1).length ≤ 6 := by
      have : ∀ c, isRef c = true → (nm c).length ≤ 6 := by
        intro c hc
        simp only [isRef, Bool.or_eq_true, beq_iff_eq] at hc
        rcases hc with (((((rfl | rfl) | rfl) | rfl) | rfl) | rfl) | rfl <;> decide
      exact this _ hr
    have ef : Txt.find (S (ptext p)) (Str.ofString ";") = ((nm p.1).length : Int) := find_S hnf.2
    have es : Txt.slice (S (ptext p)) (some ((nm p.1).length + 1 : Int)) none = S p.2 := by
      have := @slice_from_S (nm p.1 ++ [59]) p.2
      simpa [ptext] using this
    refine ListRest.succ fun it h' tk hit F N => ?_
    simp only [List.flatMap_cons, List.length_append, List.length_cons] at hl
    refine rd_turn X F N (.tail _ hD) hd lo (ch := S [p.1]) (tc := tc) rfl (by exact e1) (by exact e2) (by rw [S_len]; simp [ptext]; omega) (by rw [S_len]; omega) T ?_ (by rw [S_len]; simp) ?_
    · rw [ef, ptext, slice_to_S]; exact hv
    intro h2 m2 t2 tk2 F2 N2 d1 d2
    refine ⟨h2, tk2, m2, news, rfl, F2, N2, fun q hq => Nat.ne_of_lt (hI q hq), hlp, ?_⟩
    rw [ef, es] at d2
    have e3 : S b ++ S [p.1] ++ S p.2 = S (b ++ p.1 :: p.2) := Str.ext' (by simp [Str.cps_append])
    rw [e3] at d2
    refine rd_loop X T hD hd lo hI hlp hkv ls ps m2 (b ++ p.1 :: p.2) t2 hm d1 d2 (fun q hq => hs q (.tail _ hq)) (by simp only [List.length_append, List.length_cons]; omega) ?_
    intro h3 tk3 m3 t3 F3 N3 d3
    refine h h3 tk3 m3 t3 F3 N3 ?_
    rw [d3]; simp
local macro_rules | `(tactic| walk_at "enter") => `(tactic| (
  (case k6 => k_is)
  (case k7 => k_is)
  (case k9 => exact BindsTo.of_eq rfl)
  (case c5 => decide)
  (case kB => exact locs rfl)
  (case c2 => exact rfl)
  (case c3 => exact rfl)
  (case c4 => exact rfl)))
local macro_rules | `(tactic| walk_at "exec For Name Subscript cons nil") => `(tactic| (k_here; (rename Fr _ _ _ _ => lF'); (with_unfolding_all refine' For_invVF lF' ?k1 ?k2 ?_; (case k1 => exact rfl); (case k2 => exact rfl); k_whole)))
local macro_rules | `(tactic| walk_at "pyIter ref") => `(tactic| (refine Hold.out ?_))
theorem read_spec : ∀ {w : World} {mean : ExcName → Option Value} {mg mb : Str → Option Value} {A A₀ : Around} {env : Env} {outer : List Env} {base h₀ : Heap} {L : Addr} {m : Str → Option Value} {news : List (Addr × Obj)} {s : Shared} {Q E : Value → Shared → Prop} {l : List Nat} {t : Tok}
    (_ : Below A₀ base outer h₀) (_ : Fr h₀ L s.heap m) (_ : (KK w.params).In h₀) (_ : News h₀ L s.heap news) (_ : Top VQ (looseW VQ LQ) mean mg mb h₀) (_ : A.frames = some (env :: outer)) (_ : env.frame = some L) (_ : env.scope.kind = .function) (_ : A.depth + 2 < recursionLimit) (_ : A.units + 90 < cLine) (_ : A.handled = none) (_ : l.length ≤ 17)
    (_ : ∀ h' tk' t', Fr h₀ L h' m → News h₀ L h' news → Q (.str (S l) t') { s with heap := h', toks := tk' }),
    wpAny (model PySem.Challenge.rw_oc0301_01.row.prog w) A (call (.ref 827) [.str (S (escF l)) t]) Q E s := by
  w_on
  k_fill
  intro w mean mg mb A A₀ env outer base h₀ L m news s Q E l t B F X N T hA hf hk hd hu hh hl hret
  obtain ⟨ah, ad, af, ag, au⟩ := A
  dsimp only at hA hh hd hu
  subst hA hh
  refine wpAny_call ?_
  refine' code_def (binds := [(Str.ofString "text", .str (S (escF l)) t)]) B F X N T rfl hf hk ?k6 ?k7 (by dsimp only; omega) ?k9 ?kB ?_ ?c2 ?c3 ?c4 ?c5
  walk_at "enter"
  intro g L' h₁ FG F' N' B' X' T'
  dsimp only
  k_fold
  have hlen : (S (escF l)).length ≤ 102 := by have := escF_len l; rw [S_len]; omega
  k_steps
  unfold Hold
  rename (_ = Txt.split _ _) => hsp
  rename (_[Int.toNat 0]? = some _) => hy
  rename Fr _ _ _ _ => F1
  rename News _ _ _ _ => N1
  rename Obj.IsDictOf _ _ _ => hdict
  rename ((_ == sysModules) = false) => lo
  have hsp2 := hsp.trans (split_esc l)
  rename List (Str × Tok) => ls
  obtain ⟨hf1, hf2⟩ := escP_free l
  have hback := escP_back l
  have hjoin := escP_join l
  match ls, hsp2 with
  | p :: ls', hsp2 =>
  simp only [escParts, List.map_cons, List.cons.injEq, List.map_map] at hsp2
  obtain ⟨e1, e2⟩ := hsp2
  have hy2 : p.1 = _ := Option.some.inj hy
  rw [e1] at hy2
  subst hy2
  have hlb : (escP l).1.length + ((escP l).2.flatMap (fun p => p.1 :: p.2)).length ≤ 17 := by rw [← List.length_append, hback]; exact hl
  refine iter_listUnr (vs := strValues ls') (n := _) rfl F1 N1 (.head _) rfl (congrArg (fun a => Data.seq a 0) (pick1 _ _)) ?_
  intro I hI
  refine rd_loop X' T' (D := h₁.objs.size) (.tail _ (.tail _ (.head _))) hdict lo hI (.head _) ?_ ls' (escP l).2 _ (escP l).1 _ e2 rfl rfl ?_ (by omega) ?_
  · intro c hc
    simp only [isRef, Bool.or_eq_true, beq_iff_eq] at hc
    rcases hc with (((((rfl | rfl) | rfl) | rfl) | rfl) | rfl) | rfl <;> exact ⟨_, rfl⟩
  · intro q hq
    refine ⟨(hf2 q hq).1, ?_⟩
    have : ∀ (ps : List (Nat × List Nat)), q ∈ ps → q.2.length ≤ (ps.flatMap (fun p => p.1 :: p.2)).length := by
      intro ps
      induction ps with
      | nil => intro h; exact absurd h (by simp)
      | cons a ps ih =>
        intro h
        rw [List.flatMap_cons, List.length_append, List.length_cons]
        rcases List.mem_cons.mp h with rfl | h
        · omega
        · have := ih h; omega
    have := this _ hq
    omega
  intro h4 tk4 m4 t4 F4 N4 e4
  rw [hback] at e4
  k_steps
  rename News _ _ _ _ => NZ
  exact hret _ _ _ (by assumption) (fun p hp => NZ p (.tail _ (.tail _ (.tail _ hp))))
end Read
end Mine
end TextRT
section TextComp
open PySem PySem.W PyProof.Rows PySem.Calls
set_option maxRecDepth 100000
namespace Mine
/-- the one code point of a sign -/
def cp1 : Value → Nat
  | .str x _ => x.cps.getD 0 0
  | _ => 0
theorem carried_chars {pz : Nat → Bool} {d : Nat → PyData} : ∀ (l : List Nat) (vs : List Value), vs.length = l.length → (∀ (j : Nat) v, vs[j]? = some v → ∃ c u, l[j]? = some c ∧ v = .str ⟨#[c]⟩ u) →
    ∀ ys : List Value, Paired (fun v r => Carried r (d (cp1 v))) (vs.filter fun v => pz (cp1 v)) ys → CarriedAll ys ((l.filter pz).map d)
  | [], [], _, _, ys, h => by cases h; exact .nil
  | c :: l, v :: vs, hlen, hP, ys, h => by
    obtain ⟨c', u, e1, rfl⟩ := hP 0 v rfl
    cases e1
    have hP' : ∀ (j : Nat) v, vs[j]? = some v → ∃ c u, l[j]? = some c ∧ v = .str ⟨#[c]⟩ u := fun j v hv => by
      have := hP (j + 1) v (by simpa using hv)
      simpa using this
    have e2 : cp1 (.str ⟨#[c]⟩ u) = c := rfl
    by_cases hc : pz c = true
    · rw [List.filter_cons_of_pos (by rw [e2]; exact hc)] at h
      cases h with
      | cons h1 h2 =>
        rw [List.filter_cons_of_pos hc, List.map_cons]
        exact .cons (e2 ▸ h1) (carried_chars l vs (by simpa using hlen) hP' _ h2)
    · rw [List.filter_cons_of_neg (by rw [e2]; exact hc)] at h
      rw [List.filter_cons_of_neg hc]
      exact carried_chars l vs (by simpa using hlen) hP' _ h
theorem comp_chars {prog : Program} {w : World} {A : Around} {E : Value → Shared → Prop} {s₁ : Shared} {h₀ : Heap} {L : Addr} {m : Str → Option Value} {news : List (Addr × Obj)} {env : Env} {elt : Expr} {x : Str} {ifs : List Expr} {scope : Scope} {Q : Value → Shared → Prop} {l : List Nat} {t : Tok} {pz : Nat → Bool} {d : Nat → PyData}
    (hh : A.handled = none) (F : Fr h₀ L s₁.heap m) (N : News h₀ L s₁.heap news) (hle : l.length ≤ 100)
    (g1 : ∀ C c u s₂ m₂ E', (∀ b o, s₁.heap.get? b = some o → s₂.heap.get? b = some o) → s₂.heap.Ns (compEnv scope C env).locals m₂ → m₂ x = some (.str ⟨#[c]⟩ u) →
        wpAny (model prog w) A (forIn ifs true fun c r => if r = true then do let ok ← isTrue c (compEnv scope C env) (eval c (compEnv scope C env)); pure (ForInStep.yield ok) else pure (ForInStep.yield r))
          (fun ok s₃ => ok = pz c ∧ Keeps s₂ s₃) E' s₂)
    (g2 : ∀ C c u s₂ m₂ E', (∀ b o, s₁.heap.get? b = some o → s₂.heap.get? b = some o) → pz c = true → s₂.heap.Ns (compEnv scope C env).locals m₂ → m₂ x = some (.str ⟨#[c]⟩ u) → wpAny (model prog w) A (eval elt (compEnv scope C env)) (fun r s₃ => Carried r (d c) ∧ Keeps s₂ s₃) E' s₂)
    (g3 : ∀ D (ys : List Value) n h' tk, Fr h₀ L h' m → News h₀ L h' ((D, W.listOf ys.toArray n) :: news) → (∀ p ∈ news, p.1 ≠ D) → CarriedAll ys ((l.filter pz).map d) → Q (.ref D) { s₁ with heap := h', toks := tk }) :
    wpAny (model prog w) A (pyIter (.str (S l) t)) (CompPost prog w A env scope x ifs elt Q) E s₁ := by
  refine wpAny_pyIter_str fun o St W hst => ?_
  refine ⟨fun v => pz (cp1 v), fun v r => Carried r (d (cp1 v)), s₁.heap.objs.size, [s₁.heap.objs.size], [s₁.heap.objs.size], (S l).cps.size, SignAt (S l), St, rfl, W A hh, by simp [sizeLine]; omega, hst, ?_, ⟨?_, ?_⟩, ?_⟩
  · intro b hb
    rw [List.mem_singleton.mp hb]
    show _ < (s₁.heap.push o).objs.size
    rw [Heap.size_push]; exact Nat.lt_succ_self _
  · rintro C i v s₃ m₃ E' ⟨c, u, _, rfl⟩ hn hm hk _
    exact g1 C c u s₃ m₃ E' (fun b o' e => hk b o' (fun hb => absurd (Heap.lt_size e) ((List.mem_singleton.mp hb) ▸ Nat.lt_irrefl _)) (Heap.get?_push_of_some _ e)) hn hm
  · rintro C i v s₃ m₃ E' ⟨c, u, _, rfl⟩ hp hn hm hk _
    exact g2 C c u s₃ m₃ E' (fun b o' e => hk b o' (fun hb => absurd (Heap.lt_size e) ((List.mem_singleton.mp hb) ▸ Nat.lt_irrefl _)) (Heap.get?_push_of_some _ e)) hp hn hm
  · intro D h' tk ys vs hnew hlD hplD hlen hP hF hk
    have up : ∀ b o', s₁.heap.get? b = some o' → h'.get? b = some o' := fun b o' e => hk b o' (fun hb => absurd (Heap.lt_size e) ((List.mem_singleton.mp hb) ▸ Nat.lt_irrefl _)) (Heap.get?_push_of_some _ e)
    have hD : s₁.heap.get? D = none := by
      cases e : s₁.heap.get? D with
      | none => rfl
      | some o' => rw [Heap.get?_push_of_some _ e] at hnew; cases hnew
    obtain ⟨n, hn⟩ := hplD
    have off : ∀ p ∈ news, p.1 ≠ D := fun p hp e => by
      have := (N p hp).1
      rw [e, hD] at this; cases this
    refine g3 D ys.toList n h' tk (F.keeps up) (fun p hp => ?_) off (carried_chars l vs (by rw [hlen]; simp) (fun j v hv => ?_) _ hF)
    · rcases List.mem_cons.mp hp with rfl | hp
      · refine ⟨by rw [Array.toArray_toList]; exact hn, fun e => ?_, ?_⟩
        · obtain ⟨oL, _, _, hL, _⟩ := F.ns
          have e' : D = L := e
          rw [← e', hD] at hL; cases hL
        · cases e : h₀.get? D with
          | none => rfl
          | some o' => rw [F.keep _ _ e] at hD; cases hD
      · exact ⟨up _ _ (N p hp).1, (N p hp).2⟩
    · obtain ⟨c, u, h1, h2⟩ := hP j v hv
      exact ⟨c, u, by simpa using h1, h2⟩
end Mine
end TextComp
section TextRanks
open PySem PySem.W PyProof.Rows PySem.Calls
set_option maxRecDepth 100000
set_option maxHeartbeats 8000000
set_option pp.deepTerms false
set_option pp.maxSteps 1500
namespace Mine
/-- a sign's rank in a quoted word -/
def rk (c : Nat) : Int := if c = 9 then 304 else if c = 10 then 305 else if c = 13 then 306 else if c = 38 then 307 else if c = 62 then 308 else if c = 60 then 309 else if c = 34 then 310 else if c = 39 then 313 else 8 * (c : Int)
def ranksF (l : List Nat) : List Int := if l ≠ [] ∧ l.all isSafe = true then l.map (fun c : Nat => 8 * (c : Int)) else 312 :: (l.map rk ++ [312])
theorem gappend {prog : Program} {w : World} {A : Around} {E : Value → Shared → Prop} {s : Shared} {h₀ : Heap} {L D : Addr} {m : Str → Option Value} {news : List (Addr × Obj)} {vs : List Value} {n : Nat} {v : Value} {Q : Value → Shared → Prop} (F : Fr h₀ L s.heap m) (N : News h₀ L s.heap ((D, W.listOf vs.toArray n) :: news)) (off : ∀ p ∈ news, p.1 ≠ D) (hle : vs.length ≤ 100)
    (h : ∀ h', Fr h₀ L h' m → News h₀ L h' ((D, W.listOf (vs ++ [v]).toArray (n + 1)) :: news) → Q .none { s with heap := h' }) : wpAny (model prog w) A (call (.builtin "list.append") [.ref D, v]) Q E s := by
  refine append_K F N (Upd.head off) ?_ (by simp [sizeLine]; omega)
  intro h' F' N'
  refine h h' F' ?_
  have e : vs.toArray.push v = (vs ++ [v]).toArray := by simp
  rw [e] at N'
  exact N'
theorem ints_snoc {i : Int} {t : Tok} : ∀ {vs : List Value} {ns : List Int}, IntsAre vs ns → IntsAre (vs ++ [.int i t]) (ns ++ [i])
  | _, _, .nil => .cons i t .nil
  | _, _, .cons j u h => .cons j u (ints_snoc h)
theorem rk_q : ∀ c ∈ SIGNS, ((⟨#[c]⟩ : Str) == Str.ofString "'") = true → (313 : Int) = rk c := by decide +kernel
theorem rk_else : ∀ c ∈ SIGNS, (Builtin.Str.occurrences (Str.ofString "\t\n\r&><\"") ⟨#[c]⟩ 0 (Str.ofString "\t\n\r&><\"").length 1).isEmpty = true → ((⟨#[c]⟩ : Str) == Str.ofString "'") = false → 8 * (c : Int) = rk c := by decide +kernel
theorem rk_in : ∀ c ∈ SIGNS, (Builtin.Str.occurrences (Str.ofString "\t\n\r&><\"") ⟨#[c]⟩ 0 (Str.ofString "\t\n\r&><\"").length 1).isEmpty = false → 304 + Txt.find (Str.ofString "\t\n\r&><\"") ⟨#[c]⟩ = rk c := by decide +kernel
section Ranks
local macro_rules | `(tactic| walk_at "eval Name") => `(tactic| (k_here; k_dflt (refine' ld ?k1 ?k2 ?_; (case k1 => k_asm); (case k2 => first | exact rfl | assumption); k_whole)))
local macro_rules | `(tactic| walk_at "call builtin:list.append") => `(tactic| (k_here; (show wpAny _ _ (call (Value.builtin "list.append") [Value.ref _, _]) _ _ _); k_dflt (refine' gappend ?k1 ?k2 ?k3 ?k4 ?_; (case k1 => k_asm); (case k2 => k_asm); (case k3 => assumption); (case k4 => omega); k_whole); intro h' F' N'))
abbrev rkEnv (L f : Addr) (cd : Value) : Env := envOf (Str.ofString "_law_ranks") (fScope (st 37)) L f cd
def rkTurn : List Stmt := forBody ((fBody (st 37)).getD 2 (.Pass default))
theorem rk_turn : ∀ {w : World} {mean : ExcName → Option Value} {mg mb : Str → Option Value} {h₀ : Heap} {L f r : Addr} {m : Str → Option Value} {news : List (Addr × Obj)} {s : Shared} {A : Around} {E : Value → Shared → Prop} {Q : Flow → Shared → Prop} {cd : Value} {vs : List Value} {n c : Nat} {u : Tok}
    (_ : (KK w.params).In h₀) (_ : Fr h₀ L s.heap m) (_ : News h₀ L s.heap ((r, W.listOf vs.toArray n) :: news)) (_ : ∀ p ∈ news, p.1 ≠ r) (_ : m (Str.ofString "sign") = some (.str ⟨#[c]⟩ u)) (_ : m (Str.ofString "ranks") = some (.ref r)) (_ : c ∈ SIGNS) (_ : vs.length ≤ 90) (_ : Top VQ (looseW VQ LQ) mean mg mb h₀)
    (_ : ∀ h' t n' tk', Fr h₀ L h' m → News h₀ L h' ((r, W.listOf (vs ++ [Value.int (rk c) t]).toArray n') :: news) → Q .next { s with heap := h', toks := tk' }),
    wpAny (model PySem.Challenge.rw_oc0301_01.row.prog w) A (execs rkTurn (rkEnv L f cd)) Q E s := by
  w_on
  k_fill
  intro w mean mg mb h₀ L f r m news s A E Q cd vs n c u X F N off e1 e2 hc hle T h
  k_steps
  all_goals dsimp only at *
  · have e : (313 : Int) = rk c := rk_q c hc (by assumption)
    rw [← e] at h
    exact h _ _ _ _ (by assumption) (by assumption)
  · have e : 8 * (c : Int) = rk c := rk_else c hc (by assumption) (by assumption)
    rw [← e] at h
    exact h _ _ _ _ (by assumption) (by assumption)
  · have e := rk_in c hc (by assumption)
    rw [← e] at h
    exact h _ _ _ _ (by assumption) (by assumption)
theorem rk_loop {w : World} {mean : ExcName → Option Value} {mg mb : Str → Option Value} {h₀ : Heap} {L f r : Addr} {news : List (Addr × Obj)} {s : Shared} {A : Around} {E : Value → Shared → Prop} {Q : Flow → Shared → Prop} {cd : Value} {I : Addr} (X : (KK w.params).In h₀) (T : Top VQ (looseW VQ LQ) mean mg mb h₀) (off : ∀ p ∈ news, p.1 ≠ r) (hI : ∀ p ∈ news, p.1 ≠ I) (hr : r ≠ I) :
    ∀ (cs : List Nat) (m : Str → Option Value) (vs : List Value) (ns : List Int) (n : Nat), IntsAre vs ns → m (Str.ofString "ranks") = some (.ref r) → (∀ c ∈ cs, c ∈ SIGNS) → vs.length + cs.length ≤ 80 →
    (∀ h tk m' vs' n', Fr h₀ L h m' → News h₀ L h ((r, W.listOf vs'.toArray n') :: news) → IntsAre vs' (ns ++ cs.map rk) → vs'.length ≤ 80 → m' (Str.ofString "ranks") = some (.ref r) → Q .next { s with heap := h, toks := tk }) →
    StrRest PySem.Challenge.rw_oc0301_01.row.prog w A E h₀ (rkEnv L f cd) (Str.ofString "sign") rkTurn Q s I (cs.map fun c => (⟨#[c]⟩ : Str)) m ((r, W.listOf vs.toArray n) :: news)
  | [], m, vs, ns, n, hi, e, hs, hl, h => by
    refine StrRest.zero fun h' tk F N => h h' tk m vs n F N (by simpa using hi) (by simpa using hl) e
  | c :: cs, m, vs, ns, n, hi, e, hs, hl, h => by
    refine StrRest.succ fun u it h' tk F N => ?_
    have N2 : News h₀ L h' ((r, W.listOf vs.toArray n) :: (I, it) :: news) := fun p hp => N p (by
      rcases List.mem_cons.mp hp with rfl | hp
      · exact .tail _ (.head _)
      · rcases List.mem_cons.mp hp with rfl | hp
        · exact .head _
        · exact .tail _ (.tail _ hp))
    refine rk_turn X F N2 (fun p hp => ?_) rfl (by exact e) (hs c (.head _)) (by simp at hl; omega) T ?_
    · rcases List.mem_cons.mp hp with rfl | hp
      · exact fun q => hr q.symm
      · exact off p hp
    intro h2 t n' tk2 F2 N3
    refine ⟨h2, tk2, _, (r, W.listOf (vs ++ [Value.int (rk c) t]).toArray n') :: news, rfl, F2, fun p hp => N3 p (by
      rcases List.mem_cons.mp hp with rfl | hp
      · exact .tail _ (.head _)
      · rcases List.mem_cons.mp hp with rfl | hp
        · exact .head _
        · exact .tail _ (.tail _ hp)), fun p hp => ?_, ?_⟩
    · rcases List.mem_cons.mp hp with rfl | hp
      · exact hr
      · exact hI p hp
    refine rk_loop X T off hI hr cs _ (vs ++ [Value.int (rk c) t]) (ns ++ [rk c]) n' (ints_snoc hi) (by exact e) (fun c' h' => hs c' (.tail _ h')) (by simp at hl ⊢; omega) ?_
    intro h3 tk3 m3 vs3 n3 F3 N4 hi3 hl3 e3
    refine h h3 tk3 m3 vs3 n3 F3 N4 ?_ hl3 e3
    simpa using hi3
end Ranks
end Mine
end TextRanks
section TextRanks2
open PySem PySem.W PyProof.Rows PySem.Calls
set_option maxRecDepth 100000
set_option maxHeartbeats 8000000
set_option pp.deepTerms false
set_option pp.maxSteps 1500
namespace Mine
def pzU (c : Nat) : Bool := !(!(Builtin.Str.occurrences (Str.ofString "a%") ⟨#[c]⟩ 0 (Str.ofString "a%").length 1).isEmpty)
theorem pzU_sign : ∀ c ∈ SIGNS, pzU c = !isSafe c := by decide +kernel
theorem S_ne {l : List Nat} (h : l ≠ []) : S l ≠ Str.ofString "" := fun e => h (by
  have e2 : (S l).cps.toList = (Str.ofString "").cps.toList := by rw [e]
  have e3 : (Str.ofString "").cps.toList = [] := by decide +kernel
  rw [e3] at e2
  simpa using e2)
theorem datAll_chars : ∀ (cs : List Nat) (ys : List Value), CarriedAll ys (cs.map fun c => PyData.str ⟨#[c]⟩) → DatAll [] ys (cs.map fun c => Dat.str ⟨#[c]⟩)
  | [], _, h => by cases h; exact .nil
  | c :: cs, _, h => by
    cases h with
    | cons h1 h2 =>
      cases h1
      exact .cons (.str _ _) (datAll_chars cs _ h2)
theorem strOk_sign : ∀ c ∈ SIGNS, kqdOk 8 (Dat.str ⟨#[c]⟩) = true := by decide +kernel
theorem ints_carried : ∀ (cs : List Nat) (ys : List Value), CarriedAll ys (cs.map fun c : Nat => PyData.int (8 * (c : Int))) → IntsAre ys (cs.map fun c : Nat => 8 * (c : Int))
  | [], _, h => by cases h; exact .nil
  | c :: cs, _, h => by
    cases h with
    | cons h1 h2 => cases h1; exact .cons _ _ (ints_carried cs _ h2)
open Classical in
theorem eq_nil {prog : Program} {w : World} {A : Around} {E : Value → Shared → Prop} {s : Shared} {h₀ : Heap} {L a b : Addr} {news : List (Addr × Obj)} {xs : List Value} {ka kb : Nat} {ds : List Dat} {Q : Value → Shared → Prop}
    (N : News h₀ L s.heap ((b, W.listOf #[] kb) :: (a, W.listOf xs.toArray ka) :: news)) (Da : DatAll [] xs ds) (ha : ∀ d ∈ ds, kqdOk 8 d = true) (hu : A.units + 64 < cLine) (h1 : ds = [] → Q (.bool true) s) (h2 : ds ≠ [] → Q (.bool false) s) :
    wpAny (model prog w) A (compareOp .Eq (.ref a) (.ref b)) Q E s := by
  refine kqd_eq (ob := W.listOf (([] : List Value).toArray) kb) (oa := W.listOf xs.toArray ka) (ys := []) (es := []) (kb := kb) (ka := ka) N (.tail _ (.head _)) rfl rfl Da (fun _ h => nomatch h) (.head _) rfl rfl (DatAll.nil (news := [])) (fun _ h => nomatch h) ha (fun _ h => nomatch h) hu ?_
  by_cases e : ds = []
  · rw [decide_eq_true e]; exact h1 e
  · rw [decide_eq_false e]; exact h2 e
section Ranks2
local macro_rules | `(tactic| walk_at "eval Name") => `(tactic| (k_here; k_dflt (refine' ld ?k1 ?k2 ?_; (case k1 => k_asm); (case k2 => first | exact rfl | assumption); k_whole)))
local macro_rules | `(tactic| walk_at "enter") => `(tactic| (
  (case k6 => k_is)
  (case k7 => k_is)
  (case k9 => exact BindsTo.of_eq rfl)
  (case c5 => decide)
  (case kB => exact locs rfl)
  (case c2 => exact rfl)
  (case c3 => exact rfl)
  (case c4 => exact rfl)))
local macro_rules | `(tactic| walk_at "pyIter str") => `(tactic| (refine Hold.out ?_))
local macro_rules | `(tactic| walk_at "exec For Name Name cons nil") => `(tactic| (refine Hold.out ?_))
local macro_rules | `(tactic| walk_at "call builtin:list.append") => `(tactic| (k_here; (show wpAny _ _ (call (Value.builtin "list.append") [Value.ref _, _]) _ _ _); k_dflt (refine' gappend ?k1 ?k2 ?k3 ?k4 ?_; (case k1 => k_asm); (case k2 => k_asm); (case k3 => assumption); (case k4 => omega); k_whole); intro h' F' N'))
theorem rk_tail : ∀ {w : World} {mean : ExcName → Option Value} {mg mb : Str → Option Value} {h₀ : Heap} {L f : Addr} {m : Str → Option Value} {news : List (Addr × Obj)} {s : Shared} {A : Around} {E : Value → Shared → Prop} {Q : Flow → Shared → Prop} {cd : Value} {l : List Nat} {t : Tok}
    (_ : (KK w.params).In h₀) (_ : Top VQ (looseW VQ LQ) mean mg mb h₀) (_ : Fr h₀ L s.heap m) (_ : News h₀ L s.heap news) (_ : m (Str.ofString "word") = some (.str (S l) t)) (_ : A.handled = none) (_ : IsWord l)
    (_ : ∀ h' m' tk' r vs n, Fr h₀ L h' m' → News h₀ L h' ((r, W.listOf vs.toArray n) :: news) → (∀ p ∈ news, p.1 ≠ r) → IntsAre vs (312 :: (l.map rk ++ [312])) → Q (.ret (.ref r)) { s with heap := h', toks := tk' }),
    wpAny (model PySem.Challenge.rw_oc0301_01.row.prog w) A (execs ((fBody (st 37)).drop 1) (rkEnv L f cd)) Q E s := by
  w_on
  k_fill
  intro w mean mg mb h₀ L f m news s A E Q cd l t X T F N e hh hl h
  show wpAny _ _ (execs (Stmt.Assign _ _ _ :: _) _) _ _ _
  k_steps
  unfold Hold
  rename Fr _ _ _ _ => F1
  rename News _ _ _ _ => N1
  refine wpAny_noRaise ?_
  with_unfolding_all refine For_invVF F1 ?_ ?_ ?_ (hE := PassesOwn.never)
  · exact rfl
  · exact rfl
  k_steps
  unfold Hold
  rename ∀ p ∈ news, p.1 < _ => hlt1
  refine iter_strUnr hh F1 N1 rfl ?_
  intro I hI
  refine rk_loop X T (fun p hp => Nat.ne_of_lt (hlt1 p hp)) (fun p hp => Nat.ne_of_lt (hI p (.tail _ hp))) (Nat.ne_of_lt (hI _ (.head _))) l _ [Value.int 312 s.toks] [312] 0 (.cons _ _ .nil) rfl (fun c hc => hl.2 c (by simpa using hc)) (by have := hl.1; simp; omega) ?_
  intro h2 tk2 m2 vs2 n2 F2 N2 hi2 hl2 e2
  have off2 : ∀ p ∈ news, p.1 ≠ _ := fun p hp => Nat.ne_of_lt (hlt1 p hp)
  dsimp only
  k_steps
  dsimp only at *
  exact h _ _ _ _ _ _ (by assumption) (by assumption) (by assumption) (by have := ints_snoc (i := 312) (t := tk2) hi2; simpa using this)
local macro_rules | `(tactic| walk_at "compareOp Eq ref ref") => `(tactic| (refine Hold.out ?_))
theorem rk_if : ∀ {w : World} {mean : ExcName → Option Value} {mg mb : Str → Option Value} {h₀ : Heap} {L f : Addr} {m : Str → Option Value} {news : List (Addr × Obj)} {s : Shared} {A : Around} {E : Value → Shared → Prop} {Q : Flow → Shared → Prop} {cd : Value} {l : List Nat} {t : Tok} {rest : List Stmt}
    (_ : (KK w.params).In h₀) (_ : Top VQ (looseW VQ LQ) mean mg mb h₀) (_ : Fr h₀ L s.heap m) (_ : News h₀ L s.heap news) (_ : m (Str.ofString "word") = some (.str (S l) t)) (_ : A.handled = none) (_ : A.units + 80 < cLine) (_ : IsWord l)
    (_ : l ≠ [] → l.all isSafe = true → ∀ h' m' tk' r vs n, Fr h₀ L h' m' → News h₀ L h' ((r, W.listOf vs.toArray n) :: news) → (∀ p ∈ news, p.1 ≠ r) → IntsAre vs (l.map (fun c : Nat => 8 * (c : Int))) → Q (.ret (.ref r)) { s with heap := h', toks := tk' })
    (_ : ¬ (l ≠ [] ∧ l.all isSafe = true) → ∀ h' m' tk', Fr h₀ L h' m' → News h₀ L h' news → m' (Str.ofString "word") = some (.str (S l) t) → wpAny (model PySem.Challenge.rw_oc0301_01.row.prog w) A (execs rest (rkEnv L f cd)) Q E { s with heap := h', toks := tk' }),
    wpAny (model PySem.Challenge.rw_oc0301_01.row.prog w) A (execs ((fBody (st 37)).getD 0 (.Pass default) :: rest) (rkEnv L f cd)) Q E s := by
  w_on
  k_fill
  intro w mean mg mb h₀ L f m news s A E Q cd l t rest X T F N e hh hu hl h1 h2
  show wpAny _ _ (execs (Stmt.If _ _ _ _ :: _) _) _ _ _
  by_cases hl0 : l = []
  · subst hl0
    have hz : (S [] != Str.ofString "") = false := by decide +kernel
    k_steps
    exact h2 (fun q => q.1 rfl) _ _ _ (by assumption) (by assumption) (by assumption)
  · have hne : (S l != Str.ofString "") = true := by simp [S_ne hl0]
    k_steps
    unfold Hold
    refine comp_chars (pz := pzU) (d := fun c => .str ⟨#[c]⟩) hh F N (by have := hl.1; omega) ?_ ?_ ?_
    · intro C c u s₂ m₂ E' hkp hn hm
      refine wpAny_tests_one ?_
      walk1
      refine wpAny_Name (wpAny_loadName_local rfl rfl hn hm ?_) (by decide)
      walk1
      walk1
      walk1
      exact ⟨rfl, _, _, rfl, fun _ _ e => e⟩
    · intro C c u s₂ m₂ E' hkp hp hn hm
      refine wpAny_Name (wpAny_loadName_local rfl rfl hn hm ?_) (by decide)
      exact ⟨.str _ _, _, _, rfl, fun _ _ e => e⟩
    · intro D ys n h' tk F' N' off hys
      dsimp only
      have hda := datAll_chars _ _ hys
      have hok : ∀ d ∈ (l.filter pzU).map (fun c => Dat.str ⟨#[c]⟩), kqdOk 8 d = true := by
        intro d hd
        obtain ⟨c, hc, rfl⟩ := List.mem_map.mp hd
        exact strOk_sign c (hl.2 c (List.mem_filter.mp hc).1)
      have hu' : A.units + 64 < cLine := by omega
      k_steps
      rename News _ _ _ _ => N1
      unfold Hold
      refine' eq_nil ?hN hda hok hu' ?h1 ?h2
      case hN => exact N1
      case h1 =>
        intro hz
        have hf : l.filter pzU = [] := by simpa using hz
        have hs : l.all isSafe = true := by
          refine List.all_eq_true.mpr fun c hc => ?_
          have := List.filter_eq_nil_iff.mp hf c hc
          rw [pzU_sign c (hl.2 c hc)] at this
          simpa using this
        replace N1 := cb_drop N1 (fun p hp => List.Mem.tail _ (List.Mem.tail _ hp))
        clear hda hok
        k_steps
        unfold Hold
        refine comp_chars (pz := fun _ => true) (d := fun c : Nat => .int (8 * (c : Int))) hh (by assumption) (by assumption) (by have := hl.1; omega) ?_ ?_ ?_
        · intro C c u s₂ m₂ E' hkp hn hm
          refine wpAny_tests_nil ?_
          exact ⟨rfl, _, _, rfl, fun _ _ e => e⟩
        · intro C c u s₂ m₂ E' hkp hp hn hm
          rename Fr _ _ _ _ => F3
          have hg := (T.g.keeps F3.keep).keeps hkp
          have hb := (T.b.keeps F3.keep).keeps hkp
          have hmiss : mg (Str.ofString "ord") = none := mg_none_of X T.g (by kernel_rfl)
          have hv : mb (Str.ofString "ord") = some (.builtin "ord") := (T.builtins _ (by decide +kernel)).trans (by decide +kernel)
          walk1
          walk1
          walk1
          walk1
          refine Calls.Name_function_global rfl rfl (Calls.loadGlobal_builtin hg hmiss hb hv ?_) (by decide)
          walk1
          walk1
          refine wpAny_Name (wpAny_loadName_local rfl rfl hn hm ?_) (by decide)
          walk1
          refine PySem.P.ord_of_char ?_
          walk1
          exact ⟨.int _ _, _, _, rfl, fun _ _ e => e⟩
        · intro D ys n h' tk F' N' off hys
          dsimp only
          refine h1 hl0 hs _ _ _ _ _ _ F' N' off ?_
          rw [show l.filter (fun _ => true) = l from List.filter_eq_self.mpr (fun _ _ => rfl)] at hys
          exact ints_carried _ _ hys
      case h2 =>
        intro hz
        have hs : ¬ (l ≠ [] ∧ l.all isSafe = true) := by
          rintro ⟨_, hs⟩
          refine hz ?_
          have hf : l.filter pzU = [] := by
            rw [List.filter_eq_nil_iff]
            intro c hc
            rw [pzU_sign c (hl.2 c hc)]
            have := List.all_eq_true.mp hs c hc
            simp [this]
          rw [hf]; rfl
        replace N1 := cb_drop N1 (fun p hp => List.Mem.tail _ (List.Mem.tail _ hp))
        clear hda hok
        k_steps
        exact h2 hs _ _ _ (by assumption) (by assumption) (by assumption)
theorem ranks_spec : ∀ {w : World} {mean : ExcName → Option Value} {mg mb : Str → Option Value} {A A₀ : Around} {env : Env} {outer : List Env} {base h₀ : Heap} {L : Addr} {m : Str → Option Value} {news : List (Addr × Obj)} {s : Shared} {Q E : Value → Shared → Prop} {l : List Nat} {t : Tok}
    (_ : Below A₀ base outer h₀) (_ : Fr h₀ L s.heap m) (_ : (KK w.params).In h₀) (_ : News h₀ L s.heap news) (_ : Top VQ (looseW VQ LQ) mean mg mb h₀) (_ : A.frames = some (env :: outer)) (_ : env.frame = some L) (_ : env.scope.kind = .function) (_ : A.depth + 2 < recursionLimit) (_ : A.units + 90 < cLine) (_ : A.handled = none) (_ : IsWord l)
    (_ : ∀ h' tk' r vs n, Fr h₀ L h' m → News h₀ L h' ((r, W.listOf vs.toArray n) :: news) → (∀ p ∈ news, p.1 ≠ r) → IntsAre vs (ranksF l) → Q (.ref r) { s with heap := h', toks := tk' }),
    wpAny (model PySem.Challenge.rw_oc0301_01.row.prog w) A (call (.ref 820) [.str (S l) t]) Q E s := by
  w_on
  k_fill
  intro w mean mg mb A A₀ env outer base h₀ L m news s Q E l t B F X N T hA hf hk hd hu hh hl hret
  obtain ⟨ah, ad, af, ag, au⟩ := A
  dsimp only at hA hh hd hu
  subst hA hh
  refine wpAny_call ?_
  refine' code_def (binds := [(Str.ofString "word", .str (S l) t)]) B F X N T rfl hf hk ?k6 ?k7 (by dsimp only; omega) ?k9 ?kB ?_ ?c2 ?c3 ?c4 ?c5
  walk_at "enter"
  intro g L' h₁ FG F' N' B' X' T'
  dsimp only
  k_fold
  show wpAny _ _ (execs ((fBody (st 37)).getD 0 (.Pass default) :: (fBody (st 37)).drop 1) _) _ _ _
  refine rk_if X' T' F' N' rfl rfl (by show au + 3 + 80 < cLine; omega) hl ?_ ?_
  · intro hne hs h2 m2 tk2 r vs n F2 N2 off hi
    have e : ranksF l = l.map (fun c : Nat => 8 * (c : Int)) := by unfold ranksF; rw [if_pos ⟨hne, hs⟩]
    rw [e] at hret
    exact ⟨L', m2, _, F2, N2, fun kF kN => hret _ _ _ _ _ kF kN off hi⟩
  · intro hs h2 m2 tk2 F2 N2 e2
    refine rk_tail X' T' F2 N2 e2 rfl hl ?_
    intro h3 m3 tk3 r vs n F3 N3 off hi
    have e : ranksF l = 312 :: (l.map rk ++ [312]) := by unfold ranksF; rw [if_neg hs]
    rw [e] at hret
    exact ⟨L', m3, _, F3, N3, fun kF kN => hret _ _ _ _ _ kF kN off hi⟩
end Ranks2
end Mine
end TextRanks2
section TextSift
open PySem PySem.W PyProof.Rows PySem.Calls
set_option maxRecDepth 100000
set_option maxHeartbeats 8000000
set_option pp.deepTerms false
set_option pp.maxSteps 1500
namespace Mine
abbrev toV (p : List Nat × Tok) : Value := .str (S p.1) p.2
abbrev hObj (ps : List (List Nat × Tok)) (n : Nat) : Obj := W.listOf (ps.map toV).toArray n
theorem hget {prog : Program} {w : World} {A : Around} {E : Value → Shared → Prop} {s : Shared} {h₀ : Heap} {L D : Addr} {news : List (Addr × Obj)} {ps : List (List Nat × Tok)} {n i : Nat} {k : Int} {u : Tok} {value slice : PySem.Expr} {Q : Value → Shared → Prop}
    (N : News h₀ L s.heap news) (hm : (D, hObj ps n) ∈ news) (hk : k = (i : Int)) (hle : ps.length ≤ 100) (hi : i < ps.length) (h : Q (toV ps[i]) s)
    (hs : subscripted slice false (.ref D) (.int k u) = operate [.ref D, .int k u] (getItem (.ref D) (.int k u)) := by with_unfolding_all rfl) :
    wpAny (model prog w) A (subscriptTail value slice (.ref D) (.int k u)) Q E s := by
  subst hk
  refine item_litK (PySem.IsL.isList (n := n) (N _ hm).1) (Int.natCast_nonneg i) (by omega) ?_ h hs
  rw [Int.toNat_natCast, List.getElem?_map, List.getElem?_eq_getElem hi]; rfl
theorem hset {prog : Program} {w : World} {A : Around} {E : Value → Shared → Prop} {s : Shared} {h₀ : Heap} {L D : Addr} {m : Str → Option Value} {news : List (Addr × Obj)} {ps : List (List Nat × Tok)} {n i : Nat} {k : Int} {t u : Tok} {l : List Nat} {Q : Unit → Shared → Prop}
    (F : Fr h₀ L s.heap m) (N : News h₀ L s.heap ((D, hObj ps n) :: news)) (off : ∀ p ∈ news, p.1 ≠ D) (hk : k = (i : Int)) (hle : ps.length ≤ 100) (hi : i < ps.length)
    (h : ∀ h', Fr h₀ L h' m → News h₀ L h' ((D, hObj (ps.set i (l, u)) n) :: news) → Q () { s with heap := h' }) :
    wpAny (model prog w) A (setItem (.ref D) (.int k t) (.str (S l) u)) Q E s := by
  subst hk
  have z := N _ (.head _)
  refine ki_setAt z.1 (Int.natCast_nonneg i) (by omega) (by simp; omega) (h _ (F.change (Heap.SameBut.update ..) z.2.1 z.2.2) (ki_turn (pre := []) _ N (fun _ hp => nomatch hp) off ?_ ?_))
  · apply Array.toList_inj.mp
    simp [List.map_set]
  · simp
theorem hlen {prog : Program} {w : World} {A : Around} {E : Value → Shared → Prop} {s : Shared} {h₀ : Heap} {L D : Addr} {news : List (Addr × Obj)} {ps : List (List Nat × Tok)} {n : Nat} {Q : Value → Shared → Prop}
    (N : News h₀ L s.heap news) (hm : (D, hObj ps n) ∈ news) (hle : ps.length ≤ 100) (h : ∀ t tk, Q (.int (ps.length : Nat) t) { s with toks := tk }) : wpAny (model prog w) A (call (.builtin "len") [.ref D]) Q E s := by
  have e : (ps.map toV).toArray.size = ps.length := by simp
  refine PyProof.Rows.len_list (PySem.IsL.isList (n := n) (N _ hm).1) (by rw [e]; omega) ?_
  rw [e]; exact h _ _
theorem idx_parent {pos : Nat} (h : 0 < pos) : ((pos : Int) - 1).fdiv (2 ^ Int.toNat 1) = (((pos - 1) / 2 : Nat) : Int) := by
  have e : ((2 : Int) ^ Int.toNat 1) = 2 := by decide
  rw [e, show ((pos : Int) - 1) = ((pos - 1 : Nat) : Int) by omega, Int.fdiv_eq_ediv_of_nonneg _ (by decide)]
  omega
abbrev hlt (a b : List Nat × Tok) : Bool := decide (a.1 < b.1)
section Sift
local macro_rules | `(tactic| walk_at "eval Name") => `(tactic| (k_here; k_dflt (refine' ld ?k1 ?k2 ?_; (case k1 => k_asm); (case k2 => first | exact rfl | assumption); k_whole)))
local macro_rules | `(tactic| walk_at "idx") => `(tactic| first | exact rfl | exact idx_parent (by omega))
local macro_rules | `(tactic| walk_at "idx lt") => `(tactic| first | omega | ((simp only [List.length_set]); omega))
local macro_rules | `(tactic| walk_at "subscriptTail") => `(tactic| (k_here; (with_reducible show wpAny _ _ (subscriptTail _ _ (Value.ref _) (Value.int _ _)) _ _ _); k_dflt (refine' hget ?k1 ?k2 ?k3 ?k4 ?k5 ?_ ?k6; (case k1 => k_asm); (case k2 => k_mem); (case k3 => walk_at "idx"); (case k4 => walk_at "idx lt"); (case k5 => walk_at "idx lt"); (case k6 => with_unfolding_all rfl); k_whole)))
local macro_rules | `(tactic| walk_at "setItem ref int") => `(tactic| (k_here; (with_reducible show wpAny _ _ (setItem (Value.ref _) (Value.int _ _) _) _ _ _); k_dflt (refine' hset ?k1 ?k2 ?k3 ?k4 ?k5 ?k6 ?_; (case k1 => k_asm); (case k2 => k_asm); (case k3 => assumption); (case k4 => walk_at "idx"); (case k5 => walk_at "idx lt"); (case k6 => walk_at "idx lt"); k_whole); intro h' F' N'))
abbrev sdEnv (L f : Addr) (cd : Value) : Env := envOf (Str.ofString "_siftdown") (fScope (st 11)) L f cd
def sdTurn : List Stmt := whileBody ((fBody (st 11)).getD 1 (.Pass default))
theorem sd_turn : ∀ {w : World} {h₀ : Heap} {L f hp : Addr} {m : Str → Option Value} {news : List (Addr × Obj)} {s : Shared} {A : Around} {E : Value → Shared → Prop} {Q : Flow → Shared → Prop} {cd : Value} {ps : List (List Nat × Tok)} {n : Nat} {new : List Nat × Tok} {pos : Nat} {t1 t2 : Tok}
    (_ : (KK w.params).In h₀) (_ : Fr h₀ L s.heap m) (_ : News h₀ L s.heap ((hp, hObj ps n) :: news)) (_ : ∀ p ∈ news, p.1 ≠ hp) (_ : m (Str.ofString "heap") = some (.ref hp)) (_ : m (Str.ofString "newitem") = some (toV new)) (_ : m (Str.ofString "pos") = some (.int pos t1)) (_ : m (Str.ofString "startpos") = some (.int 0 t2)) (_ : 0 < pos) (_ : pos < ps.length) (_ : ps.length ≤ 100)
    (hpp : (pos - 1) / 2 < ps.length)
    (_ : hlt new (ps[(pos - 1) / 2]) = true → ∀ h' m' t1 tk', Fr h₀ L h' m' → News h₀ L h' ((hp, hObj (ps.set pos (ps[(pos - 1) / 2])) n) :: news) → m' (Str.ofString "heap") = some (.ref hp) → m' (Str.ofString "newitem") = some (toV new) → m' (Str.ofString "pos") = some (.int ((pos - 1) / 2 : Nat) t1) → m' (Str.ofString "startpos") = some (.int 0 t2) → Q .cont { s with heap := h', toks := tk' })
    (_ : hlt new (ps[(pos - 1) / 2]) = false → ∀ h' m' tk', Fr h₀ L h' m' → News h₀ L h' ((hp, hObj ps n) :: news) → m' (Str.ofString "heap") = some (.ref hp) → m' (Str.ofString "newitem") = some (toV new) → m' (Str.ofString "pos") = some (.int pos t1) → Q .brk { s with heap := h', toks := tk' }),
    wpAny (model PySem.Challenge.rw_oc0301_01.row.prog w) A (execs sdTurn (sdEnv L f cd)) Q E s := by
  w_on
  k_fill
  intro w h₀ L f hp m news s A E Q cd ps n new pos t1 t2 X F N hoff e1 e2 e3 e4 hp0 hpl hps hpp h1 h2
  k_steps
  · exact h1 (decide_eq_true (by assumption)) _ _ _ _ (by assumption) (by assumption) (by assumption) (by assumption) (by rw [← idx_parent hp0]; rfl) (by assumption)
  · exact h2 (decide_eq_false (by assumption)) _ _ _ (by assumption) (by assumption) (by assumption) (by assumption) (by assumption)
/-- the loop as a plain function -/
noncomputable def sdF {α : Type} (lt : α → α → Bool) (new : α) : Nat → List α → Nat → List α
  | 0, l, pos => l.set pos new
  | f + 1, l, pos => if pos = 0 then l.set pos new else if lt new (l.getD ((pos - 1) / 2) new) then sdF lt new f (l.set pos (l.getD ((pos - 1) / 2) new)) ((pos - 1) / 2) else l.set pos new
abbrev sdW : Stmt := (fBody (st 11)).getD 1 (.Pass default)
theorem sd_test : ∀ {w : World} {h₀ : Heap} {L f : Addr} {m : Str → Option Value} {news : List (Addr × Obj)} {s : Shared} {A : Around} {E : Value → Shared → Prop} {Q : Bool → Shared → Prop} {cd : Value} {pos : Nat} {t1 t2 : Tok}
    (_ : (KK w.params).In h₀) (_ : Fr h₀ L s.heap m) (_ : News h₀ L s.heap news) (_ : m (Str.ofString "pos") = some (.int pos t1)) (_ : m (Str.ofString "startpos") = some (.int 0 t2))
    (_ : ∀ tk', Q (decide (0 < pos)) { s with toks := tk' }),
    wpAny (model PySem.Challenge.rw_oc0301_01.row.prog w) A (isTrue (whileTest sdW) (sdEnv L f cd) (eval (whileTest sdW) (sdEnv L f cd))) Q E s := by
  w_on
  k_fill
  intro w h₀ L f m news s A E Q cd pos t1 t2 X F N e3 e4 h
  show wpAny _ _ (isTrue (Expr.Compare _ _ _ _) _ (eval (Expr.Compare _ _ _ _) _)) _ _ _
  k_steps
  have e : decide ((pos : Int) > 0) = decide (0 < pos) := by
    rw [decide_eq_decide]; omega
  rw [e]
  exact h _
theorem sd_loop {w : World} {h₀ : Heap} {L f hp : Addr} {news : List (Addr × Obj)} {s : Shared} {A : Around} {Q : Flow → Shared → Prop} {cd : Value} {n : Nat} {new : List Nat × Tok} {t2 : Tok} (X : (KK w.params).In h₀) (off : ∀ p ∈ news, p.1 ≠ hp) :
    ∀ (k : Nat) (pos : Nat) (ps : List (List Nat × Tok)) (h : Heap) (m : Str → Option Value) (tk : Nat) (t1 : Tok), pos ≤ k → Fr h₀ L h m → News h₀ L h ((hp, hObj ps n) :: news) → m (Str.ofString "heap") = some (.ref hp) → m (Str.ofString "newitem") = some (toV new) → m (Str.ofString "pos") = some (.int pos t1) → m (Str.ofString "startpos") = some (.int 0 t2) → pos < ps.length → ps.length ≤ 100 →
    (∀ h' m' tk' ps' pos' t', Fr h₀ L h' m' → News h₀ L h' ((hp, hObj ps' n) :: news) → m' (Str.ofString "heap") = some (.ref hp) → m' (Str.ofString "newitem") = some (toV new) → m' (Str.ofString "pos") = some (.int (pos' : Nat) t') → pos' < ps'.length → ps'.length ≤ 100 → ps'.set pos' new = sdF hlt new k ps pos → Q .next { s with heap := h', toks := tk' }) →
    WhlRest PySem.Challenge.rw_oc0301_01.row.prog w A (fun _ _ => False) (sdEnv L f cd) (whileTest sdW) sdTurn [] Q (k + 1) { s with heap := h, toks := tk } := by
  intro k
  induction k with
  | zero =>
    intro pos ps h m tk t1 hk F N e1 e2 e3 e4 hl hle hQ
    refine whl_turn PassesOwn.never ?_
    refine sd_test X F N e3 e4 fun tk1 => ?_
    have hz : pos = 0 := Nat.le_zero.mp hk
    subst hz
    refine WhlIf.no (decide_eq_false (Nat.lt_irrefl 0)) ?_
    refine wpAny_execs_nil ?_
    exact hQ h m tk1 ps 0 t1 F N e1 e2 e3 hl hle rfl
  | succ k ih =>
    intro pos ps h m tk t1 hk F N e1 e2 e3 e4 hl hle hQ
    refine whl_turn PassesOwn.never ?_
    refine sd_test X F N e3 e4 fun tk1 => ?_
    by_cases h0 : 0 < pos
    · refine WhlIf.yes (decide_eq_true h0) ?_
      have hpp : (pos - 1) / 2 < ps.length := by omega
      have eg : ps.getD ((pos - 1) / 2) new = ps[(pos - 1) / 2] := by simp [List.getD, hpp]
      refine sd_turn X F N off e1 e2 e3 e4 h0 hl hle hpp ?_ ?_
      · intro hlt' h' m' t1' tk' F' N' d1 d2 d3 d4
        refine ih ((pos - 1) / 2) _ h' m' tk' t1' (by omega) F' N' d1 d2 d3 d4 (by rw [List.length_set]; omega) (by rw [List.length_set]; omega) ?_
        intro h2 m2 tk2 ps2 pos2 t2' F2 N2 c1 c2 c3 c4 c5 c6
        refine hQ h2 m2 tk2 ps2 pos2 t2' F2 N2 c1 c2 c3 c4 c5 ?_
        rw [c6, sdF, if_neg (by omega), eg, if_pos hlt']
      · intro hlt' h' m' tk' F' N' d1 d2 d3
        refine hQ h' m' tk' ps pos t1 F' N' d1 d2 d3 hl hle ?_
        rw [sdF, if_neg (by omega), eg, if_neg (by rw [hlt']; exact Bool.false_ne_true)]
    · refine WhlIf.no (decide_eq_false h0) ?_
      refine wpAny_execs_nil ?_
      have hz : pos = 0 := by omega
      subst hz
      exact hQ h m tk1 ps 0 t1 F N e1 e2 e3 hl hle rfl
local macro_rules | `(tactic| walk_at "exec While Compare cons nil") => `(tactic| (refine wpAny_noRaise (whl_start 0 (Hold.out ?_))))
theorem sd_spec : ∀ {w : World} {mean : ExcName → Option Value} {mg mb : Str → Option Value} {A A₀ : Around} {env : Env} {outer : List Env} {base h₀ : Heap} {L hp : Addr} {m : Str → Option Value} {news : List (Addr × Obj)} {s : Shared} {Q E : Value → Shared → Prop} {ps : List (List Nat × Tok)} {n pos : Nat} {t1 t2 : Tok}
    (_ : Below A₀ base outer h₀) (_ : Fr h₀ L s.heap m) (_ : (KK w.params).In h₀) (_ : News h₀ L s.heap ((hp, hObj ps n) :: news)) (_ : Top VQ (looseW VQ LQ) mean mg mb h₀) (_ : A.frames = some (env :: outer)) (_ : env.frame = some L) (_ : env.scope.kind = .function) (_ : A.depth < recursionLimit)
    (_ : ∀ p ∈ news, p.1 ≠ hp) (_ : ps.length ≤ 100) (hpos : pos < ps.length)
    (_ : ∀ h' tk', Fr h₀ L h' m → News h₀ L h' ((hp, hObj (sdF hlt ps[pos] pos ps pos) n) :: news) → Q .none { s with heap := h', toks := tk' }),
    wpAny (model PySem.Challenge.rw_oc0301_01.row.prog w) A (call (.ref 93) [.ref hp, .int 0 t1, .int pos t2]) Q E s := by
  w_on
  k_fill
  intro w mean mg mb A A₀ env outer base h₀ L hp m news s Q E ps n pos t1 t2 B F X N T hA hf hk hd off hle hpos hret
  refine wpAny_call ?_
  refine' code_def (binds := [(Str.ofString "heap", .ref hp), (Str.ofString "startpos", .int 0 t1), (Str.ofString "pos", .int pos t2)]) B F X N T hA hf hk ?k6 ?k7 hd ?k9 ?kB ?_ ?c2 ?c3 ?c4 ?c5
  case k6 => k_is
  case k7 => k_is
  case k9 => exact BindsTo.of_eq rfl
  case c5 => decide
  case kB => exact locs rfl
  case c2 => exact rfl
  case c3 => exact rfl
  case c4 => exact rfl
  intro g L' h₁ FG F' N' B' X' T'
  dsimp only
  k_fold
  k_steps
  unfold Hold
  refine sd_loop (s := { s with toks := 0 }) X' off pos pos ps _ _ _ t2 (Nat.le_refl _) (by assumption) (by assumption) rfl rfl rfl rfl hpos hle ?_
  intro h2 m2 tk2 ps2 pos2 t2' F2 N2 c1 c2 c3 c4 c5 c6
  dsimp only
  k_steps
  refine hret _ _ (by assumption) ?_
  rw [← c6]
  assumption
end Sift
end Mine
end TextSift
section TextSiftup
open PySem PySem.W PyProof.Rows PySem.Calls
set_option maxRecDepth 100000
set_option maxHeartbeats 8000000
set_option pp.deepTerms false
set_option pp.maxSteps 1500
namespace Mine
local macro_rules | `(tactic| walk_at "pad") => `(tactic| skip)
theorem idx_succ {c : Nat} : (c : Int) + 1 = ((c + 1 : Nat) : Int) := by omega
theorem idx_child {c : Nat} : 2 * (c : Int) + 1 = ((2 * c + 1 : Nat) : Int) := by omega
/-- the child that moves up -/
def suC {α : Type} (lt : α → α → Bool) (l : List α) (c : Nat) (d : α) : Nat := if c + 1 < l.length ∧ lt (l.getD c d) (l.getD (c + 1) d) = false then c + 1 else c
section Siftup
local macro_rules | `(tactic| walk_at "eval Name") => `(tactic| (k_here; k_dflt (refine' ld ?k1 ?k2 ?_; (case k1 => k_asm); (case k2 => first | exact rfl | assumption); k_whole)))
local macro_rules | `(tactic| walk_at "idx") => `(tactic| first | exact rfl | exact idx_succ | exact idx_child | exact (show (0 : Int) = ((0 : Nat) : Int) from rfl))
local macro_rules | `(tactic| walk_at "idx lt") => `(tactic| first | omega | ((simp only [List.length_set]); omega))
local macro_rules | `(tactic| walk_at "subscriptTail") => `(tactic| (k_here; (with_reducible show wpAny _ _ (subscriptTail _ _ (Value.ref _) (Value.int _ _)) _ _ _); k_dflt (refine' hget ?k1 ?k2 ?k3 ?k4 ?k5 ?_ ?k6; (case k1 => k_asm); (case k2 => k_mem); (case k3 => walk_at "idx"); (case k4 => walk_at "idx lt"); (case k5 => walk_at "idx lt"); (case k6 => with_unfolding_all rfl); k_whole)))
local macro_rules | `(tactic| walk_at "setItem ref int") => `(tactic| (k_here; (with_reducible show wpAny _ _ (setItem (Value.ref _) (Value.int _ _) _) _ _ _); k_dflt (refine' hset ?k1 ?k2 ?k3 ?k4 ?k5 ?k6 ?_; (case k1 => k_asm); (case k2 => k_asm); (case k3 => assumption); (case k4 => walk_at "idx"); (case k5 => walk_at "idx lt"); (case k6 => walk_at "idx lt"); k_whole); intro h' F' N'))
local macro_rules | `(tactic| walk_at "call builtin:len") => `(tactic| (k_here; (with_reducible show wpAny _ _ (call (Value.builtin "len") [Value.ref _]) _ _ _); k_dflt (refine' hlen ?k1 ?k2 ?k3 ?_; (case k1 => k_asm); (case k2 => k_mem); (case k3 => assumption); k_whole); intro _ _))
abbrev suEnv (L f : Addr) (cd : Value) : Env := envOf (Str.ofString "_siftup") (fScope (st 12)) L f cd
abbrev suW : Stmt := (fBody (st 12)).getD 4 (.Pass default)
def suTurn : List Stmt := whileBody suW
theorem su_if : ∀ {w : World} {h₀ : Heap} {L f hp : Addr} {m : Str → Option Value} {news : List (Addr × Obj)} {s : Shared} {A : Around} {E : Value → Shared → Prop} {Q : Flow → Shared → Prop} {cd : Value} {ps : List (List Nat × Tok)} {n pos c : Nat} {new : List Nat × Tok} {t1 t2 t3 t4 t5 : Tok} {rest : List Stmt}
    (_ : (KK w.params).In h₀) (_ : Fr h₀ L s.heap m) (_ : News h₀ L s.heap ((hp, hObj ps n) :: news)) (_ : m (Str.ofString "heap") = some (.ref hp)) (_ : m (Str.ofString "newitem") = some (toV new)) (_ : m (Str.ofString "pos") = some (.int pos t1)) (_ : m (Str.ofString "startpos") = some (.int 0 t2)) (_ : m (Str.ofString "endpos") = some (.int (ps.length : Nat) t3)) (_ : m (Str.ofString "childpos") = some (.int (c : Nat) t4)) (_ : m (Str.ofString "rightpos") = some (.int ((c : Int) + 1) t5))
    (_ : c < ps.length) (_ : ps.length ≤ 100)
    (_ : ∀ h' m' t4 tk', Fr h₀ L h' m' → News h₀ L h' ((hp, hObj ps n) :: news) → m' (Str.ofString "heap") = some (.ref hp) → m' (Str.ofString "newitem") = some (toV new) → m' (Str.ofString "pos") = some (.int pos t1) → m' (Str.ofString "startpos") = some (.int 0 t2) → m' (Str.ofString "endpos") = some (.int (ps.length : Nat) t3) → m' (Str.ofString "childpos") = some (.int (suC hlt ps c new : Nat) t4) →
      wpAny (model PySem.Challenge.rw_oc0301_01.row.prog w) A (execs rest (suEnv L f cd)) Q E { s with heap := h', toks := tk' }),
    wpAny (model PySem.Challenge.rw_oc0301_01.row.prog w) A (execs (suTurn.getD 1 (.Pass default) :: rest) (suEnv L f cd)) Q E s := by
  w_on
  k_fill
  intro w h₀ L f hp m news s A E Q cd ps n pos c new t1 t2 t3 t4 t5 rest X F N e1 e2 e3 e4 e5 e6 e7 hc hle h
  show wpAny _ _ (execs (Stmt.If _ _ _ _ :: _) _) _ _ _
  have g1 : ps.getD c new = ps[c] := by simp [List.getD, hc]
  by_cases hr : c + 1 < ps.length
  · have g2 : ps.getD (c + 1) new = ps[c + 1] := by simp [List.getD, hr]
    k_steps
    · have e : suC hlt ps c new = c := by
        unfold suC; rw [g1, g2, if_neg]; rintro ⟨_, q⟩; exact of_decide_eq_false q (by assumption)
      rw [e] at h
      exact h _ _ _ _ (by assumption) (by assumption) (by assumption) (by assumption) (by assumption) (by assumption) (by assumption) (by assumption)
    · have e : suC hlt ps c new = c + 1 := by
        unfold suC; rw [g1, g2, if_pos]; exact ⟨hr, decide_eq_false (by assumption)⟩
      rw [e, ← idx_succ] at h
      exact h _ _ _ _ (by assumption) (by assumption) (by assumption) (by assumption) (by assumption) (by assumption) (by assumption) rfl
  · have hr' : ¬ ((c : Int) + 1 < (ps.length : Nat)) := by omega
    k_steps
    have e : suC hlt ps c new = c := by
      unfold suC; rw [if_neg]; rintro ⟨q, _⟩; exact hr q
    rw [e] at h
    exact h _ _ _ _ (by assumption) (by assumption) (by assumption) (by assumption) (by assumption) (by assumption) (by assumption) (by assumption)
theorem suC_lt {α : Type} {lt : α → α → Bool} {l : List α} {c : Nat} {d : α} (h : c < l.length) : suC lt l c d < l.length := by
  unfold suC; split <;> omega
theorem suC_ge {α : Type} (lt : α → α → Bool) (l : List α) (c : Nat) (d : α) : c ≤ suC lt l c d := by
  unfold suC; split <;> omega
theorem su_turn : ∀ {w : World} {h₀ : Heap} {L f hp : Addr} {m : Str → Option Value} {news : List (Addr × Obj)} {s : Shared} {A : Around} {E : Value → Shared → Prop} {Q : Flow → Shared → Prop} {cd : Value} {ps : List (List Nat × Tok)} {n pos c : Nat} {new : List Nat × Tok} {t1 t2 t3 t4 : Tok}
    (_ : (KK w.params).In h₀) (_ : Fr h₀ L s.heap m) (_ : News h₀ L s.heap ((hp, hObj ps n) :: news)) (_ : ∀ p ∈ news, p.1 ≠ hp) (_ : m (Str.ofString "heap") = some (.ref hp)) (_ : m (Str.ofString "newitem") = some (toV new)) (_ : m (Str.ofString "pos") = some (.int pos t1)) (_ : m (Str.ofString "startpos") = some (.int 0 t2)) (_ : m (Str.ofString "endpos") = some (.int (ps.length : Nat) t3)) (_ : m (Str.ofString "childpos") = some (.int (c : Nat) t4))
    (_ : c < ps.length) (_ : pos < ps.length) (_ : ps.length ≤ 100)
    (_ : ∀ h' m' t1 t4 tk', Fr h₀ L h' m' → News h₀ L h' ((hp, hObj (ps.set pos (ps.getD (suC hlt ps c new) new)) n) :: news) → m' (Str.ofString "heap") = some (.ref hp) → m' (Str.ofString "newitem") = some (toV new) → m' (Str.ofString "pos") = some (.int (suC hlt ps c new : Nat) t1) → m' (Str.ofString "startpos") = some (.int 0 t2) → m' (Str.ofString "endpos") = some (.int (ps.length : Nat) t3) → m' (Str.ofString "childpos") = some (.int ((2 * suC hlt ps c new + 1 : Nat)) t4) →
      Q .next { s with heap := h', toks := tk' }),
    wpAny (model PySem.Challenge.rw_oc0301_01.row.prog w) A (execs suTurn (suEnv L f cd)) Q E s := by
  w_on
  k_fill
  intro w h₀ L f hp m news s A E Q cd ps n pos c new t1 t2 t3 t4 X F N off e1 e2 e3 e4 e5 e6 hc hpos hle h
  show wpAny _ _ (execs (Stmt.Assign _ _ _ :: Stmt.If _ _ _ _ :: Stmt.Assign _ _ _ :: Stmt.Assign _ _ _ :: Stmt.Assign _ _ _ :: []) _) _ _ _
  refine wpAny_execs_cons ?_
  walk1
  walk1
  walk1
  walk1
  walk1
  walk1
  dsimp only
  refine su_if X (by assumption) (by assumption) (by assumption) (by assumption) (by assumption) (by assumption) (by assumption) (by assumption) rfl hc hle ?_
  intro h2 m2 t5 tk2 F2 N2 c1 c2 c3 c4 c5 c6
  have hcl := suC_lt (lt := hlt) (d := new) hc
  have g1 : ps.getD (suC hlt ps c new) new = ps[suC hlt ps c new] := by simp [List.getD, hcl]
  rw [g1] at h
  generalize suC hlt ps c new = cc at *
  k_steps
  exact h _ _ _ _ _ (by assumption) (by assumption) (by assumption) (by assumption) rfl (by assumption) (by assumption) (by rw [← idx_child]; rfl)
theorem su_test : ∀ {w : World} {h₀ : Heap} {L f : Addr} {m : Str → Option Value} {news : List (Addr × Obj)} {s : Shared} {A : Around} {E : Value → Shared → Prop} {Q : Bool → Shared → Prop} {cd : Value} {c e : Nat} {t1 t2 : Tok}
    (_ : (KK w.params).In h₀) (_ : Fr h₀ L s.heap m) (_ : News h₀ L s.heap news) (_ : m (Str.ofString "childpos") = some (.int (c : Nat) t1)) (_ : m (Str.ofString "endpos") = some (.int (e : Nat) t2))
    (_ : ∀ tk', Q (decide (c < e)) { s with toks := tk' }),
    wpAny (model PySem.Challenge.rw_oc0301_01.row.prog w) A (isTrue (whileTest suW) (suEnv L f cd) (eval (whileTest suW) (suEnv L f cd))) Q E s := by
  w_on
  k_fill
  intro w h₀ L f m news s A E Q cd c e t1 t2 X F N e3 e4 h
  show wpAny _ _ (isTrue (Expr.Compare _ _ _ _) _ (eval (Expr.Compare _ _ _ _) _)) _ _ _
  k_steps
  have e : decide ((c : Int) < (e : Int)) = decide (c < e) := by
    rw [decide_eq_decide]; omega
  rw [e]
  exact h _
/-- the loop as a plain function: the list, and the place where it ends -/
noncomputable def suL {α : Type} (lt : α → α → Bool) (new : α) : Nat → List α → Nat → List α × Nat
  | 0, l, pos => (l, pos)
  | f + 1, l, pos => if 2 * pos + 1 < l.length then suL lt new f (l.set pos (l.getD (suC lt l (2 * pos + 1) new) new)) (suC lt l (2 * pos + 1) new) else (l, pos)
theorem suL_len {α : Type} (lt : α → α → Bool) (new : α) : ∀ (f : Nat) (l : List α) (pos : Nat), (suL lt new f l pos).1.length = l.length
  | 0, _, _ => rfl
  | f + 1, l, pos => by unfold suL; split; · rw [suL_len, List.length_set]
                        · rfl
theorem suL_lt {α : Type} (lt : α → α → Bool) (new : α) : ∀ (f : Nat) (l : List α) (pos : Nat), pos < l.length → (suL lt new f l pos).2 < l.length
  | 0, _, _, h => h
  | f + 1, l, pos, h => by
    unfold suL; split
    · rename_i q
      have := suL_lt lt new f (l.set pos (l.getD (suC lt l (2 * pos + 1) new) new)) (suC lt l (2 * pos + 1) new) (by rw [List.length_set]; exact suC_lt q)
      rwa [List.length_set] at this
    · exact h
theorem su_loop {w : World} {h₀ : Heap} {L f hp : Addr} {news : List (Addr × Obj)} {s : Shared} {A : Around} {Q : Flow → Shared → Prop} {cd : Value} {n : Nat} {new : List Nat × Tok} {t2 t3 : Tok} (X : (KK w.params).In h₀) (off : ∀ p ∈ news, p.1 ≠ hp) :
    ∀ (k : Nat) (pos : Nat) (ps : List (List Nat × Tok)) (h : Heap) (m : Str → Option Value) (tk : Nat) (t1 t4 : Tok), ps.length - pos ≤ k → Fr h₀ L h m → News h₀ L h ((hp, hObj ps n) :: news) → m (Str.ofString "heap") = some (.ref hp) → m (Str.ofString "newitem") = some (toV new) → m (Str.ofString "pos") = some (.int pos t1) → m (Str.ofString "startpos") = some (.int 0 t2) → m (Str.ofString "endpos") = some (.int (ps.length : Nat) t3) → m (Str.ofString "childpos") = some (.int (2 * pos + 1 : Nat) t4) → pos < ps.length → ps.length ≤ 100 →
    (∀ h' m' tk' t', Fr h₀ L h' m' → News h₀ L h' ((hp, hObj (suL hlt new k ps pos).1 n) :: news) → m' (Str.ofString "heap") = some (.ref hp) → m' (Str.ofString "newitem") = some (toV new) → m' (Str.ofString "pos") = some (.int ((suL hlt new k ps pos).2 : Nat) t') → m' (Str.ofString "startpos") = some (.int 0 t2) → Q .next { s with heap := h', toks := tk' }) →
    WhlRest PySem.Challenge.rw_oc0301_01.row.prog w A (fun _ _ => False) (suEnv L f cd) (whileTest suW) suTurn [] Q (k + 1) { s with heap := h, toks := tk } := by
  intro k
  induction k with
  | zero =>
    intro pos ps h m tk t1 t4 hk F N e1 e2 e3 e4 e5 e6 hl hle hQ
    exfalso; omega
  | succ k ih =>
    intro pos ps h m tk t1 t4 hk F N e1 e2 e3 e4 e5 e6 hl hle hQ
    refine whl_turn PassesOwn.never ?_
    refine su_test X F N e6 e5 fun tk1 => ?_
    by_cases h0 : 2 * pos + 1 < ps.length
    · refine WhlIf.yes (decide_eq_true h0) ?_
      refine su_turn X F N off e1 e2 e3 e4 e5 e6 h0 hl hle ?_
      intro h' m' t1' t4' tk' F' N' d1 d2 d3 d4 d5 d6
      have hge := suC_ge hlt ps (2 * pos + 1) new
      have hcl := suC_lt (lt := hlt) (d := new) h0
      have e : suL hlt new (k + 1) ps pos = suL hlt new k (ps.set pos (ps.getD (suC hlt ps (2 * pos + 1) new) new)) (suC hlt ps (2 * pos + 1) new) := by
        rw [suL, if_pos h0]
      rw [e] at hQ
      refine ih _ _ h' m' tk' t1' t4' (by rw [List.length_set]; omega) F' N' d1 d2 d3 d4 (by rw [List.length_set]; exact d5) d6 (by rw [List.length_set]; omega) (by rw [List.length_set]; omega) hQ
    · refine WhlIf.no (decide_eq_false h0) ?_
      refine wpAny_execs_nil ?_
      have e : suL hlt new (k + 1) ps pos = (ps, pos) := by rw [suL, if_neg h0]
      rw [e] at hQ
      exact hQ h m tk1 t1 F N e1 e2 e3 e4
local macro_rules | `(tactic| walk_at "exec While Compare cons nil") => `(tactic| (refine wpAny_noRaise (whl_start 0 (Hold.out ?_))))
/-- what _siftup(heap, 0) makes of the list -/
noncomputable def suF (ps : List (List Nat × Tok)) (new : List Nat × Tok) : List (List Nat × Tok) :=
  let r := suL hlt new ps.length ps 0
  sdF hlt new r.2 (r.1.set r.2 new) r.2
local macro_rules | `(tactic| walk_at "call ref") => `(tactic| (k_here; (with_reducible show wpAny _ _ (call (Value.ref 93) _) _ _ _); (refine Hold.out ?_)))
theorem su_spec : ∀ {w : World} {mean : ExcName → Option Value} {mg mb : Str → Option Value} {A A₀ : Around} {env : Env} {outer : List Env} {base h₀ : Heap} {L hp : Addr} {m : Str → Option Value} {news : List (Addr × Obj)} {s : Shared} {Q E : Value → Shared → Prop} {ps : List (List Nat × Tok)} {n : Nat} {t1 : Tok}
    (_ : Below A₀ base outer h₀) (_ : Fr h₀ L s.heap m) (_ : (KK w.params).In h₀) (_ : News h₀ L s.heap ((hp, hObj ps n) :: news)) (_ : Top VQ (looseW VQ LQ) mean mg mb h₀) (_ : A.frames = some (env :: outer)) (_ : env.frame = some L) (_ : env.scope.kind = .function) (_ : A.depth + 1 < recursionLimit)
    (_ : ∀ p ∈ news, p.1 ≠ hp) (_ : ps.length ≤ 100) (hpos : 0 < ps.length)
    (_ : ∀ h' tk', Fr h₀ L h' m → News h₀ L h' ((hp, hObj (suF ps ps[0]) n) :: news) → Q .none { s with heap := h', toks := tk' }),
    wpAny (model PySem.Challenge.rw_oc0301_01.row.prog w) A (call (.ref 100) [.ref hp, .int 0 t1]) Q E s := by
  w_on
  k_fill
  intro w mean mg mb A A₀ env outer base h₀ L hp m news s Q E ps n t1 B F X N T hA hf hk hd off hle hpos hret
  refine wpAny_call ?_
  refine' code_def (binds := [(Str.ofString "heap", .ref hp), (Str.ofString "pos", .int 0 t1)]) B F X N T hA hf hk ?k6 ?k7 (by omega) ?k9 ?kB ?_ ?c2 ?c3 ?c4 ?c5
  case k6 => k_is
  case k7 => k_is
  case k9 => exact BindsTo.of_eq rfl
  case c5 => decide
  case kB => exact locs rfl
  case c2 => exact rfl
  case c3 => exact rfl
  case c4 => exact rfl
  intro g L' h₁ FG F' N' B' X' T'
  dsimp only
  k_fold
  k_steps
  unfold Hold
  refine su_loop (s := { s with toks := 0 }) X' off ps.length 0 ps _ _ _ _ _ (by omega) (by assumption) (by assumption) rfl rfl rfl rfl rfl rfl hpos hle ?_
  intro h2 m2 tk2 t2' F2 N2 c1 c2 c3 c4
  have r1 := suL_len hlt ps[0] ps.length ps 0
  have r2 := suL_lt hlt ps[0] ps.length ps 0 hpos
  have er : suF ps ps[0] = sdF hlt ps[0] (suL hlt ps[0] ps.length ps 0).2 ((suL hlt ps[0] ps.length ps 0).1.set (suL hlt ps[0] ps.length ps 0).2 ps[0]) (suL hlt ps[0] ps.length ps 0).2 := rfl
  rw [er] at hret
  generalize suL hlt ps[0] ps.length ps 0 = r at *
  obtain ⟨l2, p2⟩ := r
  dsimp only at *
  have r3 : l2.length ≤ 100 := by omega
  have r4 : p2 < l2.length := by omega
  k_steps
  unfold Hold
  refine sd_spec B' (by assumption) X' (by assumption) T' (Around.frames_deeper hA) rfl rfl (by rw [depth_deeper]; exact hd) off (by rw [List.length_set]; omega) (by rw [List.length_set]; omega) ?_
  intro h3 tk3 F3 N3
  rw [List.getElem_set_self] at N3
  dsimp only
  k_steps
  exact hret _ _ (by assumption) (by assumption)
end Siftup
end Mine
end TextSiftup
section TextHeapq
open PySem PySem.W PyProof.Rows PySem.Calls
set_option maxRecDepth 100000
set_option maxHeartbeats 8000000
set_option pp.deepTerms false
set_option pp.maxSteps 1500
namespace Mine
section
variable {prog : Program} {w : World} {A : Around} {E : Value → Shared → Prop} {s : Shared} {h₀ : Heap} {L D : Addr} {m : Str → Option Value} {news : List (Addr × Obj)} {ps : List (List Nat × Tok)} {n : Nat}
theorem happend {l : List Nat} {u : Tok} {Q : Value → Shared → Prop} (F : Fr h₀ L s.heap m) (N : News h₀ L s.heap ((D, hObj ps n) :: news)) (off : ∀ p ∈ news, p.1 ≠ D) (hle : ps.length ≤ 100)
    (h : ∀ h', Fr h₀ L h' m → News h₀ L h' ((D, hObj (ps ++ [(l, u)]) (n + 1)) :: news) → Q .none { s with heap := h' }) : wpAny (model prog w) A (call (.builtin "list.append") [.ref D, .str (S l) u]) Q E s := by
  refine append_K F N (Upd.head off) ?_ (by simp [sizeLine]; omega)
  intro h' F' N'
  refine h h' F' ?_
  have e : (ps.map toV).toArray.push (.str (S l) u) = ((ps ++ [(l, u)]).map toV).toArray := by simp
  rw [e] at N'
  exact N'
theorem hpop {qs : List (List Nat × Tok)} {q : List Nat × Tok} {Q : Value → Shared → Prop} (F : Fr h₀ L s.heap m) (N : News h₀ L s.heap ((D, hObj (qs ++ [q]) n) :: news)) (off : ∀ p ∈ news, p.1 ≠ D) (hle : (qs ++ [q]).length ≤ 100)
    (h : ∀ h', Fr h₀ L h' m → News h₀ L h' ((D, hObj qs (n + 1)) :: news) → Q (toV q) { s with heap := h' }) : wpAny (model prog w) A (call (.builtin "list.pop") [.ref D]) Q E s := by
  refine kl_pop (p := qs.map toV) (y := toV q) F N ?_ (Upd.head off) (by simp [sizeLine] at *; omega) h
  show kl_last ((qs ++ [q]).map toV) = _
  rw [List.map_append]
  exact kpa_last _ _
theorem htruthy {Q : Bool → Shared → Prop} (N : News h₀ L s.heap news) (hm : (D, hObj ps n) ∈ news) (hle : ps.length ≤ 100) (h : ∀ tk, Q (decide (0 < ps.length)) { s with toks := tk }) : wpAny (model prog w) A (truthy (.ref D)) Q E s := by
  have e : (!(ps.map toV).toArray.isEmpty) = decide (0 < ps.length) := by cases ps <;> simp
  refine wpAny_truthy_list (PySem.IsL.isList (n := n) (N _ hm).1) (by simp; omega) ?_
  rw [e]; exact h _
end
section Heapq
local macro_rules | `(tactic| walk_at "eval Name") => `(tactic| (k_here; k_dflt (refine' ld ?k1 ?k2 ?_; (case k1 => k_asm); (case k2 => first | exact rfl | assumption); k_whole)))
local macro_rules | `(tactic| walk_at "idx") => `(tactic| first | exact rfl | exact (show (0 : Int) = ((0 : Nat) : Int) from rfl))
local macro_rules | `(tactic| walk_at "idx lt") => `(tactic| first | omega | ((simp only [List.length_set, List.length_append, List.length_cons, List.length_nil]); omega))
local macro_rules | `(tactic| walk_at "subscriptTail") => `(tactic| (k_here; (with_reducible show wpAny _ _ (subscriptTail _ _ (Value.ref _) (Value.int _ _)) _ _ _); k_dflt (refine' hget ?k1 ?k2 ?k3 ?k4 ?k5 ?_ ?k6; (case k1 => k_asm); (case k2 => k_mem); (case k3 => walk_at "idx"); (case k4 => walk_at "idx lt"); (case k5 => walk_at "idx lt"); (case k6 => with_unfolding_all rfl); k_whole)))
local macro_rules | `(tactic| walk_at "setItem ref int") => `(tactic| (k_here; (with_reducible show wpAny _ _ (setItem (Value.ref _) (Value.int _ _) _) _ _ _); k_dflt (refine' hset ?k1 ?k2 ?k3 ?k4 ?k5 ?k6 ?_; (case k1 => k_asm); (case k2 => k_asm); (case k3 => assumption); (case k4 => walk_at "idx"); (case k5 => walk_at "idx lt"); (case k6 => walk_at "idx lt"); k_whole); intro h' F' N'))
local macro_rules | `(tactic| walk_at "call builtin:len") => `(tactic| (k_here; (with_reducible show wpAny _ _ (call (Value.builtin "len") [Value.ref _]) _ _ _); k_dflt (refine' hlen ?k1 ?k2 ?k3 ?_; (case k1 => k_asm); (case k2 => k_mem); (case k3 => walk_at "idx lt"); k_whole); intro _ _))
local macro_rules | `(tactic| walk_at "call builtin:list.append") => `(tactic| (k_here; (show wpAny _ _ (call (Value.builtin "list.append") [Value.ref _, _]) _ _ _); k_dflt (refine' happend ?k1 ?k2 ?k3 ?k4 ?_; (case k1 => k_asm); (case k2 => k_asm); (case k3 => assumption); (case k4 => walk_at "idx lt"); k_whole); intro h' F' N'))
local macro_rules | `(tactic| walk_at "call builtin:list.pop") => `(tactic| (k_here; (show wpAny _ _ (call (Value.builtin "list.pop") [Value.ref _]) _ _ _); k_dflt (refine' hpop ?k1 ?k2 ?k3 ?k4 ?_; (case k1 => k_asm); (case k2 => k_asm); (case k3 => assumption); (case k4 => walk_at "idx lt"); k_whole); intro h' F' N'))
local macro_rules | `(tactic| walk_at "truthy ref") => `(tactic| (k_here; k_dflt (refine' htruthy ?k1 ?k2 ?k3 ?_; (case k1 => k_asm); (case k2 => k_mem); (case k3 => walk_at "idx lt"); k_whole); intro _))
local macro_rules | `(tactic| walk_at "call ref") => `(tactic| (k_here; (with_reducible show wpAny _ _ (call (Value.ref 93) _) _ _ _); (refine Hold.out ?_)))
local macro_rules | `(tactic| walk_at "call ref") => `(tactic| (k_here; (with_reducible show wpAny _ _ (call (Value.ref 100) _) _ _ _); (refine Hold.out ?_)))
local macro_rules | `(tactic| walk_at "enter") => `(tactic| (
  (case k6 => k_is)
  (case k7 => k_is)
  (case k9 => exact BindsTo.of_eq rfl)
  (case c5 => decide)
  (case kB => exact locs rfl)
  (case c2 => exact rfl)
  (case c3 => exact rfl)
  (case c4 => exact rfl)))
noncomputable def pushF (ps : List (List Nat × Tok)) (x : List Nat × Tok) : List (List Nat × Tok) := sdF hlt x ps.length (ps ++ [x]) ps.length
theorem push_spec : ∀ {w : World} {mean : ExcName → Option Value} {mg mb : Str → Option Value} {A A₀ : Around} {env : Env} {outer : List Env} {base h₀ : Heap} {L hp : Addr} {m : Str → Option Value} {news : List (Addr × Obj)} {s : Shared} {Q E : Value → Shared → Prop} {ps : List (List Nat × Tok)} {n : Nat} {x : List Nat} {t : Tok}
    (_ : Below A₀ base outer h₀) (_ : Fr h₀ L s.heap m) (_ : (KK w.params).In h₀) (_ : News h₀ L s.heap ((hp, hObj ps n) :: news)) (_ : Top VQ (looseW VQ LQ) mean mg mb h₀) (_ : A.frames = some (env :: outer)) (_ : env.frame = some L) (_ : env.scope.kind = .function) (_ : A.depth + 1 < recursionLimit)
    (_ : ∀ p ∈ news, p.1 ≠ hp) (_ : ps.length ≤ 99)
    (_ : ∀ h' tk', Fr h₀ L h' m → News h₀ L h' ((hp, hObj (pushF ps (x, t)) (n + 1)) :: news) → Q .none { s with heap := h', toks := tk' }),
    wpAny (model PySem.Challenge.rw_oc0301_01.row.prog w) A (call (.ref 65) [.ref hp, .str (S x) t]) Q E s := by
  w_on
  k_fill
  intro w mean mg mb A A₀ env outer base h₀ L hp m news s Q E ps n x t B F X N T hA hf hk hd off hle hret
  refine wpAny_call ?_
  refine' code_def (binds := [(Str.ofString "heap", .ref hp), (Str.ofString "item", .str (S x) t)]) B F X N T hA hf hk ?k6 ?k7 (by omega) ?k9 ?kB ?_ ?c2 ?c3 ?c4 ?c5
  walk_at "enter"
  intro g L' h₁ FG F' N' B' X' T'
  dsimp only
  k_fold
  k_steps
  unfold Hold
  have el : (((ps ++ [(x, t)]).length : Nat) : Int) - 1 = ((ps.length : Nat) : Int) := by simp
  rw [el]
  refine sd_spec (pos := ps.length) B' (by assumption) X' (by assumption) T' (Around.frames_deeper hA) rfl rfl (by rw [depth_deeper]; exact hd) off (by simp; omega) (by simp) ?_
  intro h3 tk3 F3 N3
  have e2 : (ps ++ [(x, t)])[ps.length]'(by simp) = (x, t) := by simp
  rw [e2] at N3
  dsimp only
  k_steps
  exact hret _ _ (by assumption) (by assumption)
/-- what is left by heappop of a heap that is not empty -/
noncomputable def popF (ps : List (List Nat × Tok)) : List (List Nat × Tok) := match ps.dropLast, ps.getLast? with
  | [], _ => []
  | q :: qs, some l => suF ((q :: qs).set 0 l) l
  | q :: qs, none => q :: qs
theorem pop_spec : ∀ {w : World} {mean : ExcName → Option Value} {mg mb : Str → Option Value} {A A₀ : Around} {env : Env} {outer : List Env} {base h₀ : Heap} {L hp : Addr} {m : Str → Option Value} {news : List (Addr × Obj)} {s : Shared} {Q E : Value → Shared → Prop} {ps : List (List Nat × Tok)} {n : Nat}
    (_ : Below A₀ base outer h₀) (_ : Fr h₀ L s.heap m) (_ : (KK w.params).In h₀) (_ : News h₀ L s.heap ((hp, hObj ps n) :: news)) (_ : Top VQ (looseW VQ LQ) mean mg mb h₀) (_ : A.frames = some (env :: outer)) (_ : env.frame = some L) (_ : env.scope.kind = .function) (_ : A.depth + 2 < recursionLimit)
    (_ : ∀ p ∈ news, p.1 ≠ hp) (_ : ps.length ≤ 100) (hne : 0 < ps.length)
    (_ : ∀ h' tk' n', Fr h₀ L h' m → News h₀ L h' ((hp, hObj (popF ps) n') :: news) → Q (toV ps[0]) { s with heap := h', toks := tk' }),
    wpAny (model PySem.Challenge.rw_oc0301_01.row.prog w) A (call (.ref 72) [.ref hp]) Q E s := by
  w_on
  k_fill
  intro w mean mg mb A A₀ env outer base h₀ L hp m news s Q E ps n B F X N T hA hf hk hd off hle hne hret
  obtain ⟨qs, q, rfl⟩ : ∃ qs q, ps = qs ++ [q] := ⟨ps.dropLast, ps.getLast (by intro e; rw [e] at hne; cases hne), (List.dropLast_concat_getLast _).symm⟩
  refine wpAny_call ?_
  refine' code_def (binds := [(Str.ofString "heap", .ref hp)]) B F X N T hA hf hk ?k6 ?k7 (by omega) ?k9 ?kB ?_ ?c2 ?c3 ?c4 ?c5
  walk_at "enter"
  intro g L' h₁ FG F' N' B' X' T'
  dsimp only
  k_fold
  have hle' : qs.length ≤ 99 := by simp at hle; omega
  cases qs with
  | nil =>
    k_steps
    exact hret _ _ _ (by assumption) (by assumption)
  | cons r rs =>
    have hr1 : (rs.length : Nat) + 1 ≤ 99 := hle'
    k_steps
    · unfold Hold
      refine su_spec B' (by assumption) X' (by assumption) T' (Around.frames_deeper hA) rfl rfl (by rw [depth_deeper]; omega) off (by rw [List.length_set, List.length_cons]; omega) (by rw [List.length_set, List.length_cons]; omega) ?_
      intro h3 tk3 F3 N3
      rw [List.getElem_set_self] at N3
      have e3 : suF ((r :: rs).set 0 (q.fst, q.snd)) (q.fst, q.snd) = popF (r :: rs ++ [q]) := by
        unfold popF
        rw [List.dropLast_concat, List.getLast?_concat]
      rw [e3] at N3
      dsimp only
      k_steps
      exact hret _ _ _ (by assumption) (by assumption)
    · exact absurd (Nat.succ_pos rs.length) (by assumption)
noncomputable def replF (ps : List (List Nat × Tok)) (x : List Nat × Tok) : List (List Nat × Tok) := suF (ps.set 0 x) x
theorem repl_spec : ∀ {w : World} {mean : ExcName → Option Value} {mg mb : Str → Option Value} {A A₀ : Around} {env : Env} {outer : List Env} {base h₀ : Heap} {L hp : Addr} {m : Str → Option Value} {news : List (Addr × Obj)} {s : Shared} {Q E : Value → Shared → Prop} {ps : List (List Nat × Tok)} {n : Nat} {x : List Nat} {t : Tok}
    (_ : Below A₀ base outer h₀) (_ : Fr h₀ L s.heap m) (_ : (KK w.params).In h₀) (_ : News h₀ L s.heap ((hp, hObj ps n) :: news)) (_ : Top VQ (looseW VQ LQ) mean mg mb h₀) (_ : A.frames = some (env :: outer)) (_ : env.frame = some L) (_ : env.scope.kind = .function) (_ : A.depth + 2 < recursionLimit)
    (_ : ∀ p ∈ news, p.1 ≠ hp) (_ : ps.length ≤ 100) (hne : 0 < ps.length)
    (_ : ∀ h' tk', Fr h₀ L h' m → News h₀ L h' ((hp, hObj (replF ps (x, t)) n) :: news) → Q (toV ps[0]) { s with heap := h', toks := tk' }),
    wpAny (model PySem.Challenge.rw_oc0301_01.row.prog w) A (call (.ref 79) [.ref hp, .str (S x) t]) Q E s := by
  w_on
  k_fill
  intro w mean mg mb A A₀ env outer base h₀ L hp m news s Q E ps n x t B F X N T hA hf hk hd off hle hne hret
  refine wpAny_call ?_
  refine' code_def (binds := [(Str.ofString "heap", .ref hp), (Str.ofString "item", .str (S x) t)]) B F X N T hA hf hk ?k6 ?k7 (by omega) ?k9 ?kB ?_ ?c2 ?c3 ?c4 ?c5
  walk_at "enter"
  intro g L' h₁ FG F' N' B' X' T'
  dsimp only
  k_fold
  k_steps
  unfold Hold
  refine su_spec B' (by assumption) X' (by assumption) T' (Around.frames_deeper hA) rfl rfl (by rw [depth_deeper]; omega) off (by rw [List.length_set]; omega) (by rw [List.length_set]; omega) ?_
  intro h3 tk3 F3 N3
  rw [List.getElem_set_self] at N3
  dsimp only
  k_steps
  exact hret _ _ (by assumption) (by assumption)
local macro_rules | `(tactic| walk_at "assign Tuple") => `(tactic| (k_here; (with_reducible show wpAny _ _ (assign (Expr.Tuple _ _ _) _ (Value.ref _)) _ _ _); k_dflt (refine' unpackN_ ?k1 ?k2 ?k3 ?k4 ?k5 ?k6 ?_; (case k1 => k_asm); (case k2 => k_asm); (case k3 => kun_tup); (case k4 => assumption); (case k5 => exact rfl); (case k6 => exact rfl); k_whole); intro h' F' N'; (replace N' := cb_drop N' (fun _ hp => List.Mem.tail _ hp)); (try k_sweep)))
theorem pushpop_spec : ∀ {w : World} {mean : ExcName → Option Value} {mg mb : Str → Option Value} {A A₀ : Around} {env : Env} {outer : List Env} {base h₀ : Heap} {L hp : Addr} {m : Str → Option Value} {news : List (Addr × Obj)} {s : Shared} {Q E : Value → Shared → Prop} {ps : List (List Nat × Tok)} {n : Nat} {x : List Nat} {t : Tok}
    (_ : Below A₀ base outer h₀) (_ : Fr h₀ L s.heap m) (_ : (KK w.params).In h₀) (_ : News h₀ L s.heap ((hp, hObj ps n) :: news)) (_ : Top VQ (looseW VQ LQ) mean mg mb h₀) (_ : A.frames = some (env :: outer)) (_ : env.frame = some L) (_ : env.scope.kind = .function) (_ : A.depth + 2 < recursionLimit) (_ : A.handled = none)
    (_ : ∀ p ∈ news, p.1 ≠ hp) (_ : ps.length ≤ 100)
    (_ : ∀ (hne : 0 < ps.length), hlt ps[0] (x, t) = true → ∀ h' tk', Fr h₀ L h' m → News h₀ L h' ((hp, hObj (replF ps (x, t)) n) :: news) → Q (toV ps[0]) { s with heap := h', toks := tk' })
    (_ : (∀ (hne : 0 < ps.length), hlt ps[0] (x, t) = false) → ∀ h' tk', Fr h₀ L h' m → News h₀ L h' ((hp, hObj ps n) :: news) → Q (.str (S x) t) { s with heap := h', toks := tk' }),
    wpAny (model PySem.Challenge.rw_oc0301_01.row.prog w) A (call (.ref 86) [.ref hp, .str (S x) t]) Q E s := by
  w_on
  k_fill
  intro w mean mg mb A A₀ env outer base h₀ L hp m news s Q E ps n x t B F X N T hA hf hk hd hh off hle hret1 hret2
  refine wpAny_call ?_
  refine' code_def (binds := [(Str.ofString "heap", .ref hp), (Str.ofString "item", .str (S x) t)]) B F X N T hA hf hk ?k6 ?k7 (by omega) ?k9 ?kB ?_ ?c2 ?c3 ?c4 ?c5
  walk_at "enter"
  intro g L' h₁ FG F' N' B' X' T'
  dsimp only
  k_fold
  have hh' : (A.deeper (envOf (Str.ofString "heappushpop") (fScope (st 10)) L' 86 (Value.ref 85))).handled = none := hh
  by_cases hne : 0 < ps.length
  · k_steps
    · unfold Hold
      refine su_spec B' (by assumption) X' (by assumption) T' (Around.frames_deeper hA) rfl rfl (by rw [depth_deeper]; omega) off (by rw [List.length_set]; omega) (by rw [List.length_set]; omega) ?_
      intro h3 tk3 F3 N3
      rw [List.getElem_set_self] at N3
      dsimp only
      k_steps
      exact hret1 hne (decide_eq_true (by assumption)) _ _ (by assumption) (by assumption)
    · exact hret2 (fun _ => decide_eq_false (by assumption)) _ _ (by assumption) (by assumption)
  · k_steps
    exact hret2 (fun h => absurd h hne) _ _ (by assumption) (by assumption)
end Heapq
end Mine
end TextHeapq
section TextPureH
open PySem PySem.W PyProof.Rows PySem.Calls
namespace Mine
/-! ## the heap, as a plain matter -/
section HeapLaw
set_option linter.unusedSectionVars false
variable {α : Type} [DecidableEq α] {lt : α → α → Bool}
theorem getD_set' (l : List α) (i j : Nat) (a d : α) : (l.set i a).getD j d = if i = j ∧ j < l.length then a else l.getD j d := by
  simp only [List.getD_eq_getElem?_getD, List.getElem?_set]
  by_cases h : i = j
  · subst h
    by_cases h2 : i < l.length <;> simp [h2]
  · simp [h]
theorem getD_set_self {l : List α} {i : Nat} (a d : α) (h : i < l.length) : (l.set i a).getD i d = a := by rw [getD_set', if_pos ⟨rfl, h⟩]
theorem getD_set_ne {l : List α} {i j : Nat} (a d : α) (h : i ≠ j) : (l.set i a).getD j d = l.getD j d := by rw [getD_set', if_neg (fun q => h q.1)]
theorem count_set' {l : List α} {i : Nat} (a b d : α) (h : i < l.length) : (l.set i a).count b + (if l.getD i d = b then 1 else 0) = l.count b + if a = b then 1 else 0 := by
  rw [List.count_set h]
  have e : l.getD i d = l[i] := by simp [List.getD, h]
  rw [e]
  by_cases hb : l[i] = b
  · have : 0 < l.count b := List.count_pos_iff.mpr (hb ▸ List.getElem_mem h)
    by_cases ha : a = b <;> simp [hb, ha] <;> omega
  · by_cases ha : a = b <;> simp [hb, ha]
theorem swap_count {l : List α} {i j : Nat} (new b d : α) (hi : i < l.length) (hj : j < l.length) (hij : i ≠ j) : ((l.set i (l.getD j d)).set j new).count b = (l.set i new).count b := by
  have h1 := count_set' (l := l.set i (l.getD j d)) (i := j) new b d (by simpa using hj)
  have h2 := count_set' (l := l) (i := i) (l.getD j d) b d hi
  have h3 := count_set' (l := l) (i := i) new b d hi
  rw [getD_set_ne _ _ hij] at h1
  omega
theorem sdF_len (new : α) : ∀ (f : Nat) (l : List α) (pos : Nat), (sdF lt new f l pos).length = l.length
  | 0, l, pos => by simp [sdF]
  | f + 1, l, pos => by
    unfold sdF
    split
    · simp
    · split
      · rw [sdF_len]; simp
      · simp
theorem sdF_count (new b : α) : ∀ (f : Nat) (l : List α) (pos : Nat), pos < l.length → (sdF lt new f l pos).count b = (l.set pos new).count b
  | 0, l, pos, _ => by simp [sdF]
  | f + 1, l, pos, h => by
    unfold sdF
    split
    · rfl
    · split
      · rw [sdF_count new b f _ _ (by rw [List.length_set]; omega)]
        exact swap_count new b new h (by omega) (by omega)
      · rfl
/-- no item stands before its parent -/
def HP (lt : α → α → Bool) (d : α) (l : List α) : Prop := ∀ i, 0 < i → i < l.length → lt (l.getD i d) (l.getD ((i - 1) / 2) d) = false
structure PH0 (lt : α → α → Bool) (d : α) (l : List α) (pos : Nat) : Prop where
  off : ∀ i, 0 < i → i < l.length → i ≠ pos → (i - 1) / 2 ≠ pos → lt (l.getD i d) (l.getD ((i - 1) / 2) d) = false
  up : 0 < pos → ∀ i, 0 < i → i < l.length → (i - 1) / 2 = pos → lt (l.getD i d) (l.getD ((pos - 1) / 2) d) = false
theorem sdF_heap (asy : ∀ a b, lt a b = true → lt b a = false) (tr : ∀ a b c, lt b a = false → lt c b = false → lt c a = false) (new : α) : ∀ (f : Nat) (l : List α) (pos : Nat), pos ≤ f → pos < l.length → PH0 lt new l pos → (∀ i, 0 < i → i < l.length → (i - 1) / 2 = pos → lt (l.getD i new) new = false) → HP lt new (sdF lt new f l pos) := by
  intro f
  have fin : ∀ (l : List α) (pos : Nat), pos < l.length → PH0 lt new l pos → (∀ i, 0 < i → i < l.length → (i - 1) / 2 = pos → lt (l.getD i new) new = false) → (0 < pos → lt new (l.getD ((pos - 1) / 2) new) = false) → HP lt new (l.set pos new) := by
    intro l pos hp h1 h2 h3 i h0 hi
    rw [List.length_set] at hi
    by_cases e1 : i = pos
    · subst e1
      rw [getD_set_self _ _ hp, getD_set_ne _ _ (by omega)]
      exact h3 h0
    · by_cases e2 : (i - 1) / 2 = pos
      · rw [e2, getD_set_self _ _ hp, getD_set_ne _ _ (fun e => e1 e.symm)]
        exact h2 i h0 hi e2
      · rw [getD_set_ne _ _ (fun e => e1 e.symm), getD_set_ne _ _ (fun e => e2 e.symm)]
        exact h1.off i h0 hi e1 e2
  induction f with
  | zero =>
    intro l pos hf hp h1 h2
    have e : pos = 0 := by omega
    subst e
    exact fin l 0 hp h1 h2 (fun h => absurd h (Nat.lt_irrefl 0))
  | succ f ih =>
    intro l pos hf hp h1 h2
    unfold sdF
    split
    · rename_i e
      subst e
      exact fin l 0 hp h1 h2 (fun h => absurd h (Nat.lt_irrefl 0))
    · rename_i e
      split
      · rename_i hlt
        have hn := asy _ _ hlt
        have hpp : (pos - 1) / 2 < pos := by omega
        refine ih _ _ (by omega) (by rw [List.length_set]; omega) ⟨?_, ?_⟩ ?_
        · intro i h0 hi c1 c2
          rw [List.length_set] at hi
          have c3 : i ≠ pos := fun q => c2 (by rw [q])
          rw [getD_set_ne _ _ (fun e => c3 e.symm)]
          by_cases c4 : (i - 1) / 2 = pos
          · rw [c4, getD_set_self _ _ hp]
            exact h1.up (by omega) i h0 hi c4
          · rw [getD_set_ne _ _ (fun e => c4 e.symm)]
            exact h1.off i h0 hi c3 c4
        · intro h5 i h0 hi c1
          rw [List.length_set] at hi
          have c6 : lt (l.getD ((pos - 1) / 2) new) (l.getD (((pos - 1) / 2 - 1) / 2) new) = false := h1.off _ h5 (by omega) (by omega) (by omega)
          rw [getD_set_ne (i := pos) (j := ((pos - 1) / 2 - 1) / 2) _ _ (by omega)]
          by_cases c3 : i = pos
          · subst c3
            rw [getD_set_self _ _ hp]
            exact c6
          · rw [getD_set_ne _ _ (fun e => c3 e.symm)]
            have c7 := h1.off i h0 hi c3 (by omega)
            rw [c1] at c7
            exact tr _ _ _ c6 c7
        · intro i h0 hi c1
          rw [List.length_set] at hi
          by_cases c3 : i = pos
          · subst c3
            rw [getD_set_self _ _ hp]
            exact hn
          · rw [getD_set_ne _ _ (fun e => c3 e.symm)]
            have c7 := h1.off i h0 hi c3 (by omega)
            rw [c1] at c7
            exact tr _ _ _ hn c7
      · rename_i hlt
        exact fin l pos hp h1 h2 (fun _ => by simpa using hlt)
theorem suC_bounds (l : List α) (c : Nat) (d : α) (h : c < l.length) : suC lt l c d < l.length ∧ (suC lt l c d = c ∨ suC lt l c d = c + 1) := by
  unfold suC; split
  · rename_i q; exact ⟨q.1, .inr rfl⟩
  · exact ⟨h, .inl rfl⟩
theorem suL_spec (asy : ∀ a b, lt a b = true → lt b a = false) (new : α) : ∀ (f : Nat) (l : List α) (pos : Nat), l.length ≤ pos + f → pos < l.length → PH0 lt new l pos →
    (suL lt new f l pos).1.length = l.length ∧ (suL lt new f l pos).2 < l.length ∧ l.length ≤ 2 * (suL lt new f l pos).2 + 1 ∧ PH0 lt new (suL lt new f l pos).1 (suL lt new f l pos).2 ∧ (∀ b, ((suL lt new f l pos).1.set (suL lt new f l pos).2 new).count b = (l.set pos new).count b) := by
  intro f
  induction f with
  | zero => intro l pos h1 h2; omega
  | succ f ih =>
    intro l pos h1 h2 h3
    unfold suL
    split
    · rename_i hc
      obtain ⟨b1, b2⟩ := suC_bounds (lt := lt) l (2 * pos + 1) new hc
      have hsm : ∀ i, 0 < i → i < l.length → (i - 1) / 2 = pos → i ≠ suC lt l (2 * pos + 1) new → lt (l.getD i new) (l.getD (suC lt l (2 * pos + 1) new) new) = false := by
        intro i h0 hi e1 e2
        have hi2 : i = 2 * pos + 1 ∨ i = 2 * pos + 1 + 1 := by omega
        unfold suC at e2 ⊢
        split at e2
        · rename_i q
          rw [if_pos q]
          have : i = 2 * pos + 1 := by omega
          rw [this]; exact q.2
        · rename_i q
          rw [if_neg q]
          have e3 : i = 2 * pos + 1 + 1 := by omega
          rw [e3]
          refine asy _ _ ?_
          rw [← Bool.not_eq_false]
          exact fun z => q ⟨by omega, z⟩
      generalize suC lt l (2 * pos + 1) new = c at *
      have hpar : (c - 1) / 2 = pos := by omega
      have hP : PH0 lt new (l.set pos (l.getD c new)) c := by
        refine ⟨?_, ?_⟩
        · intro i h0 hi c1 c2
          rw [List.length_set] at hi
          by_cases c3 : i = pos
          · subst c3
            rw [getD_set_self _ _ hi, getD_set_ne _ _ (by omega)]
            exact h3.up h0 c (by omega) b1 hpar
          · rw [getD_set_ne _ _ (fun e => c3 e.symm)]
            by_cases c4 : (i - 1) / 2 = pos
            · rw [c4, getD_set_self _ _ h2]
              exact hsm i h0 hi c4 c1
            · rw [getD_set_ne _ _ (fun e => c4 e.symm)]
              exact h3.off i h0 hi c3 c4
        · intro h5 i h0 hi c1
          rw [List.length_set] at hi
          rw [hpar, getD_set_self _ _ h2, getD_set_ne _ _ (by omega)]
          have := h3.off i h0 hi (by omega) (by omega)
          rw [c1] at this
          exact this
      obtain ⟨r1, r2, r3, r4, r5⟩ := ih (l.set pos (l.getD c new)) c (by rw [List.length_set]; omega) (by rw [List.length_set]; omega) hP
      rw [List.length_set] at r1 r2 r3
      refine ⟨r1, r2, r3, r4, fun b => ?_⟩
      rw [r5 b]
      exact swap_count new b new h2 b1 (by omega)
    · rename_i hc
      exact ⟨rfl, h2, by omega, h3, fun _ => rfl⟩
/-- the whole sift up -/
theorem su_heap (asy : ∀ a b, lt a b = true → lt b a = false) (tr : ∀ a b c, lt b a = false → lt c b = false → lt c a = false) (new : α) (l : List α) (h0 : 0 < l.length) (h : PH0 lt new l 0) :
    let r := suL lt new l.length l 0
    let o := sdF lt new r.2 (r.1.set r.2 new) r.2
    o.length = l.length ∧ HP lt new o ∧ ∀ b, o.count b = (l.set 0 new).count b := by
  intro r o
  obtain ⟨r1, r2, r3, r4, r5⟩ := suL_spec asy new l.length l 0 (by omega) h0 h
  have r1' : r.1.length = l.length := r1
  have r2' : r.2 < l.length := r2
  have r3' : l.length ≤ 2 * r.2 + 1 := r3
  have r4' : PH0 lt new r.1 r.2 := r4
  have hP : PH0 lt new (r.1.set r.2 new) r.2 := by
    refine ⟨?_, ?_⟩
    · intro i h0 hi c1 c2
      rw [List.length_set] at hi
      rw [getD_set_ne _ _ (fun e => c1 e.symm), getD_set_ne _ _ (fun e => c2 e.symm)]
      exact r4'.off i h0 hi c1 c2
    · intro h5 i h0 hi c1
      rw [List.length_set] at hi
      omega
  refine ⟨?_, ?_, ?_⟩
  · show (sdF lt new r.2 (r.1.set r.2 new) r.2).length = _
    rw [sdF_len, List.length_set, r1']
  · refine sdF_heap asy tr new r.2 _ _ (Nat.le_refl _) (by rw [List.length_set]; omega) hP ?_
    intro i h0 hi c1
    rw [List.length_set] at hi
    omega
  · intro b
    show (sdF lt new r.2 (r.1.set r.2 new) r.2).count b = _
    rw [sdF_count new b _ _ _ (by rw [List.length_set]; omega), List.set_set]
    exact r5 b
theorem HP.min (irr : ∀ a, lt a a = false) (tr : ∀ a b c, lt b a = false → lt c b = false → lt c a = false) {d : α} {l : List α} (h : HP lt d l) : ∀ i, i < l.length → lt (l.getD i d) (l.getD 0 d) = false := by
  intro i
  induction i using Nat.strongRecOn with
  | ind i ih =>
    intro hi
    by_cases h0 : i = 0
    · subst h0; exact irr _
    · exact tr _ _ _ (ih ((i - 1) / 2) (by omega) (by omega)) (h i (by omega) hi)
theorem HP.dflt {d d' : α} {l : List α} (h : HP lt d l) : HP lt d' l := by
  intro i h0 hi
  have := h i h0 hi
  have e1 : ∀ j, j < l.length → l.getD j d' = l.getD j d := fun j hj => by simp [List.getD, hj]
  rw [e1 i hi, e1 _ (by omega)]
  exact this
theorem HP.ph0 {d : α} {l : List α} (h : HP lt d l) (x : α) : PH0 lt d (l.set 0 x) 0 := by
  refine ⟨?_, fun q => absurd q (Nat.lt_irrefl 0)⟩
  intro i h0 hi c1 c2
  rw [List.length_set] at hi
  rw [getD_set_ne _ _ (fun e => c1 e.symm), getD_set_ne _ _ (fun e => c2 e.symm)]
  exact h i h0 hi
theorem HP.snoc {d : α} {l : List α} (h : HP lt d l) (x : α) : PH0 lt d (l ++ [x]) l.length ∧ ∀ i, 0 < i → i < (l ++ [x]).length → (i - 1) / 2 = l.length → lt ((l ++ [x]).getD i d) x = false := by
  have e1 : ∀ j, j < l.length → (l ++ [x]).getD j d = l.getD j d := fun j hj => by simp [List.getD, List.getElem?_append_left hj]
  refine ⟨⟨?_, ?_⟩, ?_⟩
  · intro i h0 hi c1 c2
    have hi' : i < l.length := by simp at hi; omega
    rw [e1 i hi', e1 _ (by omega)]
    exact h i h0 hi'
  · intro h5 i h0 hi c1
    simp at hi; omega
  · intro i h0 hi c1
    simp at hi; omega
theorem HP.init {d : α} {l : List α} {x : α} (h : HP lt d (l ++ [x])) : HP lt d l := by
  have e1 : ∀ j, j < l.length → (l ++ [x]).getD j d = l.getD j d := fun j hj => by simp [List.getD, List.getElem?_append_left hj]
  intro i h0 hi
  have := h i h0 (by simp; omega)
  rw [e1 i hi, e1 _ (by omega)] at this
  exact this
theorem perm_count {l k : List α} (h : ∀ b, l.count b = k.count b) : l.Perm k := List.perm_iff_count.mpr h
theorem pushG_perm (x : α) (ps : List α) : (sdF lt x ps.length (ps ++ [x]) ps.length).Perm (x :: ps) := by
  refine perm_count fun b => ?_
  rw [sdF_count x b _ _ _ (by simp), List.set_append_right _ _ (Nat.le_refl _)]
  simp [List.count_append, List.count_cons]
end HeapLaw
theorem hlt_asy (a b : List Nat × Tok) (h : hlt a b = true) : hlt b a = false := by
  have h1 : a.1 < b.1 := of_decide_eq_true h
  exact decide_eq_false (List.lt_asymm h1)
theorem hlt_irr (a : List Nat × Tok) : hlt a a = false := decide_eq_false (List.lt_irrefl a.1)
theorem hlt_tr (a b c : List Nat × Tok) (h1 : hlt b a = false) (h2 : hlt c b = false) : hlt c a = false := by
  have e1 : ¬ b.1 < a.1 := of_decide_eq_false h1
  have e2 : ¬ c.1 < b.1 := of_decide_eq_false h2
  refine decide_eq_false ?_
  exact List.not_lt.mpr (List.le_trans (List.not_lt.mp e1) (List.not_lt.mp e2))
/-- the heap's order -/
def HPs (ps : List (List Nat × Tok)) : Prop := HP hlt ([], 0) ps
theorem push_law {ps : List (List Nat × Tok)} (x : List Nat × Tok) (h : HPs ps) : HPs (pushF ps x) ∧ (pushF ps x).Perm (x :: ps) := by
  obtain ⟨h1, h2⟩ := HP.snoc (HP.dflt (d' := x) h) x
  refine ⟨HP.dflt (sdF_heap hlt_asy hlt_tr x _ _ _ (Nat.le_refl _) (by simp) h1 h2), ?_⟩
  exact pushG_perm x ps
theorem suF_law {ps : List (List Nat × Tok)} (x : List Nat × Tok) (h0 : 0 < ps.length) (h : HPs ps) : HPs (suF (ps.set 0 x) x) ∧ (suF (ps.set 0 x) x).Perm (ps.set 0 x) := by
  obtain ⟨r1, r2, r3⟩ := su_heap hlt_asy hlt_tr x (ps.set 0 x) (by simpa using h0) (HP.ph0 (HP.dflt (d' := x) h) x)
  refine ⟨HP.dflt r2, perm_count fun b => ?_⟩
  have := r3 b
  rw [List.set_set] at this
  exact this
theorem min_law {ps : List (List Nat × Tok)} (h0 : 0 < ps.length) (h : HPs ps) : ∀ q ∈ ps, ¬ q.1 < ps[0].1 := by
  intro q hq
  obtain ⟨i, hi, rfl⟩ := List.mem_iff_getElem.mp hq
  have := HP.min hlt_irr hlt_tr h i hi
  have e1 : ps.getD i ([], 0) = ps[i] := by simp [List.getD, hi]
  have e2 : ps.getD 0 ([], 0) = ps[0] := by simp [List.getD, h0]
  rw [e1, e2] at this
  exact of_decide_eq_false this
theorem repl_law {ps : List (List Nat × Tok)} (x : List Nat × Tok) (h0 : 0 < ps.length) (h : HPs ps) : HPs (replF ps x) ∧ (ps[0] :: replF ps x).Perm (x :: ps) := by
  obtain ⟨r1, r2⟩ := suF_law x h0 h
  refine ⟨r1, (List.Perm.cons _ r2).trans ?_⟩
  match ps, h0 with
  | p :: ps, _ => exact List.Perm.swap ..
theorem pop_law {ps : List (List Nat × Tok)} (h0 : 0 < ps.length) (h : HPs ps) : HPs (popF ps) ∧ (ps[0] :: popF ps).Perm ps := by
  obtain ⟨qs, q, rfl⟩ : ∃ qs q, ps = qs ++ [q] := ⟨ps.dropLast, ps.getLast (by intro e; rw [e] at h0; cases h0), (List.dropLast_concat_getLast _).symm⟩
  cases qs with
  | nil =>
    refine ⟨?_, ?_⟩
    · intro i h0 hi; exact absurd hi (by simp [popF])
    · exact List.Perm.refl _
  | cons r rs =>
    have e : popF (r :: rs ++ [q]) = suF ((r :: rs).set 0 q) q := by
      unfold popF
      rw [List.dropLast_concat, List.getLast?_concat]
    rw [e]
    obtain ⟨r1, r2⟩ := suF_law q (by simp) (HP.init h)
    refine ⟨r1, (List.Perm.cons _ r2).trans ?_⟩
    show (r :: (q :: rs)).Perm (r :: (rs ++ [q]))
    exact List.Perm.cons _ (List.perm_append_singleton q rs).symm
end Mine
end TextPureH
section TextPureO
open PySem PySem.W PyProof.Rows PySem.Calls
set_option maxRecDepth 100000
namespace Mine
/-! ## the order of the dresses is the order of the ranks -/
def dressF (l : List Nat) : List Nat := escF (quoteF l)
/-- what one sign of a quoted word becomes -/
def codeC (c : Nat) : List Nat := escF (if c = 39 then [39, 34, 39, 34, 39] else [c])
theorem escF_append (a b : List Nat) : escF (a ++ b) = escF a ++ escF b := by simp [escF]
theorem escF_rep : ∀ l : List Nat, escF (rep 39 [39, 34, 39, 34, 39] l) = l.flatMap codeC
  | [] => rfl
  | c :: l => by
    have e : rep 39 [39, 34, 39, 34, 39] (c :: l) = (if c = 39 then [39, 34, 39, 34, 39] else [c]) ++ rep 39 [39, 34, 39, 34, 39] l := rfl
    rw [e, escF_append, escF_rep l]; rfl
theorem escF_safe : ∀ l : List Nat, l.all isSafe = true → escF l = l
  | [], _ => rfl
  | c :: l, h => by
    simp only [List.all_cons, Bool.and_eq_true] at h
    have e : escF (c :: l) = escC c ++ escF l := by simp [escF]
    have ec : escC c = [c] := by
      have h1 := h.1
      simp only [isSafe, Bool.or_eq_true, beq_iff_eq] at h1
      rcases h1 with rfl | rfl <;> decide
    rw [e, ec, escF_safe l h.2]; rfl
def isPlain (l : List Nat) : Bool := !l.isEmpty && l.all isSafe
theorem dress_safe {l : List Nat} (h : isPlain l = true) : dressF l = l ∧ ranksF l = l.map (fun c : Nat => 8 * (c : Int)) := by
  simp only [isPlain, Bool.and_eq_true, Bool.not_eq_true', List.isEmpty_eq_false_iff] at h
  unfold dressF quoteF ranksF
  rw [if_neg h.1, if_pos h.2, escF_safe l h.2, if_pos h]
  exact ⟨rfl, rfl⟩
theorem dress_quoted {l : List Nat} (h : isPlain l = false) : dressF l = 39 :: (l.flatMap codeC ++ [39]) ∧ ranksF l = 312 :: (l.map rk ++ [312]) := by
  have h' : ¬ (l ≠ [] ∧ l.all isSafe = true) := by
    intro q
    have : isPlain l = true := by simp only [isPlain, Bool.and_eq_true, Bool.not_eq_true', List.isEmpty_eq_false_iff]; exact q
    rw [h] at this; cases this
  refine ⟨?_, ?_⟩
  · unfold dressF quoteF
    by_cases e : l = []
    · subst e; decide
    · rw [if_neg e, if_neg (fun q => h' ⟨e, q⟩)]
      have e1 : (39 :: (rep 39 [39, 34, 39, 34, 39] l ++ [39]) : List Nat) = [39] ++ (rep 39 [39, 34, 39, 34, 39] l ++ [39]) := rfl
      rw [e1, escF_append, escF_append, escF_rep]; rfl
  · unfold ranksF
    rw [if_neg h']
/-- told by the first place where the two differ -/
noncomputable def dec2 : List Nat → List Nat → Option Bool
  | a :: x, b :: y => if a = b then dec2 x y else some (decide (a < b))
  | _, _ => none
theorem dec2_spec : ∀ (a b x y : List Nat) (r : Bool), dec2 a b = some r → (a ++ x < b ++ y) → r = true
  | [], _, _, _, _, h, _ => by simp [dec2] at h
  | _ :: _, [], _, _, _, h, _ => by simp [dec2] at h
  | a :: p, b :: q, x, y, r, h, hl => by
    unfold dec2 at h
    rw [List.cons_append, List.cons_append, List.cons_lt_cons_iff] at hl
    split at h
    · rename_i e
      subst e
      rcases hl with hl | hl
      · exact absurd hl (Nat.lt_irrefl _)
      · exact dec2_spec p q x y r h hl.2
    · rename_i e
      rcases hl with hl | hl
      · rw [← Option.some.inj h]; exact decide_eq_true hl
      · exact absurd hl.1 e
theorem code_pairs : ∀ c ∈ SIGNS, ∀ d ∈ SIGNS, c ≠ d → (dec2 (codeC c) (codeC d) = some true ∧ rk c < rk d) ∨ dec2 (codeC c) (codeC d) = some false := by decide +kernel
theorem code_end : ∀ c ∈ SIGNS, c ≠ 39 → (dec2 [39] (codeC c) = some true ∧ 312 < rk c) ∨ dec2 [39] (codeC c) = some false := by decide +kernel
theorem code_end' : ∀ c ∈ SIGNS, c ≠ 39 → (dec2 (codeC c) [39] = some true ∧ rk c < 312) ∨ dec2 (codeC c) [39] = some false := by decide +kernel
theorem app_lt : ∀ (a x y : List Nat), a ++ x < a ++ y → x < y
  | [], _, _, h => h
  | c :: a, x, y, h => by
    rw [List.cons_append, List.cons_append, List.cons_lt_cons_iff] at h
    rcases h with h | h
    · exact absurd h (Nat.lt_irrefl _)
    · exact app_lt a x y h.2
theorem body_lt : ∀ (u v : List Nat), (∀ c ∈ u, c ∈ SIGNS) → (∀ c ∈ v, c ∈ SIGNS) → u.flatMap codeC ++ [39] < v.flatMap codeC ++ [39] → u.map rk ++ [312] < v.map rk ++ [312]
  | [], [], _, _, h => absurd h (List.lt_irrefl _)
  | [], d :: v, _, hv, h => by
    have hd := hv d (.head _)
    by_cases e : d = 39
    · subst e
      exact List.cons_lt_cons_iff.mpr (.inl (by decide))
    · rw [List.flatMap_nil, List.nil_append, List.flatMap_cons, List.append_assoc] at h
      rcases code_end d hd e with ⟨_, q⟩ | q
      · exact List.cons_lt_cons_iff.mpr (.inl q)
      · have := dec2_spec [39] (codeC d) [] _ false q h
        cases this
  | c :: u, [], hu, _, h => by
    have hc := hu c (.head _)
    by_cases e : c = 39
    · subst e
      exfalso
      have e2 : (List.flatMap codeC (39 :: u) ++ [39]) = 39 :: ([38, 113, 117, 111, 116, 59, 39, 38, 113, 117, 111, 116, 59, 39] ++ (List.flatMap codeC u ++ [39])) := by
        rw [List.flatMap_cons, List.append_assoc]; rfl
      rw [e2, List.flatMap_nil, List.nil_append, List.cons_lt_cons_iff] at h
      rcases h with h | h
      · exact absurd h (Nat.lt_irrefl _)
      · exact absurd h.2 (List.not_lt_nil _)
    · rw [List.flatMap_nil, List.nil_append, List.flatMap_cons, List.append_assoc] at h
      rcases code_end' c hc e with ⟨_, q⟩ | q
      · exact List.cons_lt_cons_iff.mpr (.inl q)
      · have := dec2_spec (codeC c) [39] _ [] false q h
        cases this
  | c :: u, d :: v, hu, hv, h => by
    by_cases e : c = d
    · subst e
      rw [List.flatMap_cons, List.flatMap_cons, List.append_assoc, List.append_assoc] at h
      have := body_lt u v (fun c hc => hu c (.tail _ hc)) (fun c hc => hv c (.tail _ hc)) (app_lt _ _ _ h)
      exact List.cons_lt_cons_iff.mpr (.inr ⟨rfl, this⟩)
    · rw [List.flatMap_cons, List.flatMap_cons, List.append_assoc, List.append_assoc] at h
      rcases code_pairs c (hu c (.head _)) d (hv d (.head _)) e with ⟨_, q⟩ | q
      · exact List.cons_lt_cons_iff.mpr (.inl q)
      · have := dec2_spec _ _ _ _ false q h
        cases this
theorem map8_lt : ∀ (u v : List Nat), u < v → u.map (fun c : Nat => 8 * (c : Int)) < v.map (fun c : Nat => 8 * (c : Int))
  | _, [], h => absurd h (List.not_lt_nil _)
  | [], _ :: _, _ => List.nil_lt_cons _ _
  | a :: u, b :: v, h => by
    rw [List.cons_lt_cons_iff] at h
    refine List.cons_lt_cons_iff.mpr ?_
    rcases h with h | ⟨rfl, h⟩
    · exact .inl (show 8 * (a : Int) < 8 * (b : Int) by omega)
    · exact .inr ⟨rfl, map8_lt u v h⟩
theorem plain_head {l : List Nat} (h : isPlain l = true) : ∃ c r, l = c :: r ∧ (c = 97 ∨ c = 37) := by
  cases l with
  | nil => cases h
  | cons c r =>
    simp only [isPlain, List.isEmpty_cons, Bool.not_false, Bool.true_and, List.all_cons, Bool.and_eq_true, isSafe, Bool.or_eq_true, beq_iff_eq] at h
    exact ⟨c, r, rfl, h.1⟩
/-- of two words' dresses the lesser has the lesser ranks -/
theorem dress_lt {u v : List Nat} (hu : IsWord u) (hv : IsWord v) (h : dressF u < dressF v) : ranksF u < ranksF v := by
  cases eu : isPlain u with
  | true =>
    obtain ⟨a1, a2⟩ := dress_safe eu
    cases ev : isPlain v with
    | true =>
      obtain ⟨b1, b2⟩ := dress_safe ev
      rw [a2, b2]; rw [a1, b1] at h
      exact map8_lt u v h
    | false =>
      obtain ⟨b1, b2⟩ := dress_quoted ev
      obtain ⟨c, r, rfl, hc⟩ := plain_head eu
      rw [a2, b2]; rw [a1, b1, List.cons_lt_cons_iff] at h
      refine List.cons_lt_cons_iff.mpr (.inl ?_)
      rcases hc with rfl | rfl
      · rcases h with h | h
        · exact absurd h (by decide)
        · exact absurd h.1 (by decide)
      · decide
  | false =>
    obtain ⟨a1, a2⟩ := dress_quoted eu
    cases ev : isPlain v with
    | true =>
      obtain ⟨b1, b2⟩ := dress_safe ev
      obtain ⟨c, r, rfl, hc⟩ := plain_head ev
      rw [a2, b2]; rw [a1, b1, List.cons_lt_cons_iff] at h
      refine List.cons_lt_cons_iff.mpr (.inl ?_)
      rcases hc with rfl | rfl
      · decide
      · rcases h with h | h
        · exact absurd h (by decide)
        · exact absurd h.1 (by decide)
    | false =>
      obtain ⟨b1, b2⟩ := dress_quoted ev
      rw [a2, b2]; rw [a1, b1, List.cons_lt_cons_iff] at h
      refine List.cons_lt_cons_iff.mpr (.inr ⟨rfl, ?_⟩)
      rcases h with h | h
      · exact absurd h (by decide)
      · exact body_lt u v hu.2 hv.2 h.2
/-- the least by ranks has the least dress -/
theorem dress_min {ws : List (List Nat)} {f : List Nat} {d : List Nat} (hw : ∀ u ∈ ws, IsWord u) (hf : f ∈ ws) (hmin : ∀ u ∈ ws, ¬ ranksF u < ranksF f) (hd : d ∈ ws.map dressF) (hdm : ∀ e ∈ ws.map dressF, ¬ e < d) : d = dressF f := by
  obtain ⟨u, hu, rfl⟩ := List.mem_map.mp hd
  have h1 : ¬ dressF f < dressF u := hdm _ (List.mem_map.mpr ⟨f, hf, rfl⟩)
  have h2 : ¬ dressF u < dressF f := fun q => hmin u hu (dress_lt (hw u hu) (hw f hf) q)
  exact List.le_antisymm (List.not_lt.mp h1) (List.not_lt.mp h2)
/-- what is told holds no sign of the seven but & -/
theorem dress_free (l : List Nat) : ∀ c ∈ dressF l, c ≠ 60 ∧ c ≠ 62 ∧ c ≠ 34 ∧ c ≠ 9 ∧ c ≠ 10 ∧ c ≠ 13 := by
  intro c hc
  unfold dressF escF at hc
  obtain ⟨d, _, hd⟩ := List.mem_flatMap.mp hc
  clear hc
  unfold escC at hd
  by_cases h1 : d = 38
  · rw [if_pos h1] at hd; revert c; decide
  rw [if_neg h1] at hd
  by_cases h2 : d = 60
  · rw [if_pos h2] at hd; revert c; decide
  rw [if_neg h2] at hd
  by_cases h3 : d = 62
  · rw [if_pos h3] at hd; revert c; decide
  rw [if_neg h3] at hd
  by_cases h4 : d = 34
  · rw [if_pos h4] at hd; revert c; decide
  rw [if_neg h4] at hd
  by_cases h5 : d = 13
  · rw [if_pos h5] at hd; revert c; decide
  rw [if_neg h5] at hd
  by_cases h6 : d = 10
  · rw [if_pos h6] at hd; revert c; decide
  rw [if_neg h6] at hd
  by_cases h7 : d = 9
  · rw [if_pos h7] at hd; revert c; decide
  rw [if_neg h7, List.mem_singleton] at hd
  subst hd
  exact ⟨h2, h3, h4, h7, h6, h5⟩
end Mine
end TextPureO
section TextRowCmp
open PySem PySem.W PyProof.Rows PySem.Calls
set_option maxRecDepth 100000
set_option maxHeartbeats 8000000
set_option linter.unusedVariables false
namespace Mine
/-! ## comparing the rows -/
section Cmp
open PySem.SeqAt AutoSeq1 MeetsSeq MeetsSeq2 MeetsSeq3 SeqRoads2
theorem ints_len : ∀ {vs : List Value} {ns : List Int}, IntsAre vs ns → vs.length = ns.length
  | _, _, .nil => rfl
  | _, _, .cons _ _ h => by simp [ints_len h]
theorem ints_get : ∀ {vs : List Value} {ns : List Int}, IntsAre vs ns → ∀ i (h : i < vs.length) (h2 : i < ns.length), ∃ t, vs[i] = .int (ns[i]) t
  | _, _, .nil, i, h, _ => absurd h (Nat.not_lt_zero _)
  | _, _, .cons a t r, 0, _, _ => ⟨t, rfl⟩
  | _, _, .cons a t r, i + 1, h, h2 => ints_get r i (Nat.lt_of_succ_lt_succ h) (Nat.lt_of_succ_lt_succ h2)
theorem lt_loop (l b : Addr) (items items2 : Array Value) (n n2 : Nat) (ns ns2 : List Int) (hi : IntsAre items.toList ns) (hi2 : IntsAre items2.toList ns2) (k : Nat) :
    ∀ i : Nat, items.size - i = k → i ≤ items.size → i ≤ items2.size → Meets (Builtin.«list.__eq__.loop» ⟨[.ref l, .ref b, rawInt i, rawInt 0], []⟩)
      (fun A R s => s.heap.get? l = some { cls := .type "list", dict := none, data := .seq items n, slots := #[] } ∧ s.heap.get? b = some { cls := .type "list", dict := none, data := .seq items2 n2, slots := #[] } ∧
        R (.ok (.ret (.bool (decide (ns.drop i < ns2.drop i))))) s) := by
  have l1 : items.size = ns.length := by have := ints_len hi; simpa using this
  have l2 : items2.size = ns2.length := by have := ints_len hi2; simpa using this
  induction k with
  | zero =>
    intro i hk h1 h2 prog w A R s h
    obtain ⟨hp, g, d, tk, os⟩ := s; obtain ⟨hl, hb, h⟩ := h
    wp_walk using wpAny_loadPart' hl, wpAny_loadPart' hb
    have e1 : items[((i : Nat) : Int).toNat]? = none := by simp; omega
    have e3 : ns.drop i = [] := by rw [List.drop_eq_nil_iff]; omega
    have e4 : decide (ns.drop i < ns2.drop i) = decide (items.size < items2.size) := by
      rw [e3]
      cases e5 : ns2.drop i with
      | nil =>
        have := List.drop_eq_nil_iff.mp e5
        rw [decide_eq_false (List.not_lt_nil _), decide_eq_false (by omega)]
      | cons c r =>
        have : i < ns2.length := by
          rcases Nat.lt_or_ge i ns2.length with q | q
          · exact q
          · rw [List.drop_eq_nil_iff.mpr q] at e5; cases e5
        rw [decide_eq_true (List.nil_lt_cons _ _), decide_eq_true (by omega)]
    rw [e4] at h
    rw [e1]
    cases items2[((i : Nat) : Int).toNat]? <;> (wp_walk using wpAny_loadPart' hl, wpAny_loadPart' hb; exact h)
  | succ k ih =>
    intro i hk h1 h2 prog w A R s h
    obtain ⟨hp, g, d, tk, os⟩ := s; obtain ⟨hl, hb, h⟩ := h
    wp_walk using wpAny_loadPart' hl, wpAny_loadPart' hb
    have hlt : i < items.size := by omega
    have e1 : items[((i : Nat) : Int).toNat]? = some items[i] := by simp [hlt]
    have hn1 : i < ns.length := by omega
    have hd1 : ns.drop i = ns[i] :: ns.drop (i + 1) := List.drop_eq_getElem_cons hn1
    by_cases hlt2 : i < items2.size
    · have e2 : items2[((i : Nat) : Int).toNat]? = some items2[i] := by simp [hlt2]
      have hn2 : i < ns2.length := by omega
      have hd2 : ns2.drop i = ns2[i] :: ns2.drop (i + 1) := List.drop_eq_getElem_cons hn2
      obtain ⟨t1, q1⟩ := ints_get hi i (by simpa using hlt) hn1
      obtain ⟨t2, q2⟩ := ints_get hi2 i (by simpa using hlt2) hn2
      have q1' : items[i] = .int ns[i] t1 := by simpa using q1
      have q2' : items2[i] = .int ns2[i] t2 := by simpa using q2
      have hc : ((i : Int) + 1) = ((i + 1 : Nat) : Int) := by push_cast; rfl
      rw [e1, e2, q1', q2']
      rw [hd1, hd2] at h
      refine wpAny_bind (wpAny_eqBool_int ?_)
      by_cases hq : ns[i] = ns2[i]
      · have e6 : decide ((ns[i] :: ns.drop (i + 1)) < (ns2[i] :: ns2.drop (i + 1))) = decide (ns.drop (i + 1) < ns2.drop (i + 1)) := by
          rw [decide_eq_decide, List.cons_lt_cons_iff]
          exact ⟨fun z => z.elim (fun z => absurd z (by omega)) (fun z => z.2), fun z => .inr ⟨hq, z⟩⟩
        rw [e6] at h
        have e7 : (ns[i] == ns2[i]) = true := by simp [hq]
        rw [e7]
        wp_walk
        rw [hc]
        exact ⟨plainId_quiet plain_eq_loop _, codeAny_builtin entry_eq_loop (by
          rw [Around.under_plainId plain_eq_loop _]
          exact ih (i + 1) (by omega) (by omega) (by omega) prog w A R _ ⟨hl, hb, h⟩)⟩
      · have e6 : decide ((ns[i] :: ns.drop (i + 1)) < (ns2[i] :: ns2.drop (i + 1))) = decide (ns[i] < ns2[i]) := by
          rw [decide_eq_decide, List.cons_lt_cons_iff]
          exact ⟨fun z => z.elim id (fun z => absurd z.1 hq), fun z => .inl z⟩
        rw [e6] at h
        have e7 : (ns[i] == ns2[i]) = false := by simp [hq]
        rw [e7]
        wp_walk using wpAny_loadPart' hl, wpAny_loadPart' hb
        rw [e1, e2, q1', q2']
        refine wpAny_bind (wpAny_lt_int ?_)
        exact wpAny_pure h
    · have e2 : items2[((i : Nat) : Int).toNat]? = none := by simp; omega
      have e3 : ns2.drop i = [] := by rw [List.drop_eq_nil_iff]; omega
      have e4 : decide (ns.drop i < ns2.drop i) = decide (items.size < items2.size) := by
        rw [e3, decide_eq_false (List.not_lt_nil _), decide_eq_false (by omega)]
      rw [e4] at h
      rw [e1, e2]
      wp_walk using wpAny_loadPart' hl, wpAny_loadPart' hb
      exact h
theorem list_ltAt (l b : Addr) (items items2 : Array Value) (n n2 : Nat) (ns ns2 : List Int) (hi : IntsAre items.toList ns) (hi2 : IntsAre items2.toList ns2) :
    Meets (Builtin.«list.__lt__» ⟨[.ref l, .ref b], []⟩)
      (fun A R s => s.heap.get? l = some { cls := .type "list", dict := none, data := .seq items n, slots := #[] } ∧ s.heap.get? b = some { cls := .type "list", dict := none, data := .seq items2 n2, slots := #[] } ∧
        R (.ok (.ret (.bool (decide (ns < ns2))))) s) := by
  intro prog w A R s h
  obtain ⟨hp, g, d, tk, os⟩ := s; obtain ⟨hl, hb, h⟩ := h
  have f3 := AutoSeq1.sub_list_list
  wp_walk using wpAny_loadPart' hl, wpAny_loadPart' hb
  exact ⟨plainId_quiet plain_eq_loop _, codeAny_builtin entry_eq_loop (by
    rw [Around.under_plainId plain_eq_loop _]
    exact lt_loop l b items items2 n n2 ns ns2 hi hi2 _ 0 rfl (Nat.zero_le _) (Nat.zero_le _) prog w A R _ ⟨hl, hb, h⟩)⟩
theorem tuple_lt2 (l b r1 r2 : Addr) (x1 x2 : Str) (t1 t2 : Tok) (n n2 : Nat) (eb lb : Bool) :
    Meets (Builtin.«tuple.__lt__» ⟨[.ref l, .ref b], []⟩)
      (fun A R s => s.heap.get? l = some { cls := .type "tuple", dict := none, data := .seq #[.ref r1, .str x1 t1] n, slots := #[] } ∧ s.heap.get? b = some { cls := .type "tuple", dict := none, data := .seq #[.ref r2, .str x2 t2] n2, slots := #[] } ∧
        EqAt A.in1 s (.ref r1) (.ref r2) eb ∧ (eb = false → ∀ (prog : Program) (w : World) (E : Value → Shared → Prop) (Q : Value → Shared → Prop), Q (.bool lb) s → wpAny (model prog w) A.in1 (richCompare .Lt (.ref r1) (.ref r2)) Q E s) ∧ (eb = true → x1 = x2 ∧ lb = false) ∧
        R (.ok (.ret (.bool lb))) s) :=
  .of_wp fun prog w A R s h => by
    obtain ⟨hp, g, d, tk, os⟩ := s; obtain ⟨hl, hb, he, hlt, heq, h⟩ := h
    have f2 := AutoSeq1.sub_tuple_tuple
    wp_walk using wpAny_loadPart' hl, wpAny_loadPart' hb, wpAny_forIn_list _ (fun rest b s' => b.1 = none ∧ s' = ⟨hp, g, d, tk, os⟩ ∧ (rest = [(.ref r1, .ref r2), (.str x1 t1, .str x2 t2)] ∨ (eb = true ∧ (rest = [(.str x1 t1, .str x2 t2)] ∨ rest = [])))) _
    case turn =>
      rintro ⟨y, x⟩ rest b s' ⟨hb', rfl, hz⟩
      rcases hz with hz | ⟨he1, hz | hz⟩
      · injection hz with hyx hrest
        injection hyx with hy hx
        subst hy hx
        refine wpAny_bind (he prog w _ _ ?_)
        cases eb with
        | true =>
          wp_walk
          exact ⟨rfl, rfl, .inr ⟨rfl, .inl hrest⟩⟩
        | false =>
          have hlt' := hlt rfl
          show wpAny _ _ (rule "tuple.compare.by-the-first-pair-that-differs" >>= fun _ => richCompare .Lt (.ref r1) (.ref r2) >>= _) _ _ _
          refine wpAny_bind (wpAny_rule (wpAny_bind (hlt' prog w _ _ ?_)))
          wp_walk
          exact ⟨_, rfl, h⟩
      · injection hz with hyx hrest
        injection hyx with hy hx
        subst hy hx
        obtain ⟨rfl, rfl⟩ := heq he1
        refine wpAny_bind (PyProof.Rows.eqBool_str ?_)
        rw [beq_self_eq_true]
        wp_walk
        exact ⟨rfl, rfl, .inr ⟨he1, .inr hrest⟩⟩
      · cases hz
    case fin =>
      rintro ⟨b1, b2⟩ s' ⟨hb', rfl, hz⟩
      simp only at hb'
      subst hb'
      rcases hz with hz | ⟨he1, hz | hz⟩
      · cases hz
      · cases hz
      · obtain ⟨rfl, rfl⟩ := heq he1
        wp_walk
        exact ⟨_, rfl, h⟩
    case h =>
      exact ⟨rfl, rfl, .inl rfl⟩
end Cmp
end Mine
end TextRowCmp
section TextRowOps
open PySem PySem.W PyProof.Rows PySem.Calls
set_option maxRecDepth 100000
set_option maxHeartbeats 8000000
set_option linter.unusedVariables false
namespace Mine
/-! ## the ranks tell the word -/
theorem rk_inj : ∀ c ∈ SIGNS, ∀ d ∈ SIGNS, rk c = rk d → c = d := by decide +kernel
theorem map_rk_inj : ∀ (u v : List Nat), (∀ c ∈ u, c ∈ SIGNS) → (∀ c ∈ v, c ∈ SIGNS) → u.map rk = v.map rk → u = v
  | [], [], _, _, _ => rfl
  | [], _ :: _, _, _, h => by simp at h
  | _ :: _, [], _, _, h => by simp at h
  | c :: u, d :: v, hu, hv, h => by
    simp only [List.map_cons, List.cons.injEq] at h
    rw [rk_inj c (hu c (.head _)) d (hv d (.head _)) h.1, map_rk_inj u v (fun c hc => hu c (.tail _ hc)) (fun c hc => hv c (.tail _ hc)) h.2]
theorem map8_inj : ∀ (u v : List Nat), u.map (fun c : Nat => 8 * (c : Int)) = v.map (fun c : Nat => 8 * (c : Int)) → u = v
  | [], [], _ => rfl
  | [], _ :: _, h => by simp at h
  | _ :: _, [], h => by simp at h
  | c :: u, d :: v, h => by
    simp only [List.map_cons, List.cons.injEq] at h
    rw [map8_inj u v h.2, show c = d by omega]
theorem ranks_inj {u v : List Nat} (hu : IsWord u) (hv : IsWord v) (h : ranksF u = ranksF v) : u = v := by
  cases eu : isPlain u with
  | true =>
    have a2 := (dress_safe eu).2
    cases ev : isPlain v with
    | true =>
      rw [a2, (dress_safe ev).2] at h
      exact map8_inj u v h
    | false =>
      obtain ⟨c, r, rfl, hc⟩ := plain_head eu
      rw [a2, (dress_quoted ev).2, List.map_cons, List.cons.injEq] at h
      rcases hc with rfl | rfl <;> exact absurd h.1 (by decide)
  | false =>
    have a2 := (dress_quoted eu).2
    cases ev : isPlain v with
    | true =>
      obtain ⟨c, r, rfl, hc⟩ := plain_head ev
      rw [a2, (dress_safe ev).2, List.map_cons, List.cons.injEq] at h
      rcases hc with rfl | rfl <;> exact absurd h.1 (by decide)
    | false =>
      rw [a2, (dress_quoted ev).2, List.cons.injEq] at h
      exact map_rk_inj u v hu.2 hv.2 (List.append_cancel_right h.2)
/-! ## a row -/
abbrev rowTup (r : Addr) (x : List Nat) (t : Tok) : Obj := { cls := .type "tuple", data := .seq #[.ref r, .str (S x) t] }
def RowIn (tl : List (Addr × Obj)) (v : Value) (x : List Nat) : Prop :=
  ∃ a r t vs n, v = .ref a ∧ (a, rowTup r x t) ∈ tl ∧ (r, W.listOf vs.toArray n) ∈ tl ∧ IntsAre vs (ranksF x)
theorem RowIn.mono {tl tl' : List (Addr × Obj)} (hs : ∀ p ∈ tl, p ∈ tl') {v : Value} {x : List Nat} (h : RowIn tl v x) : RowIn tl' v x := by
  obtain ⟨a, r, t, vs, n, h1, h2, h3, h4⟩ := h
  exact ⟨a, r, t, vs, n, h1, hs _ h2, hs _ h3, h4⟩
theorem S_inj {a b : List Nat} (h : S a = S b) : a = b := by
  have := congrArg (fun x : Str => x.cps.toList) h
  simpa using this
theorem ints_fun : ∀ {vs : List Value} {ns ms : List Int}, IntsAre vs ns → IntsAre vs ms → ns = ms
  | _, _, _, .nil, .nil => rfl
  | _, _, _, .cons _ _ h, .cons _ _ k => by rw [ints_fun h k]
section Cmp
open PySem.SeqAt AutoSeq1 MeetsSeq MeetsSeq2 MeetsSeq3 SeqRoads2
variable {A : Around} {s : Shared} {h₀ : Heap} {L : Addr} {tl : List (Addr × Obj)}
theorem all_eq_ints {ns ms : List Int} (h : ns.length = ms.length) : ((List.range ns.length).all fun j => ns.getD j 0 == ms.getD j 0) = decide (ns = ms) := by
  by_cases e : ns = ms
  · subst e; rw [decide_eq_true rfl]; simp
  · rw [decide_eq_false e]
    rw [List.all_eq_false]
    apply Classical.byContradiction
    intro q
    apply e
    refine List.ext_getElem h fun i h1 h2 => ?_
    apply Classical.byContradiction
    intro z
    exact q ⟨i, by simpa using h1, by simpa [List.getD, h1, h2] using z⟩
theorem ranks_eqAt {r1 r2 : Addr} {vs1 vs2 : List Value} {n1 n2 : Nat} {ns ms : List Int} (N : News h₀ L s.heap tl) (h1 : (r1, W.listOf vs1.toArray n1) ∈ tl) (h2 : (r2, W.listOf vs2.toArray n2) ∈ tl) (i1 : IntsAre vs1 ns) (i2 : IntsAre vs2 ms) (hu : A.units < cLine) :
    EqAt A s (.ref r1) (.ref r2) (decide (ns = ms)) := by
  by_cases e : r1 = r2
  · subst e
    have q := (N _ h1).1.symm.trans (N _ h2).1
    have q2 : vs1 = vs2 := by
      have := congrArg Obj.data (Option.some.inj q)
      simp only [Data.seq.injEq] at this
      have q3 := congrArg Array.toList this.1
      simpa using q3
    subst q2
    rw [decide_eq_true (ints_fun i1 i2)]
    exact EqAt.same _
  · have l1 := ints_len i1
    have l2 := ints_len i2
    have I1 := PySem.IsL.isList (n := n1) (N _ h1).1
    have I2 := PySem.IsL.isList (n := n2) (N _ h2).1
    by_cases hl : ns.length = ms.length
    · rw [← all_eq_ints hl]
      refine EqAt.of_refs e ?_
      have q := RcAt.lists (A := A) (s := s) (e := fun j => ns.getD j 0 == ms.getD j 0) I1 I2 (by simp; omega) hu (fun j hj1 hj2 => by
        have b1 : j < vs1.length := by simpa using hj1
        have b2 : j < vs2.length := by simpa using hj2
        obtain ⟨t1, q1⟩ := ints_get i1 j b1 (by omega)
        obtain ⟨t2, q2⟩ := ints_get i2 j b2 (by omega)
        have e1 : vs1.toArray[j] = .int (ns.getD j 0) t1 := by rw [List.getElem_toArray, q1]; simp [List.getD, show j < ns.length by omega]
        have e2 : vs2.toArray[j] = .int (ms.getD j 0) t2 := by rw [List.getElem_toArray, q2]; simp [List.getD, show j < ms.length by omega]
        rw [e1, e2]
        exact EqAt.int_int _ _ _ _)
      rw [List.size_toArray, l1] at q
      exact q
    · rw [decide_eq_false (fun z => hl (by rw [z]))]
      refine EqAt.of_refs e (RcAt.lists_lengths I1 I2 ?_ hu)
      simp; omega
theorem row_eqAt {v1 v2 : Value} {x1 x2 : List Nat} (N : News h₀ L s.heap tl) (h1 : RowIn tl v1 x1) (h2 : RowIn tl v2 x2) (hu : A.units + 4 < cLine) : EqAt A s v1 v2 (decide (x1 = x2)) := by
  obtain ⟨a1, r1, t1, vs1, n1, rfl, m1, k1, i1⟩ := h1
  obtain ⟨a2, r2, t2, vs2, n2, rfl, m2, k2, i2⟩ := h2
  by_cases e : a1 = a2
  · subst e
    have q := (N _ m1).1.symm.trans (N _ m2).1
    have q2 := congrArg Obj.data (Option.some.inj q)
    simp only [Data.seq.injEq, and_true] at q2
    have q3 := congrArg Array.toList q2
    simp only [List.cons.injEq, Value.str.injEq, and_true] at q3
    rw [decide_eq_true (S_inj q3.2.1)]
    exact EqAt.same _
  · refine EqAt.of_refs e ?_
    have q := RcAt.tuples (A := A) (s := s) (l := a1) (b := a2) (items := #[.ref r1, .str (S x1) t1]) (items2 := #[.ref r2, .str (S x2) t2]) (e := fun j => if j = 0 then decide (ranksF x1 = ranksF x2) else decide (x1 = x2)) ⟨_, (N _ m1).1, rfl, _, rfl⟩ ⟨_, (N _ m2).1, rfl, _, rfl⟩ (by omega) (fun j hj1 hj2 => by
      match j, hj1 with
      | 0, _ => exact ranks_eqAt N k1 k2 i1 i2 (by show A.units + 1 < cLine; omega)
      | 1, _ =>
        have := EqAt.str_str (A := A.in1) (s := s) (S x1) t1 (S x2) t2
        have e2 : (S x1 == S x2) = decide (x1 = x2) := by
          by_cases z : x1 = x2
          · subst z; simp
          · rw [decide_eq_false z]
            have : ¬ S x1 = S x2 := fun w => z (S_inj w)
            simpa using this
        rw [e2] at this
        exact this)
    have e3 : ((List.range (min (#[Value.ref r1, Value.str (S x1) t1] : Array Value).size (#[Value.ref r2, Value.str (S x2) t2] : Array Value).size)).all (fun j => if j = 0 then decide (ranksF x1 = ranksF x2) else decide (x1 = x2)) && (#[Value.ref r1, Value.str (S x1) t1] : Array Value).size == (#[Value.ref r2, Value.str (S x2) t2] : Array Value).size) = decide (x1 = x2) := by
      show ((List.range 2).all (fun j => if j = 0 then decide (ranksF x1 = ranksF x2) else decide (x1 = x2)) && true) = _
      by_cases z : x1 = x2
      · subst z; simp [List.range_succ]
      · simp [List.range_succ, z]
    rw [e3] at q
    exact q
theorem row_ltAt {prog : Program} {w : World} {E : Value → Shared → Prop} {Q : Value → Shared → Prop} {v1 v2 : Value} {x1 x2 : List Nat} (N : News h₀ L s.heap tl) (h1 : RowIn tl v1 x1) (h2 : RowIn tl v2 x2) (w1 : IsWord x1) (w2 : IsWord x2) (hu : A.units + 4 < cLine)
    (h : Q (.bool (decide (ranksF x1 < ranksF x2))) s) : wpAny (model prog w) A (richCompare .Lt v1 v2) Q E s := by
  obtain ⟨a1, r1, t1, vs1, n1, rfl, m1, k1, i1⟩ := h1
  obtain ⟨a2, r2, t2, vs2, n2, rfl, m2, k2, i2⟩ := h2
  refine richCompare_meets_room (op := .Lt) ⟨_, (N _ m1).1, rfl⟩ ⟨_, (N _ m2).1, rfl⟩ PySem.F.slot_tuple_lt PySem.F.entry_tuple_lt (PySem.F.args_tuple_lt_2 _ _)
    (tuple_lt2 a1 a2 r1 r2 (S x1) (S x2) t1 t2 0 0 (decide (ranksF x1 = ranksF x2)) (decide (ranksF x1 < ranksF x2))) ⟨(N _ m1).1, (N _ m2).1, ranks_eqAt N k1 k2 i1 i2 (by show A.units + 1 < cLine; omega), ?_, ?_, (show Value.bool (decide (ranksF x1 < ranksF x2)) ≠ Value.notImplemented ∧ Q (.bool (decide (ranksF x1 < ranksF x2))) s from ⟨(fun x => nomatch x), h⟩)⟩ (by omega)
  · intro _ prog w E Q hq
    exact richCompare_meets_room (op := .Lt) ⟨_, (N _ k1).1, rfl⟩ ⟨_, (N _ k2).1, rfl⟩ PySem.F.slot_list_lt PySem.F.entry_list_lt (PySem.F.args_list_lt_2 _ _)
      (list_ltAt r1 r2 vs1.toArray vs2.toArray n1 n2 (ranksF x1) (ranksF x2) (by simpa using i1) (by simpa using i2)) ⟨(N _ k1).1, (N _ k2).1, (show Value.bool (decide (ranksF x1 < ranksF x2)) ≠ Value.notImplemented ∧ Q (.bool (decide (ranksF x1 < ranksF x2))) s from ⟨(fun x => nomatch x), hq⟩)⟩ (by show A.units + 1 < cLine; omega)
  · intro he
    have := of_decide_eq_true he
    rw [this]
    refine ⟨by rw [ranks_inj w1 w2 this], decide_eq_false (List.lt_irrefl _)⟩
end Cmp
end Mine
end TextRowOps
section TextRowMin
open PySem PySem.W PyProof.Rows PySem.Calls
set_option maxRecDepth 100000
set_option maxHeartbeats 8000000
set_option linter.unusedVariables false
namespace Mine
def RowAll (tl : List (Addr × Obj)) (vals : List Value) (xs : List (List Nat)) : Prop := vals.length = xs.length ∧ ∀ (i : Nat) (v : Value) (x : List Nat), vals[i]? = some v → xs[i]? = some x → RowIn tl v x
theorem RowAll.mono {tl tl' : List (Addr × Obj)} (hs : ∀ p ∈ tl, p ∈ tl') {vals : List Value} {xs : List (List Nat)} (h : RowAll tl vals xs) : RowAll tl' vals xs := ⟨h.1, fun i v x a b => (h.2 i v x a b).mono hs⟩
theorem RowAll.snoc {tl : List (Addr × Obj)} {vals : List Value} {xs : List (List Nat)} {v : Value} {x : List Nat} (h : RowAll tl vals xs) (hv : RowIn tl v x) : RowAll tl (vals ++ [v]) (xs ++ [x]) := by
  refine ⟨by simp [h.1], fun i u y a b => ?_⟩
  rw [List.getElem?_append] at a b
  have e := h.1
  by_cases hi : i < vals.length
  · rw [if_pos hi] at a
    rw [if_pos (by omega)] at b
    exact h.2 i u y a b
  · rw [if_neg hi] at a
    rw [if_neg (by omega)] at b
    have e1 : i - vals.length = 0 := by
      rcases Nat.eq_zero_or_pos (i - vals.length) with q | q
      · exact q
      · rw [List.getElem?_eq_none (by simp; omega)] at a; cases a
    rw [e1] at a
    rw [← e, e1] at b
    simp at a b
    subst a b
    exact hv
theorem RowAll.erase {tl : List (Addr × Obj)} {vals : List Value} {xs : List (List Nat)} (h : RowAll tl vals xs) (j : Nat) : RowAll tl (vals.eraseIdx j) (xs.eraseIdx j) := by
  refine ⟨by rw [List.length_eraseIdx, List.length_eraseIdx, h.1], fun i v x a b => ?_⟩
  rw [List.getElem?_eraseIdx] at a b
  by_cases hi : i < j
  · rw [if_pos hi] at a b
    exact h.2 i v x a b
  · rw [if_neg hi] at a b
    exact h.2 (i + 1) v x a b
section Min
variable {prog : Program} {w : World} {A : Around} {E : Value → Shared → Prop} {s : Shared} {h₀ : Heap} {L rw I S : Addr} {m : Str → Option Value} {tl : List (Addr × Obj)} {vals : List Value} {xs : List (List Nat)} {n : Nat} {R : Result → Shared → Prop} {Q : Value → Shared → Prop}
/-- the ranks at a place -/
def kAt (xs : List (List Nat)) (i : Nat) : List Int := ranksF (xs.getD i [])
theorem kAt_trans {xs : List (List Nat)} {a b c : Nat} (h1 : ¬ kAt xs a < kAt xs b) (h2 : kAt xs c < kAt xs b) : ¬ kAt xs a < kAt xs c := by
  intro h3
  exact h1 (List.lt_trans h3 h2)
theorem min_loop (hh : A.handled = none) (F : Fr h₀ L s.heap m) (N : News h₀ L s.heap ((rw, W.listOf vals.toArray n) :: tl)) (hRA : RowAll tl vals xs) (hw : ∀ x ∈ xs, IsWord x) (hle : xs.length ≤ 100) (hu : A.units + 10 < cLine) (hI : s.heap.objs.size ≤ I) (hS : s.heap.objs.size ≤ S) (hSI : S ≠ I)
    (hR : ∀ (i : Nat) (v : Value) h' tk', vals[i]? = some v → (∀ j, j < vals.length → ¬ kAt xs j < kAt xs i) → (∀ j, j < i → kAt xs i < kAt xs j) → (∀ b o, s.heap.get? b = some o → h'.get? b = some o) → R (.ok (.ret v)) { s with heap := h', toks := tk' }) :
    ∀ (r j i : Nat) (h : Heap) (tk : Nat) (vb : Value) (c : Nat), vals.length - (j + 1) = r → j + 1 ≤ vals.length → (∀ b o, s.heap.get? b = some o → h.get? b = some o) → h.IsListIter I rw (j + 1) → h.get? S = some (W.listOf #[vb, vb] c) → vals[i]? = some vb → i ≤ j → (∀ j', j' ≤ j → ¬ kAt xs j' < kAt xs i) → (∀ j', j' < i → kAt xs i < kAt xs j') →
      codeAny (model prog w) A (.builtin "min.loop" ⟨[.ref I, .none, .ref S], []⟩) R { s with heap := h, toks := tk } := by
  have hname : (toString "min" ++ toString ".loop" : String) = "min.loop" := by decide
  have hrw : rw ≠ I := fun e => by have := Heap.lt_size (N _ (.head _)).1; rw [e] at this; exact absurd (Nat.lt_of_lt_of_le this hI) (Nat.lt_irrefl _)
  have W := Walks.list (prog := prog) (w := w) (A := A.in1) hh I rw hrw vals.toArray
  have hsz : vals.toArray.size = vals.length := List.size_toArray ..
  have hlow : ∀ b o, s.heap.get? b = some o → b ≠ I ∧ b ≠ S := fun b o e => by
    have := Heap.lt_size e
    exact ⟨Nat.ne_of_lt (Nat.lt_of_lt_of_le this hI), Nat.ne_of_lt (Nat.lt_of_lt_of_le this hS)⟩
  have hIL : ∀ h : Heap, (∀ b o, s.heap.get? b = some o → h.get? b = some o) → h.IsList rw vals.toArray := fun h k => PySem.IsL.isList (n := n) (k _ _ (N _ (.head _)).1)
  intro r
  induction r with
  | zero =>
    intro j i h tk vb c hr hj hk hit hgS hvb hij hb1 hb2
    have hin : j + 1 = vals.length := by omega
    refine codeAny_builtin PySem.F.entry_min_loop ?_
    rw [Around.under_plainId PySem.F.plain_min_loop _]
    show wpAny _ A.in1 (seqItems? (.ref S) >>= _) _ _ _
    refine wpAny_bind (wpAny_seqItems hgS rfl ?_)
    show wpAny _ A.in1 (tryCatch (pyNext (.ref I)) _ >>= _) _ _ _
    refine wpAny_bind (wpAny_tryCatch (W.done _ _ _ ⟨by rw [hsz, ← hin]; exact hit, hIL h hk⟩ fun h' tk' hk' => ?_))
    have hgS' := hk' S _ (by simpa using hSI) hgS
    show wpAny _ A.in1 (updateSeq S (fun _ => #[]) >>= _) _ _ _
    refine wpAny_bind ?_
    refine wpAny_updateSeq hgS' rfl (wpAny_bind (wpAny_letGo (wpAny_pure ?_)))
    refine hR i vb _ _ hvb (fun j' hj' => hb1 j' (by omega)) hb2 fun b o e => ?_
    have q := hlow b o e
    exact (Heap.get?_update_other _ _ (Ne.symm q.2)).trans (hk' b o (by simpa using q.1) (hk b o e))
  | succ r ih =>
    intro j i h tk vb c hr hj hk hit hgS hvb hij hb1 hb2
    have hlt : j + 1 < vals.length := by omega
    refine codeAny_builtin PySem.F.entry_min_loop ?_
    rw [Around.under_plainId PySem.F.plain_min_loop _]
    show wpAny _ A.in1 (seqItems? (.ref S) >>= _) _ _ _
    refine wpAny_bind (wpAny_seqItems hgS rfl ?_)
    show wpAny _ A.in1 (tryCatch (pyNext (.ref I)) _ >>= _) _ _ _
    refine wpAny_bind (wpAny_tryCatch (W.item (j + 1) _ _ _ (by rw [hsz]; exact hlt) ⟨hit, hIL h hk⟩ fun v h' tk' hP hst' hk' => ?_))
    have hv : vals[j + 1]? = some v := by simpa using hP
    have hgS' := hk' S _ (by simpa using hSI) hgS
    have hkk : ∀ b o, s.heap.get? b = some o → h'.get? b = some o := fun b o e => hk' b o (by simpa using (hlow b o e).1) (hk b o e)
    have N' : News h₀ L h' tl := fun p hp => ⟨hkk _ _ (N p (.tail _ hp)).1, (N p (.tail _ hp)).2⟩
    have lj : j + 1 < xs.length := by rw [← hRA.1]; exact hlt
    have li : i < xs.length := by rw [← hRA.1]; omega
    have gj : xs[j + 1]? = some (xs.getD (j + 1) []) := by simp [List.getD, lj]
    have gi : xs[i]? = some (xs.getD i []) := by simp [List.getD, li]
    have wj : IsWord (xs.getD (j + 1) []) := hw _ (by have := List.mem_of_getElem? gj; exact this)
    have wi : IsWord (xs.getD i []) := hw _ (by have := List.mem_of_getElem? gi; exact this)
    show wpAny _ A.in1 (tryCatch (holding [v, v] (richCompare .Lt v vb >>= _)) _ >>= _) _ _ _
    refine wpAny_bind (wpAny_tryCatch (wpAny_holding (wpAny_bind (row_ltAt (s := { s with heap := h', toks := tk' }) N' (hRA.2 _ _ _ hv gj) (hRA.2 _ _ _ hvb gi) wj wi (by show A.units + 1 + 4 < cLine; omega) ?_))))
    refine wpAny_bind (wpAny_holding (wpAny_truthy_bool ?_))
    refine wpAny_bind (wpAny_letGo (wpAny_pure ?_))
    by_cases hb : kAt xs (j + 1) < kAt xs i
    · rw [decide_eq_true (show ranksF (xs.getD (j + 1) []) < ranksF (xs.getD i []) from hb)]
      simp only [if_true]
      refine wpAny_bind ?_
      refine wpAny_updateSeq hgS' rfl (wpAny_bind (wpAny_letGo ?_))
      rw [hname]
      refine wpAny_pure ⟨plainId_quiet PySem.F.plain_min_loop _, ih (j + 1) (j + 1) _ _ v _ (by omega) hlt (fun b o e => ?_) ?_ (PySem.IsL.update hgS' fun _ => #[v, v]) hv (Nat.le_refl _) ?_ ?_⟩
      · exact (Heap.get?_update_other _ _ (Ne.symm (hlow b o e).2)).trans (hkk b o e)
      · obtain ⟨oI, hoI, q1, q2⟩ := hst'.1
        exact ⟨oI, (Heap.get?_update_other _ _ hSI).trans hoI, q1, q2⟩
      · intro j' hj'
        rcases Nat.eq_or_lt_of_le hj' with rfl | hj'
        · exact List.lt_irrefl _
        · exact kAt_trans (hb1 j' (by omega)) hb
      · intro j' hj'
        apply Classical.byContradiction
        intro z
        have q := hb1 j' (by omega)
        exact q (List.lt_of_le_of_lt (List.not_lt.mp z) hb)
    · rw [decide_eq_false (show ¬ ranksF (xs.getD (j + 1) []) < ranksF (xs.getD i []) from hb)]
      simp only [Bool.false_eq_true, if_false]
      refine wpAny_bind (wpAny_letGo ?_)
      rw [hname]
      refine wpAny_pure ⟨plainId_quiet PySem.F.plain_min_loop _, ih (j + 1) i _ _ vb c (by omega) hlt hkk hst'.1 hgS' hvb (by omega) ?_ hb2⟩
      intro j' hj'
      rcases Nat.eq_or_lt_of_le hj' with rfl | hj'
      · exact hb
      · exact hb1 j' (by omega)
theorem min_row (hh : A.handled = none) (F : Fr h₀ L s.heap m) (N : News h₀ L s.heap ((rw, W.listOf vals.toArray n) :: tl)) (hRA : RowAll tl vals xs) (hw : ∀ x ∈ xs, IsWord x) (hne : 0 < vals.length) (hle : xs.length ≤ 100) (hu : A.units + 10 < cLine)
    (hQ : ∀ (i : Nat) (v : Value) h' tk', vals[i]? = some v → (∀ j, j < vals.length → ¬ kAt xs j < kAt xs i) → (∀ j, j < i → kAt xs i < kAt xs j) → Fr h₀ L h' m → News h₀ L h' ((rw, W.listOf vals.toArray n) :: tl) → Q v { s with heap := h', toks := tk' }) :
    wpAny (model prog w) A (call (.builtin "min") [.ref rw]) Q E s := by
  have hname : (toString "min" ++ toString ".loop" : String) = "min.loop" := by decide
  have hIL := PySem.IsL.isList (n := n) (N _ (.head _)).1
  refine call_function_tree PySem.F.kind_min PySem.F.plain_min PySem.F.entry_min (PySem.F.args_min1 _) ?_
  show wpAny _ A.in1 (Builtin.Builtins.bindParams "min" ["key", "default"] 0 ⟨[], []⟩ >>= _) _ _ s
  refine wpAny_bind (wpAny_of_eq (show Builtin.Builtins.bindParams "min" ["key", "default"] 0 ⟨[], []⟩ = pure [none, none] from rfl) ?_)
  refine wpAny_bind (wpAny_pure ?_)
  refine wpAny_bind (wpAny_pyIter_list hIL ?_)
  refine wpAny_bind (wpAny_newObj_type ?_)
  rw [hname]
  have hrw : rw ≠ s.heap.objs.size := Nat.ne_of_lt (Heap.lt_size (N _ (.head _)).1)
  have WW := Walks.list (prog := prog) (w := w) (A := A.in1) hh s.heap.objs.size rw hrw vals.toArray
  have hsz : vals.toArray.size = vals.length := List.size_toArray ..
  have hSz : (s.heap.push { cls := .type "list_iterator", data := .fields #[.ref rw, .int 0 0] }).objs.size = s.heap.objs.size + 1 := Heap.size_push ..
  have up : ∀ b o, s.heap.get? b = some o → ((s.heap.push { cls := .type "list_iterator", data := .fields #[.ref rw, .int 0 0] }).push (W.listOf #[] 0)).get? b = some o := fun b o e => Heap.get?_push_of_some _ (Heap.get?_push_of_some _ e)
  have gI : ((s.heap.push { cls := .type "list_iterator", data := .fields #[.ref rw, .int 0 0] }).push (W.listOf #[] 0)).get? s.heap.objs.size = some { cls := .type "list_iterator", data := .fields #[.ref rw, .int 0 0] } := Heap.get?_push_of_some _ (Heap.get?_push_size _ rfl)
  have gS : ((s.heap.push { cls := .type "list_iterator", data := .fields #[.ref rw, .int 0 0] }).push (W.listOf #[] 0)).get? (s.heap.objs.size + 1) = some (W.listOf #[] 0) := by rw [← hSz]; exact Heap.get?_push_size _ rfl
  have hSI : s.heap.objs.size + 1 ≠ s.heap.objs.size := by omega
  rw [hSz]
  refine wpAny_pure ⟨plainId_quiet PySem.F.plain_min_loop _, ?_⟩
  refine codeAny_builtin PySem.F.entry_min_loop ?_
  rw [Around.under_plainId PySem.F.plain_min_loop _]
  show wpAny _ A.in1 (seqItems? (.ref _) >>= _) _ _ _
  refine wpAny_bind (wpAny_seqItems gS rfl ?_)
  show wpAny _ A.in1 (tryCatch (pyNext (.ref s.heap.objs.size)) _ >>= _) _ _ _
  refine wpAny_bind (wpAny_tryCatch (WW.item 0 _ _ _ (by rw [hsz]; exact hne) ⟨⟨_, gI, rfl, rfl⟩, PySem.IsL.isList (n := n) (up _ _ (N _ (.head _)).1)⟩ fun v h' tk' hP hst' hk' => ?_))
  have hv : vals[0]? = some v := by simpa using hP
  have gS' := hk' _ _ (by simpa using hSI) gS
  have hkk : ∀ b o, s.heap.get? b = some o → h'.get? b = some o := fun b o e => hk' b o (by simpa using Nat.ne_of_lt (Heap.lt_size e)) (up b o e)
  show wpAny _ A.in1 (updateSeq (s.heap.objs.size + 1) (fun _ => #[v, v]) >>= _) _ _ _
  refine wpAny_bind ?_
  refine wpAny_updateSeq gS' rfl ?_
  rw [hname]
  refine wpAny_pure ⟨plainId_quiet PySem.F.plain_min_loop _, min_loop hh F N hRA hw hle hu (Nat.le_refl _) (Nat.le_succ _) hSI ?_ _ 0 0 _ _ v _ rfl hne (fun b o e => ?_) ?_ (PySem.IsL.update gS' fun _ => #[v, v]) hv (Nat.le_refl _) ?_ ?_⟩
  · intro i v' h2 tk2 hv' q1 q2 hk2
    exact hQ i v' h2 tk2 hv' q1 q2 (F.keeps hk2) fun p hp => ⟨hk2 _ _ (N p hp).1, (N p hp).2⟩
  · have : b ≠ s.heap.objs.size + 1 := Nat.ne_of_lt (Nat.lt_succ_of_lt (Heap.lt_size e))
    exact (Heap.get?_update_other _ _ (Ne.symm this)).trans (hkk b o e)
  · obtain ⟨oI, hoI, q1, q2⟩ := hst'.1
    exact ⟨oI, (Heap.get?_update_other _ _ hSI).trans hoI, q1, q2⟩
  · intro j' hj'
    have : j' = 0 := by omega
    subst this
    exact List.lt_irrefl _
  · intro j' hj'; exact absurd hj' (Nat.not_lt_zero _)
open PySem.SeqAt AutoSeq1 MeetsSeq MeetsSeq2 MeetsSeq3 in
theorem remove_loopAt (l : Addr) (items : Array Value) (n : Nat) (x : Value) (e : Nat → Bool) (j : Nat) (hj : j < items.size) (hit : e j = true) (hno : ∀ m, m < j → e m = false) (hs1 : items.size ≤ sizeLine) (k : Nat) :
    ∀ i : Nat, j - i = k → i ≤ j → Meets (Builtin.«list.remove.loop» ⟨[.ref l, x, rawInt i], []⟩)
      (fun A R s => s.heap.get? l = some { cls := .type "list", dict := none, data := .seq items n, slots := #[] } ∧ (∀ m (hm : m < items.size), EqAt A.in1 s items[m] x (e m)) ∧ R (.ok (.ret .none)) { s with heap := s.heap.update l (Obj.mapSeq fun xs => xs.eraseIdxIfInBounds j) }) := by
  induction k with
  | zero =>
    intro i hk hij prog w A R s h
    obtain ⟨hp, g, d, tk, os⟩ := s; obtain ⟨hl, he, h⟩ := h
    have hi : i = j := by omega
    subst hi
    wp_walk using wpAny_loadPart' hl
    have hi : items[((i : Nat) : Int).toNat]? = some items[i] := by simp [hj]
    rw [hi]
    refine wpAny_bind (he i hj prog w _ _ ?_)
    rw [hit]
    have hz' : (items.eraseIdxIfInBounds i).size ≤ sizeLine + 1 := Nat.le_trans (size_erased items _) (Nat.le_succ_of_le hs1)
    wp_walk using (wpAny_updateSeq hl rfl (hz := hs1) (_hz' := hz')), wpAny_loadPart' hl
    simpa using h
  | succ k ih =>
    intro i hk hij prog w A R s h
    obtain ⟨hp, g, d, tk, os⟩ := s; obtain ⟨hl, he, h⟩ := h
    have hlt : i < items.size := by omega
    wp_walk using wpAny_loadPart' hl
    have hi : items[((i : Nat) : Int).toNat]? = some items[i] := by simp [hlt]
    have hc : ((i : Int) + 1) = ((i + 1 : Nat) : Int) := by push_cast; rfl
    rw [hi]
    refine wpAny_bind (he i hlt prog w _ _ ?_)
    rw [hno i (by omega)]
    wp_walk
    rw [hc]
    exact ⟨plainId_quiet plain_remove_loop _, codeAny_builtin entry_remove_loop (by
      rw [Around.under_plainId plain_remove_loop _]
      exact ih (i + 1) (by omega) (by omega) prog w A R _ ⟨hl, he, h⟩)⟩
open PySem.SeqAt AutoSeq1 MeetsSeq MeetsSeq2 MeetsSeq3 in
theorem list_removeAt (l : Addr) (items : Array Value) (n : Nat) (x : Value) (e : Nat → Bool) (j : Nat) (hj : j < items.size) (hit : e j = true) (hno : ∀ m, m < j → e m = false) (hs1 : items.size ≤ sizeLine) :
    Meets (Builtin.«list.remove» ⟨[.ref l, x], []⟩)
      (fun A R s => s.heap.get? l = some { cls := .type "list", dict := none, data := .seq items n, slots := #[] } ∧ (∀ m (hm : m < items.size), EqAt A.in1 s items[m] x (e m)) ∧ R (.ok (.ret .none)) { s with heap := s.heap.update l (Obj.mapSeq fun xs => xs.eraseIdxIfInBounds j) }) := by
  intro prog w A R s h
  obtain ⟨hp, g, d, tk, os⟩ := s; obtain ⟨hl, he, h⟩ := h
  wp_walk using wpAny_loadPart' hl
  exact ⟨plainId_quiet plain_remove_loop _, codeAny_builtin entry_remove_loop (by
    rw [Around.under_plainId plain_remove_loop _]
    exact remove_loopAt l items n x e j hj hit hno hs1 _ 0 rfl (Nat.zero_le _) prog w A R _ ⟨hl, he, h⟩)⟩
theorem remove_row {j : Nat} {v : Value} (F : Fr h₀ L s.heap m) (N : News h₀ L s.heap ((rw, W.listOf vals.toArray n) :: tl)) (off : ∀ p ∈ tl, p.1 ≠ rw) (hRA : RowAll tl vals xs) (hle : xs.length ≤ 100) (hu : A.units + 10 < cLine) (hv : vals[j]? = some v) (hno : ∀ i, i < j → xs.getD i [] ≠ xs.getD j [])
    (hQ : ∀ h' n', Fr h₀ L h' m → News h₀ L h' ((rw, W.listOf (vals.eraseIdx j).toArray n') :: tl) → Q .none { s with heap := h' }) :
    wpAny (model prog w) A (call (.builtin "list.remove") [.ref rw, v]) Q E s := by
  have z := N _ (.head _)
  have hlen := hRA.1
  have hj : j < vals.length := by
    rcases Nat.lt_or_ge j vals.length with q | q
    · exact q
    · rw [List.getElem?_eq_none q] at hv; cases hv
  have hjx : xs[j]? = some (xs.getD j []) := by simp [List.getD, show j < xs.length by omega]
  have NT : News h₀ L s.heap tl := fun p hp => N p (.tail _ hp)
  refine call_meets PySem.F.slot_list_remove ⟨_, z.1, rfl⟩ PySem.F.entry_list_remove (PySem.F.args_list_remove_2 _ _)
    (list_removeAt rw vals.toArray n v (fun i => decide (xs.getD i [] = xs.getD j [])) j (by simpa using hj) (by simp) (fun i hi => decide_eq_false (hno i hi)) (by simp [sizeLine]; omega))
    ⟨z.1, fun i hi => ?_, hQ _ _ (F.change (Heap.SameBut.update ..) z.2.1 z.2.2) (ki_turn (pre := []) _ N (fun _ hp => nomatch hp) off ?_ rfl)⟩
  · have hi' : i < vals.length := by simpa using hi
    have hix : xs[i]? = some (xs.getD i []) := by simp [List.getD, show i < xs.length by omega]
    have hiv : vals[i]? = some vals.toArray[i] := by simp [hi']
    exact row_eqAt NT (hRA.2 _ _ _ hiv hix) (hRA.2 _ _ _ hv hjx) (by show A.units + 1 + 4 < cLine; omega)
  · apply Array.toList_inj.mp
    simp [Array.toList_eraseIdxIfInBounds]
end Min
end Mine
end TextRowMin
section TextPureL
open PySem PySem.W PyProof.Rows PySem.Calls
set_option linter.unusedVariables false
namespace Mine
/-! ## the turn, as a plain matter -/
theorem erase_perm : ∀ (l : List (List Nat)) (j : Nat) (y : List Nat), l[j]? = some y → l.Perm (y :: l.eraseIdx j)
  | [], j, y, h => by simp at h
  | a :: l, 0, y, h => by
    simp at h
    subst h
    exact List.Perm.refl _
  | a :: l, j + 1, y, h => by
    have ih := erase_perm l j y (by simpa using h)
    exact (List.Perm.cons a ih).trans (List.Perm.swap ..)
/-- the heap stands for the row -/
structure HInv (ps : List (List Nat × Tok)) (xs : List (List Nat)) : Prop where
  wd : ∀ x ∈ xs, IsWord x
  hp : HPs ps
  pm : (ps.map (·.1)).Perm (xs.map dressF)
theorem HInv.len {ps : List (List Nat × Tok)} {xs : List (List Nat)} (h : HInv ps xs) : ps.length = xs.length := by simpa using h.pm.length_eq
theorem kAt_get {xs : List (List Nat)} {i : Nat} {y : List Nat} (h : xs[i]? = some y) : kAt xs i = ranksF y := by
  unfold kAt
  rw [List.getD_eq_getElem?_getD, h]; rfl
theorem min_words {xs : List (List Nat)} {j : Nat} {y : List Nat} (hy : xs[j]? = some y) (hm : ∀ i, i < xs.length → ¬ kAt xs i < kAt xs j) : ∀ u ∈ xs, ¬ ranksF u < ranksF y := by
  intro u hu
  obtain ⟨i, hi, rfl⟩ := List.mem_iff_getElem.mp hu
  have := hm i hi
  rw [kAt_get hy, kAt_get (List.getElem?_eq_getElem hi)] at this
  exact this
/-- what is told is the dress of the first -/
theorem told_is {xs : List (List Nat)} {d : List Nat} (hw : ∀ x ∈ xs, IsWord x) (hd : d ∈ xs.map dressF) (hmin : ∀ e ∈ xs.map dressF, ¬ e < d) : ∀ (j : Nat) (y : List Nat), xs[j]? = some y → (∀ i, i < xs.length → ¬ kAt xs i < kAt xs j) → d = dressF y :=
  fun j y hy hm => dress_min hw (List.mem_of_getElem? hy) (min_words hy hm) hd hmin
theorem top_in {ps : List (List Nat × Tok)} {xs : List (List Nat)} (h : HInv ps xs) (h0 : 0 < ps.length) : ps[0].1 ∈ xs.map dressF := h.pm.mem_iff.mp (List.mem_map.mpr ⟨ps[0], List.getElem_mem h0, rfl⟩)
theorem top_min {ps : List (List Nat × Tok)} {xs : List (List Nat)} (h : HInv ps xs) (h0 : 0 < ps.length) : ∀ e ∈ xs.map dressF, ¬ e < ps[0].1 := by
  intro e he
  obtain ⟨q, hq, rfl⟩ := List.mem_map.mp (h.pm.mem_iff.mpr he)
  exact min_law h0 h.hp q hq
theorem push_inv {ps : List (List Nat × Tok)} {xs : List (List Nat)} {x : List Nat} {t : Tok} (h : HInv ps xs) (hx : IsWord x) : HInv (pushF ps (dressF x, t)) (xs ++ [x]) := by
  obtain ⟨h1, h2⟩ := push_law (dressF x, t) h.hp
  refine ⟨fun u hu => ?_, h1, ?_⟩
  · rcases List.mem_append.mp hu with hu | hu
    · exact h.wd u hu
    · rw [List.mem_singleton.mp hu]; exact hx
  · refine (h2.map _).trans ?_
    rw [List.map_cons, List.map_append]
    exact (List.Perm.cons _ h.pm).trans (List.perm_append_singleton (dressF x) (xs.map dressF)).symm
theorem pop_inv {ps : List (List Nat × Tok)} {xs : List (List Nat)} {j : Nat} {y : List Nat} (h : HInv ps xs) (h0 : 0 < ps.length) (hy : xs[j]? = some y) (hd : ps[0].1 = dressF y) : HInv (popF ps) (xs.eraseIdx j) := by
  obtain ⟨h1, h2⟩ := pop_law h0 h.hp
  refine ⟨fun u hu => h.wd u (List.mem_of_mem_eraseIdx hu), h1, ?_⟩
  have q1 := (h2.map (fun q : List Nat × Tok => q.1)).trans h.pm
  have q2 := q1.trans ((erase_perm xs j y hy).map dressF)
  rw [List.map_cons, List.map_cons, hd] at q2
  exact q2.cons_inv
theorem repl_inv {ps : List (List Nat × Tok)} {xs : List (List Nat)} {j : Nat} {x y : List Nat} {t : Tok} (h : HInv ps xs) (hx : IsWord x) (h0 : 0 < ps.length) (hy : xs[j]? = some y) (hd : ps[0].1 = dressF y) : HInv (replF ps (dressF x, t)) (xs.eraseIdx j ++ [x]) := by
  obtain ⟨h1, h2⟩ := repl_law (dressF x, t) h0 h.hp
  refine ⟨fun u hu => ?_, h1, ?_⟩
  · rcases List.mem_append.mp hu with hu | hu
    · exact h.wd u (List.mem_of_mem_eraseIdx hu)
    · rw [List.mem_singleton.mp hu]; exact hx
  · have q1 := h2.map (fun q : List Nat × Tok => q.1)
    rw [List.map_cons, List.map_cons, hd] at q1
    have q2 := q1.trans (List.Perm.cons (dressF x) (h.pm.trans ((erase_perm xs j y hy).map dressF)))
    rw [List.map_cons] at q2
    have q3 := (q2.trans (List.Perm.swap ..)).cons_inv
    refine q3.trans ?_
    rw [List.map_append]
    exact (List.perm_append_singleton (dressF x) ((xs.eraseIdx j).map dressF)).symm
section PP
variable {ps : List (List Nat × Tok)} {xs : List (List Nat)} {x : List Nat} {t : Tok}
theorem pp_words (h : HInv ps xs) (hx : IsWord x) : ∀ u ∈ xs ++ [x], IsWord u := fun u hu => by
  rcases List.mem_append.mp hu with hu | hu
  · exact h.wd u hu
  · rw [List.mem_singleton.mp hu]; exact hx
theorem ppA_in (h : HInv ps xs) (h0 : 0 < ps.length) : ps[0].1 ∈ (xs ++ [x]).map dressF := by
  rw [List.map_append]; exact List.mem_append_left _ (top_in h h0)
theorem ppA_min (h : HInv ps xs) (h0 : 0 < ps.length) (hl : hlt ps[0] (dressF x, t) = true) : ∀ e ∈ (xs ++ [x]).map dressF, ¬ e < ps[0].1 := by
  intro e he
  rw [List.map_append] at he
  rcases List.mem_append.mp he with he | he
  · exact top_min h h0 e he
  · rw [List.map_cons, List.map_nil] at he
    rw [List.mem_singleton.mp he]
    exact List.lt_asymm (of_decide_eq_true hl)
theorem ppA_inv {j : Nat} {y : List Nat} (h : HInv ps xs) (hx : IsWord x) (h0 : 0 < ps.length) (hy : (xs ++ [x])[j]? = some y) (hd : ps[0].1 = dressF y) : HInv (replF ps (dressF x, t)) ((xs ++ [x]).eraseIdx j) := by
  obtain ⟨h1, h2⟩ := repl_law (dressF x, t) h0 h.hp
  refine ⟨fun u hu => pp_words h hx u (List.mem_of_mem_eraseIdx hu), h1, ?_⟩
  have q1 := h2.map (fun q : List Nat × Tok => q.1)
  rw [List.map_cons, List.map_cons, hd] at q1
  have q2 := q1.trans (List.Perm.cons (dressF x) h.pm)
  have q3 : (dressF x :: xs.map dressF).Perm ((xs ++ [x]).map dressF) := by
    rw [List.map_append]; exact (List.perm_append_singleton (dressF x) (xs.map dressF)).symm
  have q4 := (q2.trans q3).trans ((erase_perm _ j y hy).map dressF)
  rw [List.map_cons] at q4
  exact q4.cons_inv
theorem ppB_in : dressF x ∈ (xs ++ [x]).map dressF := by simp
theorem ppB_min (h : HInv ps xs) (hl : ∀ (hne : 0 < ps.length), hlt ps[0] (dressF x, t) = false) : ∀ e ∈ (xs ++ [x]).map dressF, ¬ e < dressF x := by
  intro e he
  rw [List.map_append] at he
  rcases List.mem_append.mp he with he | he
  · have h0 : 0 < ps.length := by
      obtain ⟨q, hq, _⟩ := List.mem_map.mp (h.pm.mem_iff.mpr he)
      exact List.length_pos_of_mem hq
    have a := top_min h h0 e he
    have b : ¬ ps[0].1 < dressF x := of_decide_eq_false (hl h0)
    exact List.not_lt.mpr (List.le_trans (List.not_lt.mp b) (List.not_lt.mp a))
  · rw [List.map_cons, List.map_nil] at he
    rw [List.mem_singleton.mp he]
    exact List.lt_irrefl _
theorem ppB_inv {j : Nat} {y : List Nat} (h : HInv ps xs) (hx : IsWord x) (hy : (xs ++ [x])[j]? = some y) (hd : dressF x = dressF y) : HInv ps ((xs ++ [x]).eraseIdx j) := by
  refine ⟨fun u hu => pp_words h hx u (List.mem_of_mem_eraseIdx hu), h.hp, ?_⟩
  have q3 : (dressF x :: xs.map dressF).Perm ((xs ++ [x]).map dressF) := by
    rw [List.map_append]; exact (List.perm_append_singleton (dressF x) (xs.map dressF)).symm
  have q4 := q3.trans ((erase_perm _ j y hy).map dressF)
  rw [List.map_cons, hd] at q4
  exact h.pm.trans q4.cons_inv
end PP
end Mine
end TextPureL
section TextDeq
open PySem PySem.W PyProof.Rows PySem.Calls
set_option maxRecDepth 100000
set_option maxHeartbeats 8000000
namespace Mine
/-! ## deque() and its truth -/
abbrev dqObj : Obj := { cls := .type "collections.deque", data := .fields #[.none, rawInt 0] }
theorem dq_mro : mroOf (.type "collections.deque") = pure [.type "collections.deque", .type "object"] := by rw [mroOf_type]; kernel_rfl
theorem dq_lookup_new : typeLookup (.type "collections.deque") "__new__" = pure (some (.builtin "collections.deque.__new__")) := by rw [typeLookup_type, builtinLookup_eq_fast]; kernel_rfl
theorem dq_slot_init : Slot "collections.deque" "__init__" "collections.deque.__init__" := .of (owner := "collections.deque") (n := "__init__") (by rw [typeLookup_type, builtinLookup_eq_fast]; kernel_rfl) (by decide +kernel) (by decide +kernel) (by decide +kernel)
  (by first | exact .inl (by decide +kernel) | exact .inr (by decide +kernel)) (by rw [isSubtype_type]; kernel_rfl)
theorem dq_slot_len : Slot "collections.deque" "__len__" "collections.deque.__len__" := .of (owner := "collections.deque") (n := "__len__") (by rw [typeLookup_type, builtinLookup_eq_fast]; kernel_rfl) (by decide +kernel) (by decide +kernel) (by decide +kernel)
  (by first | exact .inl (by decide +kernel) | exact .inr (by decide +kernel)) (by rw [isSubtype_type]; kernel_rfl)
theorem dq_called : TypeCalled "collections.deque" "collections.deque.__new__" "collections.deque.__init__" :=
  ⟨by decide +kernel, by decide +kernel, ⟨_, _, dq_mro⟩, madeBy_type dq_mro dq_lookup_new (by decide +kernel), by decide +kernel, by rw [isSubtype_type]; kernel_rfl, dq_slot_init⟩
theorem dq_typeCall : checkTypeCall "collections.deque" ⟨[], []⟩ = pure () := by kernel_rfl
theorem dq_newCall : checkBuiltinCall "collections.deque.__new__" ⟨[.type "collections.deque"], []⟩ = pure () := by kernel_rfl
theorem dq_entry_new : entryFor table "collections.deque.__new__" = some Builtin.«collections.deque.__new__» := entryFor_of_tree (by kernel_rfl)
theorem dq_entry_init : entryFor table "collections.deque.__init__" = some Builtin.«collections.deque.__init__» := entryFor_of_tree (by kernel_rfl)
theorem dq_entry_len : entryFor table "collections.deque.__len__" = some Builtin.«collections.deque.__len__» := entryFor_of_tree (by kernel_rfl)
theorem dq_plain_new : plainId "collections.deque.__new__" = true := by decide +kernel
theorem dq_initArgs (o : Value) : argsOk "collections.deque.__init__" ⟨[o], []⟩ := by unfold argsOk; kernel_rfl
theorem dq_lenArgs (o : Value) : argsOk "collections.deque.__len__" ⟨[o], []⟩ := by unfold argsOk; kernel_rfl
theorem dq_noBool : typeLookup (.type "collections.deque") "__bool__" = pure none := by rw [typeLookup_type, builtinLookup_eq_fast]; kernel_rfl
theorem dq_sub : isSubtype (.type "collections.deque") (.type "collections.deque") = pure true := by rw [isSubtype_type]; kernel_rfl
section
variable {prog : Program} {w : World} {A : Around} {E : Value → Shared → Prop} {s : Shared}
theorem dq_new {Q₁ : Value → Shared → Prop} (h : Q₁ (.ref s.heap.objs.size) { s with heap := s.heap.push dqObj }) :
    codeAny (model prog w) A (.call (.builtin "collections.deque.__new__") ⟨[.type "collections.deque"], []⟩) (wants Q₁ E) s := by
  refine codeAny_of_tree ?_
  show wpAny _ A.in1 (do checkBuiltinCall "collections.deque.__new__" ⟨[.type "collections.deque"], []⟩; again (.builtin "collections.deque.__new__" ⟨[.type "collections.deque"], []⟩)) _ _ s
  refine wpAny_bind (wpAny_of_eq dq_newCall (wpAny_pure ⟨plainId_quiet dq_plain_new _, codeAny_builtin dq_entry_new ?_⟩))
  rw [Around.under_plainId dq_plain_new _]
  have hsub := dq_sub
  obtain ⟨hp, g, d, tk, os⟩ := s
  unfold Builtin.«collections.deque.__new__» Builtin.Deque.newArgs Builtin.Deque.new Builtin.Deque.ty
  wp_walk
  exact h
theorem dq_make {h₀ : Heap} {L : Addr} {m : Str → Option Value} {news : List (Addr × Obj)} {Q : Value → Shared → Prop} (F : Fr h₀ L s.heap m) (N : News h₀ L s.heap news)
    (h : ∀ D h', Fr h₀ L h' m → News h₀ L h' ((D, dqObj) :: news) → (∀ p ∈ news, p.1 < D) → Q (.ref D) { s with heap := h' }) :
    wpAny (model prog w) A (call (.type "collections.deque") []) Q E s := by
  refine callType_codes (Q₁ := fun obj s₁ => obj = .ref s.heap.objs.size ∧ s₁ = { s with heap := s.heap.push dqObj }) dq_called dq_typeCall dq_entry_init (dq_new ⟨rfl, rfl⟩) fun obj s₁ h₁ => ?_
  obtain ⟨rfl, rfl⟩ := h₁
  have hN := N.push F dqObj rfl
  have hso := (hN _ (.head _)).1
  refine ⟨⟨_, hso, rfl⟩, dq_initArgs _, ?_⟩
  obtain ⟨hp, g, d, tk, os⟩ := s
  unfold Builtin.«collections.deque.__init__»
  dsimp only at hso hN ⊢
  have e1' : ((hp.push dqObj).update hp.objs.size (Obj.mapFields fun x => x.setIfInBounds 0 Value.none)).get? hp.objs.size = some dqObj := Heap.get?_update_self _ hso rfl
  have s1 := Heap.SameBut.update (hp.push dqObj) hp.objs.size (Obj.mapFields fun x => x.setIfInBounds 0 Value.none)
  wp_walk
  generalize (hp.push dqObj).update hp.objs.size (Obj.mapFields fun x => x.setIfInBounds 0 Value.none) = h1 at *
  refine And.intro rfl (h _ h1 ?_ ?_ fun p hp => Heap.lt_size (N p hp).1)
  · exact (F.push dqObj).keeps fun b o e => by
      by_cases hb : b = hp.objs.size
      · subst hb; rw [hso] at e; cases e; exact e1'
      · exact (s1.2 b hb).trans e
  · intro p hp'
    refine ⟨?_, (hN p hp').2⟩
    by_cases hb : p.1 = hp.objs.size
    · have h2 := (hN p hp').1
      rw [hb, hso] at h2
      rw [hb, e1', Option.some.inj h2]
    · exact (s1.2 p.1 hb).trans (hN p hp').1
theorem dq_truthy {h₀ : Heap} {L D : Addr} {news : List (Addr × Obj)} {Q : Bool → Shared → Prop} (N : News h₀ L s.heap news) (hm : (D, dqObj) ∈ news) (h : ∀ tk, Q false { s with toks := tk }) :
    wpAny (model prog w) A (truthy (.ref D)) Q E s := by
  have ho := (N _ hm).1
  have hT : s.TypeIs (.ref D) "collections.deque" := ⟨_, ho, rfl⟩
  have body : ∀ (A : Around) (Q : Value → Shared → Prop), Q (.int 0 (s.toks + 1)) { s with toks := s.toks + 1 + 1 } → wpAny (model prog w) A (Builtin.«len» ⟨[.ref D], []⟩) (fun fin s' => ∃ r, fin = .done (.ret r) ∧ Q r s') E s := by
    intro A Q h
    unfold Builtin.«len»
    refine wpAny_bind (m := oneArg "len" _) (wpAny_pure ?_)
    refine wpAny_bind (m := callSpecial? (.ref D) (Str.ofString "__len__")) (wpAny_callSpecial?_slot (name := Str.ofString "__len__") hT dq_slot_len
      (wpAny_call_entry dq_slot_len hT dq_entry_len ?_ (dq_lenArgs _)))
    show wpAny _ _ (do retInt (← Builtin.Deque.size (← slotArgs "__len__" 0 ⟨[.ref D], []⟩).1)) _ _ s
    unfold Builtin.Deque.size
    refine wpAny_bind (wpAny_pure (wpAny_bind (wpAny_bind (wpAny_fieldsOf ho rfl (wpAny_pure ?_)))))
    refine wpAny_bind (wpAny_mkInt (wpAny_pure ⟨_, rfl, ?_⟩))
    refine wpAny_bind (wpAny_holding (wpAny_pure ?_))
    refine wpAny_bind (wpAny_letGo ?_)
    show wpAny _ _ (if (0 : Int) < 0 then _ else _) _ _ _
    rw [if_neg (by omega)]
    show wpAny _ _ (if (0 : Int) ≥ 2 ^ 63 then _ else _) _ _ _
    rw [if_neg (by omega)]
    exact wpAny_bind (wpAny_mkInt (wpAny_pure ⟨_, rfl, h⟩))
  have key : wpAny (model prog w) A (runValue (.builtin "len" ⟨[.ref D], []⟩)) (fun r s' => r = .int 0 (s.toks + 1) ∧ Q false s') E s := by
    refine wpAny_runValue (codeAny_builtin entry_len ?_)
    rw [Around.under_plainId plain_len _]
    exact wpAny_mono (body _ (fun r s' => r = .int 0 (s.toks + 1) ∧ Q false s') ⟨rfl, h _⟩)
      (fun fin s' h' => by obtain ⟨r, rfl, hq⟩ := h'; exact hq) fun _ _ e => e
  unfold truthy
  refine wpAny_bind (wpAny_callSpecial?_none (name := Str.ofString "__bool__") hT dq_noBool ?_)
  refine wpAny_bind (wpAny_specialOf (name := Str.ofString "__len__") hT dq_slot_len.lookup ?_)
  exact wpAny_bind (wpAny_mono key (fun r s' h' => by obtain ⟨rfl, hq⟩ := h'; exact wpAny_pure hq) fun _ _ e => e)
end
end Mine
end TextDeq
section TextSio
open PySem PySem.W PyProof.Rows PySem.Calls Builtin Builtin.ObjectAttr Builtin.Getset_descriptor
set_option maxRecDepth 100000
set_option maxHeartbeats 8000000
set_option pp.deepTerms false
set_option pp.maxSteps 1500
namespace Mine
section Sio
theorem sio_cls {w : World} {h : Heap} (X : (KK w.params).In h) : ∃ oc od cd sl, h.get? 653 = some ⟨oc, od, .cls cd, sl⟩ ∧ cd.abstract = false ∧ cd.hasDel = false ∧ cd.mro.isEmpty = false ∧ Looks (model PySem.Challenge.rw_oc0301_01.row.prog w) h (mroOf (.ref 653)) cd.mro :=
  ⟨_, _, _, _, X 653 _ (by rfl), rfl, rfl, rfl, Looks.of_peek X (by rfl)⟩
theorem sio_objnew {w : World} {A : Around} {h₀ : Heap} {L : Addr} {m : Str → Option Value} {news : List (Addr × Obj)} {s : Shared} {R : Result → Shared → Prop}
    (X : (KK w.params).In h₀) (F : Fr h₀ L s.heap m) (N : News h₀ L s.heap news)
    (hq : ∀ a d h', Fr h₀ L h' m → News h₀ L h' ((a, instObj 653 d) :: (d, dictOf [] 0) :: news) → (∀ p ∈ news, p.1 < d) → d < a → R (.ok (.ret (.ref a))) { s with heap := h' }) :
    codeAny (model PySem.Challenge.rw_oc0301_01.row.prog w) A (.call (.builtin "object.__new__") ⟨[.ref 653], []⟩) R s := by
  have X' := X.keeps F.keep
  obtain ⟨oc, od, cd, sl, hC, e1, e2, _⟩ := sio_cls X'
  have here : Looks (model PySem.Challenge.rw_oc0301_01.row.prog w) s.heap (Bind.madeHere "object.__new__" (.ref 653)) () := Looks.of_peek X' (by kernel_rfl)
  have chk : Looks (model PySem.Challenge.rw_oc0301_01.row.prog w) s.heap (checkBuiltinCall "object.__new__" ⟨[.ref 653], []⟩) () := Looks.of_peek X' (by kernel_rfl)
  have hq' := hq (s.heap.objs.size + 1) s.heap.objs.size ((s.heap.push emptyDict).push (instObj 653 s.heap.objs.size)) ((F.push _).push _) (by
    have := (N.push F emptyDict).push (F.push _) (instObj 653 s.heap.objs.size)
    rwa [Heap.size_push] at this) (fun p hp => Heap.lt_size (N p hp).1) (Nat.lt_succ_self _)
  obtain ⟨hh, g, d, t, os⟩ := s
  refine codeAny_call_builtin_code (Code.quiet_builtin _ PySem.F.objNew.quiet) ?_
  refine chk.here ?_
  refine codeAny_builtin PySem.F.objNew.entry ?_
  unfold Builtin.«object.__new__»
  have fin : ∀ A', wpAny (model PySem.Challenge.rw_oc0301_01.row.prog w) A' (do
      let d ← if typeHasDict (.ref 653) then some <$> alloc { cls := .type "dict", data := .dict #[] } else pure none
      ret (← newObj (.ref 653) .plain d)) (fun fin s' => match fin with | .done f => R (.ok f) s' | .again c' => c'.quiet = true ∧ codeAny (model PySem.Challenge.rw_oc0301_01.row.prog w) A c' R s') (fun e s' => R (.error e) s') ⟨hh, g, d, t, os⟩ := by
    intro A'
    show wpAny _ _ ((alloc emptyDict >>= fun x => pure (some x)) >>= _) _ _ _
    refine wpAny_bind (wpAny_bind (wpAny_alloc (wpAny_pure (wpAny_bind ?_))))
    show wpAny _ _ (newObjAsIs _ _ _) _ _ _
    unfold newObjAsIs classHasDel
    refine wpAny_bind (wpAny_alloc (wpAny_bind (wpAny_bind (wpAny_load (Heap.get?_push_of_some _ (Heap.get?_push_of_some _ hC)) (wpAny_pure ?_)))))
    rw [e2]
    refine wpAny_pure (wpAny_pure ?_)
    show R _ _
    rw [Heap.size_push]
    exact hq'
  repeat (first | simp only [e1, Bool.false_eq_true, if_false] | exact fin _ | lk)
local macro_rules | `(tactic| walk_at "call builtin:object.__new__") => `(tactic| (k_here; (with_reducible show wpAny _ _ (call (Value.builtin "object.__new__") [Value.ref 653]) _ _ _); k_dflt (refine' wpAny_call (sio_objnew ?k1 ?k2 ?k3 ?_); (case k1 => k_asm); (case k2 => k_asm); (case k3 => k_asm); k_whole); intro a' d' h' F' N' l1' l2'))
theorem sio_new : ∀ {w : World} {mean : ExcName → Option Value} {mg mb : Str → Option Value} {A A₀ : Around} {env : Env} {outer : List Env} {base h₀ : Heap} {L : Addr} {m : Str → Option Value} {news : List (Addr × Obj)} {s : Shared} {R : Result → Shared → Prop} {x : List Nat} {t : Tok}
    (_ : Below A₀ base outer h₀) (_ : Fr h₀ L s.heap m) (_ : (KK w.params).In h₀) (_ : News h₀ L s.heap news) (_ : Top VQ (looseW VQ LQ) mean mg mb h₀) (_ : A.frames = some (env :: outer)) (_ : env.frame = some L) (_ : env.scope.kind = .function) (_ : A.depth + 9 < recursionLimit) (_ : A.handled = none)
    (_ : ∀ a d h' tk', Fr h₀ L h' m → News h₀ L h' ((a, instObj 653 d) :: (d, dictOf [] 0) :: news) → (∀ p ∈ news, p.1 < d) → d < a → R (.ok (.ret (.ref a))) { s with heap := h', toks := tk' }),
    codeAny (model PySem.Challenge.rw_oc0301_01.row.prog w) A (.call (.ref 146) ⟨[.ref 653, .str (S x) t], []⟩) R s := by
  w_on
  k_fill
  intro w mean mg mb A A₀ env outer base h₀ L m news s R x t B F X N T hA hf hk hd hh hret
  obtain ⟨ah, ad, af, ag, au⟩ := A
  dsimp only at hA hh hd
  subst hA hh
  refine' kp_both B F X N T rfl hf hk ?k6 ?k7 (by dsimp only; omega) ?kV ?kX ?kQ ?kM ?kN ?kD ?kR ?kP ?kS ?kT ?kB ?_ ?c2 ?c3 ?c4 ?c5
  case k6 => k_is
  case k7 => k_is
  case kV => kp_lit
  case kX => kp_lit
  case kQ => exact rfl
  case kM => exact rfl
  case kN => exact rfl
  case kD => kp_flats
  case kR => exact rfl
  case kP => exact rfl
  case kS => exact fun _ => rfl
  case kT => exact fun _ _ => rfl
  case kB => exact fun _ _ => locs rfl
  case c5 => decide
  case c2 => exact rfl
  case c3 => exact rfl
  case c4 => exact rfl
  intro C' D' o' g' L' h' tk' l1 l2 lo' hs' fs' FG' F' N' B' X' T'
  try dsimp only
  k_fold
  k_steps
  rename News _ _ _ _ => NZ
  exact hret _ _ _ _ (by assumption) (fun p hp => NZ p (by
    rcases List.mem_cons.mp hp with rfl | hp
    · exact .head _
    · rcases List.mem_cons.mp hp with rfl | hp
      · exact .tail _ (.head _)
      · exact .tail _ (.tail _ (.tail _ (.tail _ hp))))) (fun p hp => by
        rename ∀ p : Addr × Obj, p ∈ ((_, _) :: _) → p.1 < _ => hl
        exact hl p (.tail _ (.tail _ hp))) (by assumption)
local macro_rules | `(tactic| k_all) => `(tactic| (intro p9 h9; (rename ∀ p : Addr × Obj, p ∈ _ → p.1 < _ => hlo9); (have hz9 := ltN (hlo9 p9 h9)); (refine neN ?_); (try dsimp only); omega))
local macro_rules | `(tactic| k_room) => `(tactic| ((try simp only [depth_under_make, depth_under_kw, depth_in1, depth_deeper, depth_caller]); (try dsimp only); omega))
local macro_rules | `(tactic| walk_at "enter") => `(tactic| (
  (case k6 => k_is)
  (case k7 => k_is)
  (case k9 => first | exact BindsTo.of_eq rfl | exact binds_K (by k_in) rfl (by k_is) rfl rfl rfl)
  (case c5 => decide)
  (case kB => exact locs rfl)
  (case c2 => exact rfl)
  (case c3 => exact rfl)
  (case c4 => exact rfl)))
abbrev sioEs (P : Params) (x : Str) (p : Int) (k1 k2 k3 t1 t2 t3 : Tok) : List DictEntry :=
  [⟨PyData.keyHash P (Str.ofString "_StringIO__newline"), .str (Str.ofString "_StringIO__newline") k1, .str (Str.ofString "\n") t1⟩, ⟨PyData.keyHash P (Str.ofString "_StringIO__buf"), .str (Str.ofString "_StringIO__buf") k2, .str x t2⟩, ⟨PyData.keyHash P (Str.ofString "_StringIO__pos"), .str (Str.ofString "_StringIO__pos") k3, .int p t3⟩]
theorem sio_init : ∀ {w : World} {mean : ExcName → Option Value} {mg mb : Str → Option Value} {A A₀ : Around} {env : Env} {outer : List Env} {base h₀ : Heap} {L a d : Addr} {m : Str → Option Value} {news : List (Addr × Obj)} {s : Shared} {Q E : Value → Shared → Prop} {x : List Nat} {t : Tok}
    (_ : Below A₀ base outer h₀) (_ : Fr h₀ L s.heap m) (_ : (KK w.params).In h₀) (_ : News h₀ L s.heap ((a, instObj 653 d) :: (d, dictOf [] 0) :: news)) (_ : ∀ p ∈ news, p.1 < d) (_ : d < a) (_ : Top VQ (looseW VQ LQ) mean mg mb h₀) (_ : A.frames = some (env :: outer)) (_ : env.frame = some L) (_ : env.scope.kind = .function) (_ : A.depth + 9 < recursionLimit) (_ : A.handled = none) (_ : x.length ≤ 17)
    (_ : ∀ k1 k2 k3 t1 t2 t3 h' tk', Fr h₀ L h' m → News h₀ L h' ((a, instObj 653 d) :: (d, dictOf (sioEs w.params (S x) 0 k1 k2 k3 t1 t2 t3) 3) :: news) → Q .none { s with heap := h', toks := tk' }),
    wpAny (model PySem.Challenge.rw_oc0301_01.row.prog w) A (call (.ref 423) [.ref a, .str (S x) t]) Q E s := by
  w_on
  k_fill
  intro w mean mg mb A A₀ env outer base h₀ L a d m news s Q E x t B F X N l1 l2 T hA hf hk hd hh hl hret
  obtain ⟨ah, ad, af, ag, au⟩ := A
  dsimp only at hA hh hd
  subst hA hh
  refine wpAny_call ?_
  refine' code_def (binds := [(Str.ofString "self", .ref a), (Str.ofString "initial_value", .str (S x) t), (Str.ofString "newline", .str (Str.ofString "\n") 833)]) B F X N T rfl hf hk ?k6 ?k7 (by dsimp only; omega) ?k9 ?kB ?_ ?c2 ?c3 ?c4 ?c5
  walk_at "enter"
  intro g L' h₁ FG F' N' B' X' T'
  try dsimp only
  k_fold
  have hlen : (S x).length ≤ 17 := by rw [S_len]; exact hl
  k_lt2 l2
  k_steps
  exact hret _ _ _ _ _ _ _ _ (by assumption) (by assumption)
theorem sio_make : ∀ {w : World} {mean : ExcName → Option Value} {mg mb : Str → Option Value} {A A₀ : Around} {env : Env} {outer : List Env} {base h₀ : Heap} {L : Addr} {m : Str → Option Value} {news : List (Addr × Obj)} {s : Shared} {Q E : Value → Shared → Prop} {x : List Nat} {t : Tok}
    (_ : Below A₀ base outer h₀) (_ : Fr h₀ L s.heap m) (_ : (KK w.params).In h₀) (_ : Quiet w.params h₀) (_ : News h₀ L s.heap news) (_ : Top VQ (looseW VQ LQ) mean mg mb h₀) (_ : A.frames = some (env :: outer)) (_ : env.frame = some L) (_ : env.scope.kind = .function) (_ : A.depth + 12 < recursionLimit) (_ : A.handled = none) (_ : x.length ≤ 17)
    (_ : ∀ a d k1 k2 k3 t1 t2 t3 h' tk', Fr h₀ L h' m → News h₀ L h' ((a, instObj 653 d) :: (d, dictOf (sioEs w.params (S x) 0 k1 k2 k3 t1 t2 t3) 3) :: news) → (∀ p ∈ news, p.1 < d) → d < a → Q (.ref a) { s with heap := h', toks := tk' }),
    wpAny (model PySem.Challenge.rw_oc0301_01.row.prog w) A (call (.ref 653) [.str (S x) t]) Q E s := by
  w_on
  k_fill
  intro w mean mg mb A A₀ env outer base h₀ L m news s Q E x t B F X Z N T hA hf hk hd hh hl hret
  obtain ⟨oq, Z1, Z2⟩ := Z
  obtain ⟨ah, ad, af, ag, au⟩ := A
  dsimp only at hA hh hd
  subst hA hh
  have X' := X.keeps F.keep
  obtain ⟨oc, od, cd, sl, hC, e1, e2, e4, hm⟩ := sio_cls X'
  have call : Looks (model PySem.Challenge.rw_oc0301_01.row.prog w) s.heap (specialOf (.ref 653) "__call__") (some (.builtin "type.__call__")) := looks_specialIn X' (by kernel_rfl)
  have typ : Looks (model PySem.Challenge.rw_oc0301_01.row.prog w) s.heap (isInstance (.ref 653) (.type "type")) true := looks_instIn X' (by kernel_rfl)
  have made : Looks (model PySem.Challenge.rw_oc0301_01.row.prog w) s.heap (Bind.madeBy (.ref 653)) none := Looks.of_peek X' (by kernel_rfl)
  have self : Looks (model PySem.Challenge.rw_oc0301_01.row.prog w) s.heap (isSubtype (.ref 653) (.ref 653)) true := looks_mroIn X' (by kernel_rfl)
  obtain ⟨hh, g, d, tt, os⟩ := s
  refine wpAny_call ?_
  refine codeAny_of_tree ?_
  show wpAny _ _ (callAny (.ref 653) _) _ _ _
  refine nd_load hC ?_
  show wpAny _ _ (callAny.viaDunder (.ref 653) _) _ _ _
  unfold callAny.viaDunder
  refine wpAny_bind (call.at ?_)
  dsimp only
  rw [tc_bind]
  refine wpAny_bind (wpAny_pure (wpAny_bind (wpAny_pure ?_)))
  refine wpAny_pure (a := Fin.again (.call (.builtin "type.__call__") ⟨[.ref 653, .str (S x) t], []⟩)) (And.intro rfl ?_)
  refine codeAny_call_builtin_at (Code.quiet_builtin _ (by decide +kernel)) entry_typeCall (check_slot tc_kind tc_split typ (tc_args _ _ _) ?_)
  unfold Builtin.«type.__call__»
  have getnew : ∀ {A : Around} {Q : Value → Shared → Prop} {E : Value → Shared → Prop}, Q (.ref 146) ⟨hh, g, d, tt + 1, os⟩ → wpAny (model PySem.Challenge.rw_oc0301_01.row.prog w) A (getAttr (.ref 653) "__new__") Q E ⟨hh, g, d, tt, os⟩ := fun {A Q E} q =>
    cls_sm (K := (cStatics, oq) :: KK w.params) (C := 653) (mc := .type "type") (p := 150) (f := .ref 146) (rest := []) F Z1 (by kernel_rfl) (by unfold readsIn; rw [Z2]; kernel_rfl) (by kernel_rfl) (by kernel_rfl) rfl q
  repeat (first | simp only [e4, Bool.false_eq_true, if_false] | with_reducible refine wpAny_call ?_ | with_reducible refine getnew ?_ | lk)
  refine sio_new (s := ⟨hh, g, d, tt + 1, os⟩) B F X N T rfl hf hk (by simp only [depth_under_make]; omega) rfl ?_
  intro a d' h' tk' F' N' l1 l2
  have X'' := X.keeps F'.keep
  have hi : Looks (model PySem.Challenge.rw_oc0301_01.row.prog w) h' (isInstance (.ref a) (.ref 653)) true := by
    have t1 : Looks (model PySem.Challenge.rw_oc0301_01.row.prog w) h' (typeOf (.ref a)) (.ref 653) := (Looks.ld (N' _ (.head _)).1).andThen .now
    exact t1.andThen (looks_mroIn X'' (by kernel_rfl))
  dsimp only
  refine wpAny_bind (hi.at ?_)
  simp only [Bool.not_true, Bool.false_eq_true, if_false]
  refine wpAny_bind (wpAny_holding (special_fn (K := KK w.params) (C := 653) (f := 423) X'' (InstAt.of_news N' (.head _) (.tail _ (.head _))) (by kernel_rfl) (by kernel_rfl) ?_))
  refine sio_init (s := ⟨h', g, d, tk', os⟩) B F' X N' l1 l2 T rfl hf hk (by simp only [depth_under_make]; omega) rfl hl ?_
  intro k1 k2 k3 t1 t2 t3 h2 tk2 F2 N2
  dsimp only
  rw [if_neg (by decide)]
  exact wpAny_pure (hret _ _ _ _ _ _ _ _ _ _ F2 N2 l1 l2)
end Sio
end Mine
end TextSio
section TextLex0
open PySem PySem.W PyProof.Rows PySem.Calls
set_option maxRecDepth 100000
set_option maxHeartbeats 8000000
set_option pp.deepTerms false
set_option pp.maxSteps 3000
namespace Mine
/-- the tokens of the lexer's dict that stay -/
structure LK where
  k0 : Tok
  k1 : Tok
  k2 : Tok
  k3 : Tok
  k4 : Tok
  k5 : Tok
  k6 : Tok
  k7 : Tok
  k8 : Tok
  k9 : Tok
  k10 : Tok
  k11 : Tok
  k12 : Tok
  k13 : Tok
  k14 : Tok
  k15 : Tok
  k16 : Tok
  k17 : Tok
  k18 : Tok
  v4 : Tok
  v5 : Tok
  v6 : Tok
  v8 : Tok
  v9 : Tok
  v10 : Tok
  v14 : Tok
  v18 : Tok
abbrev ent (P : Params) (n : String) (k : Tok) (v : Value) : DictEntry := ⟨PyData.keyHash P (Str.ofString n), .str (Str.ofString n) k, v⟩
abbrev lexEs (P : Params) (K : LK) (a D1 D2 : Addr) (st : Value) (ln : Int) (vl : Tok) (tok : Str) (vt : Tok) : List DictEntry :=
  [ent P "instream" K.k0 (.ref a), ent P "infile" K.k1 .none, ent P "posix" K.k2 (.bool true), ent P "eof" K.k3 .none, ent P "commenters" K.k4 (.str (Str.ofString "") K.v4),
   ent P "wordchars" K.k5 (.str (Str.ofString "abcdfeghijklmnopqrstuvwxyzABCDEFGHIJKLMNOPQRSTUVWXYZ0123456789_ßàáâãäåæçèéêëìíîïðñòóôõöøùúûüýþÿÀÁÂÃÄÅÆÇÈÉÊËÌÍÎÏÐÑÒÓÔÕÖØÙÚÛÜÝÞ") K.v5),
   ent P "whitespace" K.k6 (.str (Str.ofString " \t\r\n") K.v6), ent P "whitespace_split" K.k7 (.bool true), ent P "quotes" K.k8 (.str (Str.ofString "'\"") K.v8), ent P "escape" K.k9 (.str (Str.ofString "\\") K.v9),
   ent P "escapedquotes" K.k10 (.str (Str.ofString "\"") K.v10), ent P "state" K.k11 st, ent P "pushback" K.k12 (.ref D1), ent P "lineno" K.k13 (.int ln vl), ent P "debug" K.k14 (.int 0 K.v14),
   ent P "token" K.k15 (.str tok vt), ent P "filestack" K.k16 (.ref D2), ent P "source" K.k17 .none, ent P "_punctuation_chars" K.k18 (.str (Str.ofString "") K.v18)]
/-- the six objects of a lexer -/
abbrev lexLed (D2 D1 a d lx dl : Addr) (es1 es2 : List DictEntry) (news : List (Addr × Obj)) : List (Addr × Obj) :=
  (D2, dqObj) :: (D1, dqObj) :: (a, instObj 653 d) :: (d, dictOf es1 3) :: (lx, instObj 788 dl) :: (dl, dictOf es2 19) :: news
structure LexOrd (D2 D1 a d lx dl : Addr) (news : List (Addr × Obj)) : Prop where
  low : ∀ p ∈ news, p.1 ≠ dl
  lowd : ∀ p ∈ news, p.1 ≠ d
  o1 : @LT.lt Nat _ dl lx
  o2 : @LT.lt Nat _ lx d
  o3 : @LT.lt Nat _ d a
  o4 : @LT.lt Nat _ a D1
  o5 : @LT.lt Nat _ D1 D2
section Sread
local macro_rules | `(tactic| k_all) => `(tactic| with_reducible assumption)
local macro_rules | `(tactic| k_room) => `(tactic| ((try simp only [depth_under_make, depth_under_kw, depth_in1, depth_deeper, depth_caller]); (try dsimp only); omega))
local macro_rules | `(tactic| walk_at "enter") => `(tactic| (
  (case k6 => k_is)
  (case k7 => k_is)
  (case k9 => first | exact BindsTo.of_eq rfl | exact binds_K (by k_in) rfl (by k_is) rfl rfl rfl)
  (case c5 => decide)
  (case kB => exact locs rfl)
  (case c2 => exact rfl)
  (case c3 => exact rfl)
  (case c4 => exact rfl)))
theorem slice_one {pre post : List Nat} {c : Nat} {b : Int} (hb : b = (pre.length : Int) + 1) : Txt.slice (S (pre ++ c :: post)) (some (pre.length : Int)) (some b) = S [c] := by
  subst hb
  show StrLaws.sliceText _ (some _) (some _) = _
  rw [StrLaws.sliceText_plain ⟨by omega, by omega, by simp; omega⟩]
  have e : ((pre.length : Int) + 1 - (pre.length : Int)).toNat = 1 := by omega
  rw [e]
  simp [S]
theorem sread_sign : ∀ {w : World} {mean : ExcName → Option Value} {mg mb : Str → Option Value} {A A₀ : Around} {env : Env} {outer : List Env} {base h₀ : Heap} {L D2 D1 a d lx dl : Addr} {m : Str → Option Value} {news : List (Addr × Obj)} {s : Shared} {Q E : Value → Shared → Prop} {pre post : List Nat} {c : Nat} {t : Tok} {es : List DictEntry} {k1 k2 k3 t1 t2 t3 : Tok}
    (_ : Below A₀ base outer h₀) (_ : Fr h₀ L s.heap m) (_ : (KK w.params).In h₀) (_ : News h₀ L s.heap (lexLed D2 D1 a d lx dl (sioEs w.params (S (pre ++ c :: post)) (pre.length : Int) k1 k2 k3 t1 t2 t3) es news)) (_ : LexOrd D2 D1 a d lx dl news) (_ : Top VQ (looseW VQ LQ) mean mg mb h₀) (_ : A.frames = some (env :: outer)) (_ : env.frame = some L) (_ : env.scope.kind = .function) (_ : A.depth + 9 < recursionLimit) (_ : A.handled = none) (_ : pre.length + post.length ≤ 17)
    (_ : ∀ t3' h' tk' t', Fr h₀ L h' m → News h₀ L h' (lexLed D2 D1 a d lx dl (sioEs w.params (S (pre ++ c :: post)) ((pre.length : Int) + 1) k1 k2 k3 t1 t2 t3') es news) → Q (.str (S [c]) t') { s with heap := h', toks := tk' }),
    wpAny (model PySem.Challenge.rw_oc0301_01.row.prog w) A (call (.ref 599) [.ref a, .int 1 t]) Q E s := by
  w_on
  k_fill
  intro w mean mg mb A A₀ env outer base h₀ L D2 D1 a d lx dl m news s Q E pre post c t es k1 k2 k3 t1 t2 t3 B F X N O T hA hf hk hd hh hl hret
  obtain ⟨ah, ad, af, ag, au⟩ := A
  dsimp only at hA hh hd
  subst hA hh
  obtain ⟨l0, l0b, l1, l2, l3, l4, l5⟩ := O
  refine wpAny_call ?_
  refine' code_def (binds := [(Str.ofString "self", .ref a), (Str.ofString "size", .int 1 t)]) B F X N T rfl hf hk ?k6 ?k7 (by dsimp only; omega) ?k9 ?kB ?_ ?c2 ?c3 ?c4 ?c5
  walk_at "enter"
  intro g L' h₁ FG F' N' B' X' T'
  try dsimp only
  k_fold
  have hlen : (S (pre ++ c :: post)).length = pre.length + 1 + post.length := by rw [S_len]; simp; omega
  k_steps
  all_goals try dsimp only at *
  · rw [slice_one rfl]
    exact hret _ _ _ _ (by assumption) (by assumption)
  · have e : ((S (pre ++ c :: post)).length : Int) = (pre.length : Int) + 1 := by omega
    rename News _ _ _ _ => NZ
    rw [e] at NZ
    rw [slice_one e]
    exact hret _ _ _ _ (by assumption) NZ
theorem sread_end : ∀ {w : World} {mean : ExcName → Option Value} {mg mb : Str → Option Value} {A A₀ : Around} {env : Env} {outer : List Env} {base h₀ : Heap} {L D2 D1 a d lx dl : Addr} {m : Str → Option Value} {news : List (Addr × Obj)} {s : Shared} {Q E : Value → Shared → Prop} {x : List Nat} {t : Tok} {es : List DictEntry} {k1 k2 k3 t1 t2 t3 : Tok}
    (_ : Below A₀ base outer h₀) (_ : Fr h₀ L s.heap m) (_ : (KK w.params).In h₀) (_ : News h₀ L s.heap (lexLed D2 D1 a d lx dl (sioEs w.params (S x) (x.length : Int) k1 k2 k3 t1 t2 t3) es news)) (_ : LexOrd D2 D1 a d lx dl news) (_ : Top VQ (looseW VQ LQ) mean mg mb h₀) (_ : A.frames = some (env :: outer)) (_ : env.frame = some L) (_ : env.scope.kind = .function) (_ : A.depth + 9 < recursionLimit) (_ : A.handled = none) (_ : x.length ≤ 18)
    (_ : ∀ h' tk' t', Fr h₀ L h' m → News h₀ L h' (lexLed D2 D1 a d lx dl (sioEs w.params (S x) (x.length : Int) k1 k2 k3 t1 t2 t3) es news) → Q (.str (Str.ofString "") t') { s with heap := h', toks := tk' }),
    wpAny (model PySem.Challenge.rw_oc0301_01.row.prog w) A (call (.ref 599) [.ref a, .int 1 t]) Q E s := by
  w_on
  k_fill
  intro w mean mg mb A A₀ env outer base h₀ L D2 D1 a d lx dl m news s Q E x t es k1 k2 k3 t1 t2 t3 B F X N O T hA hf hk hd hh hl hret
  obtain ⟨ah, ad, af, ag, au⟩ := A
  dsimp only at hA hh hd
  subst hA hh
  obtain ⟨l0, l0b, l1, l2, l3, l4, l5⟩ := O
  refine wpAny_call ?_
  refine' code_def (binds := [(Str.ofString "self", .ref a), (Str.ofString "size", .int 1 t)]) B F X N T rfl hf hk ?k6 ?k7 (by dsimp only; omega) ?k9 ?kB ?_ ?c2 ?c3 ?c4 ?c5
  walk_at "enter"
  intro g L' h₁ FG F' N' B' X' T'
  try dsimp only
  k_fold
  have hlen : (S x).length = x.length := by rw [S_len]
  k_steps
  all_goals try dsimp only at *
  exact hret _ _ _ (by assumption) (by assumption)
end Sread
end Mine
end TextLex0
section TextLex1
open PySem PySem.W PyProof.Rows PySem.Calls
set_option maxRecDepth 100000
set_option maxHeartbeats 8000000
set_option pp.deepTerms false
set_option pp.maxSteps 3000
namespace Mine
theorem iteT {b : Bool} {P Q : Prop} (h : b = true) (p : P) : if b = true then P else Q := by rw [if_pos h]; exact p
theorem iteF {b : Bool} {P Q : Prop} (h : b = false) (q : Q) : if b = true then P else Q := by rw [if_neg (by rw [h]; exact Bool.false_ne_true)]; exact q
theorem len1T (c : Nat) : (((S [c]).length : Int) != 0) = true := rfl
theorem len1F (c : Nat) : (!((S [c]).length : Int) != 0) = false := rfl
theorem S_append' (a b : List Nat) : S a ++ S b = S (a ++ b) := Str.ext' (by simp [Str.cps_append])
section Lex1
local macro_rules | `(tactic| walk_at "eval Name") => `(tactic| (k_here; k_dflt (refine' ld ?k1 ?k2 ?_; (case k1 => k_asm); (case k2 => first | exact rfl | assumption); k_whole)))
local macro_rules | `(tactic| k_all) => `(tactic| with_reducible assumption)
local macro_rules | `(tactic| k_room) => `(tactic| ((try simp only [depth_under_make, depth_under_kw, depth_in1, depth_deeper, depth_caller]); (try dsimp only); omega))
local macro_rules | `(tactic| walk_at "call ref") => `(tactic| (k_here; (with_reducible show wpAny _ _ (call (Value.ref 599) _) _ _ _); (refine Hold.out ?_)))
local macro_rules | `(tactic| walk_at "ite") => `(tactic| first
  | (with_reducible refine iteT ?hite ?_; (case hite => first | with_reducible assumption | decide +kernel))
  | (with_reducible refine iteF ?hite ?_; (case hite => first | with_reducible assumption | decide +kernel)))
abbrev rtEnv (L f : Addr) (cd : Value) : Env := envOf (Str.ofString "shlex.read_token") (fScope (cst 31 6)) L f cd
abbrev rtW : Stmt := (fBody (cst 31 6)).getD 2 (.Pass default)
def rtTurn : List Stmt := whileBody rtW
def rt0 : Stmt := rtTurn.getD 0 (.Pass default)
/-- what a turn of the lexer may lean on -/
structure RtCtx (w : World) (mean : ExcName → Option Value) (mg mb : Str → Option Value) (A A₀ : Around) (env : Env) (outer : List Env) (base h₀ : Heap) (D2 D1 a d lx dl : Addr) (news : List (Addr × Obj)) : Prop where
  B : Below A₀ base outer h₀
  X : (KK w.params).In h₀
  T : Top VQ (looseW VQ LQ) mean mg mb h₀
  O : LexOrd D2 D1 a d lx dl news
  fr : A.frames = some (env :: outer)
  dp : A.depth + 12 < recursionLimit
  un : A.units + 70 < cLine
  hd : A.handled = none
theorem rt0_sign : ∀ {w : World} {mean : ExcName → Option Value} {mg mb : Str → Option Value} {A A₀ : Around} {outer : List Env} {base h₀ : Heap} {L D2 D1 a d lx dl f : Addr} {cd : Value} {m : Str → Option Value} {news : List (Addr × Obj)} {s : Shared} {Q : Flow → Shared → Prop} {E : Value → Shared → Prop} {pre post : List Nat} {c : Nat} {k1 k2 k3 t1 t2 t3 : Tok} {K : LK} {st : Value} {ln : Int} {vl vt : Tok} {tok : Str} {rest : List Stmt}
    (_ : RtCtx w mean mg mb A A₀ (rtEnv L f cd) outer base h₀ D2 D1 a d lx dl news) (_ : (KK w.params).In h₀) (_ : Fr h₀ L s.heap m) (_ : m (Str.ofString "self") = some (.ref lx)) (_ : News h₀ L s.heap (lexLed D2 D1 a d lx dl (sioEs w.params (S (pre ++ c :: post)) (pre.length : Int) k1 k2 k3 t1 t2 t3) (lexEs w.params K a D1 D2 st ln vl tok vt) news)) (_ : pre.length + post.length ≤ 17)
    (_ : ∀ t3' h' tk' t', Fr h₀ L h' (fun y => if y = Str.ofString "nextchar" then some (.str (S [c]) t') else m y) → News h₀ L h' (lexLed D2 D1 a d lx dl (sioEs w.params (S (pre ++ c :: post)) ((pre.length : Int) + 1) k1 k2 k3 t1 t2 t3') (lexEs w.params K a D1 D2 st ln vl tok vt) news) → wpAny (model PySem.Challenge.rw_oc0301_01.row.prog w) A (execs rest (rtEnv L f cd)) Q E { s with heap := h', toks := tk' }),
    wpAny (model PySem.Challenge.rw_oc0301_01.row.prog w) A (execs (rt0 :: rest) (rtEnv L f cd)) Q E s := by
  w_on
  k_fill
  intro w mean mg mb A A₀ outer base h₀ L D2 D1 a d lx dl f cd m news s Q E pre post c k1 k2 k3 t1 t2 t3 K st ln vl vt tok rest C X F hs N hl hret
  obtain ⟨B, X, T, O, hA, hd, hu, hh⟩ := C
  obtain ⟨ah, ad, af, ag, au⟩ := A
  dsimp only at hA hh hd
  subst hA hh
  have O' := O
  obtain ⟨l0, l0b, l1, l2, l3, l4, l5⟩ := O
  show wpAny _ _ (execs (Stmt.If _ _ _ _ :: _) _) _ _ _
  k_steps
  all_goals try dsimp only at *
  unfold Hold
  refine' sread_sign ?B ?F ?X ?N O' ?T rfl rfl rfl (by dsimp only; omega) rfl hl ?_
  case F => k_asm
  case B => assumption
  case X => k_asm
  case N => k_asm
  case T => k_asm
  intro t3' h2 tk2 t' F2 N2
  dsimp only
  k_steps
  exact hret _ _ _ _ (by assumption) (by assumption)
theorem rt0_end : ∀ {w : World} {mean : ExcName → Option Value} {mg mb : Str → Option Value} {A A₀ : Around} {outer : List Env} {base h₀ : Heap} {L D2 D1 a d lx dl f : Addr} {cd : Value} {m : Str → Option Value} {news : List (Addr × Obj)} {s : Shared} {Q : Flow → Shared → Prop} {E : Value → Shared → Prop} {x : List Nat} {k1 k2 k3 t1 t2 t3 : Tok} {K : LK} {st : Value} {ln : Int} {vl vt : Tok} {tok : Str} {rest : List Stmt}
    (_ : RtCtx w mean mg mb A A₀ (rtEnv L f cd) outer base h₀ D2 D1 a d lx dl news) (_ : (KK w.params).In h₀) (_ : Fr h₀ L s.heap m) (_ : m (Str.ofString "self") = some (.ref lx)) (_ : News h₀ L s.heap (lexLed D2 D1 a d lx dl (sioEs w.params (S x) (x.length : Int) k1 k2 k3 t1 t2 t3) (lexEs w.params K a D1 D2 st ln vl tok vt) news)) (_ : x.length ≤ 18)
    (_ : ∀ h' tk' t', Fr h₀ L h' (fun y => if y = Str.ofString "nextchar" then some (.str (Str.ofString "") t') else m y) → News h₀ L h' (lexLed D2 D1 a d lx dl (sioEs w.params (S x) (x.length : Int) k1 k2 k3 t1 t2 t3) (lexEs w.params K a D1 D2 st ln vl tok vt) news) → wpAny (model PySem.Challenge.rw_oc0301_01.row.prog w) A (execs rest (rtEnv L f cd)) Q E { s with heap := h', toks := tk' }),
    wpAny (model PySem.Challenge.rw_oc0301_01.row.prog w) A (execs (rt0 :: rest) (rtEnv L f cd)) Q E s := by
  w_on
  k_fill
  intro w mean mg mb A A₀ outer base h₀ L D2 D1 a d lx dl f cd m news s Q E x k1 k2 k3 t1 t2 t3 K st ln vl vt tok rest C X F hs N hl hret
  obtain ⟨B, X, T, O, hA, hd, hu, hh⟩ := C
  obtain ⟨ah, ad, af, ag, au⟩ := A
  dsimp only at hA hh hd
  subst hA hh
  have O' := O
  obtain ⟨l0, l0b, l1, l2, l3, l4, l5⟩ := O
  show wpAny _ _ (execs (Stmt.If _ _ _ _ :: _) _) _ _ _
  k_steps
  all_goals try dsimp only at *
  unfold Hold
  refine' sread_end ?B ?F ?X ?N O' ?T rfl rfl rfl (by dsimp only; omega) rfl hl ?_
  case F => k_asm
  case B => assumption
  case X => k_asm
  case N => k_asm
  case T => k_asm
  intro h2 tk2 t' F2 N2
  dsimp only
  k_steps
  exact hret _ _ _ (by assumption) (by assumption)
/-- within apostrophes: any other sign -/
theorem tD : ∀ {w : World} {mean : ExcName → Option Value} {mg mb : Str → Option Value} {A A₀ : Around} {outer : List Env} {base h₀ : Heap} {L D2 D1 a d lx dl f : Addr} {cd : Value} {m : Str → Option Value} {news : List (Addr × Obj)} {s : Shared} {Q : Flow → Shared → Prop} {E : Value → Shared → Prop} {es : List DictEntry} {c : Nat} {K : LK} {ln : Int} {vs vl vt tn : Tok} {tok : List Nat}
    (_ : RtCtx w mean mg mb A A₀ (rtEnv L f cd) outer base h₀ D2 D1 a d lx dl news) (_ : (KK w.params).In h₀) (_ : Fr h₀ L s.heap m) (_ : m (Str.ofString "self") = some (.ref lx)) (_ : m (Str.ofString "nextchar") = some (.str (S [c]) tn)) (_ : News h₀ L s.heap (lexLed D2 D1 a d lx dl es (lexEs w.params K a D1 D2 (.str (Str.ofString "'") vs) ln vl (S tok) vt) news)) (_ : tok.length ≤ 17) (_ : c ≠ 39)
    (_ : ∀ h' tk' m' ln' vl' vt', Fr h₀ L h' m' → m' (Str.ofString "self") = some (.ref lx) → m' (Str.ofString "quoted") = some (.bool true) → News h₀ L h' (lexLed D2 D1 a d lx dl es (lexEs w.params K a D1 D2 (.str (Str.ofString "'") vs) ln' vl' (S (tok ++ [c])) vt') news) → Q .next { s with heap := h', toks := tk' }),
    wpAny (model PySem.Challenge.rw_oc0301_01.row.prog w) A (execs (rtTurn.drop 1) (rtEnv L f cd)) Q E s := by
  w_on
  k_fill
  intro w mean mg mb A A₀ outer base h₀ L D2 D1 a d lx dl f cd m news s Q E es c K ln vs vl vt tn tok C X F hs hn N hl hc hret
  obtain ⟨B, X, T, O, hA, hd, hu, hh⟩ := C
  obtain ⟨ah, ad, af, ag, au⟩ := A
  dsimp only at hA hh hd
  subst hA hh
  obtain ⟨l0, l0b, l1, l2, l3, l4, l5⟩ := O
  have hc1 : (S [c]).length = 1 := rfl
  have hcT := len1T c
  have hcF := len1F c
  have hc2 : (S tok).length ≤ 17 := by rw [S_len]; exact hl
  have hc3 : (S [c] == Str.ofString "'") = false := by
    rw [show Str.ofString "'" = S [39] by decide +kernel]; simp [hc]
  show wpAny _ _ (execs (Stmt.If _ _ _ _ :: _) _) _ _ _
  k_steps
  all_goals try dsimp only at *
  all_goals (rename News _ _ _ _ => NZ; rw [S_append'] at NZ; exact hret _ _ _ _ _ _ (by assumption) (by exact hs) rfl NZ)
end Lex1
end Mine
end TextLex1
section TextLex2a
open PySem PySem.W PyProof.Rows PySem.Calls
set_option maxRecDepth 100000
set_option maxHeartbeats 8000000
set_option pp.deepTerms false
set_option pp.maxSteps 3000
namespace Mine
local macro_rules | `(tactic| walk_at "pad") => `(tactic| skip)
section Lex2
local macro_rules | `(tactic| walk_at "eval Name") => `(tactic| (k_here; k_dflt (refine' ld ?k1 ?k2 ?_; (case k1 => k_asm); (case k2 => first | exact rfl | assumption); k_whole)))
local macro_rules | `(tactic| k_all) => `(tactic| with_reducible assumption)
local macro_rules | `(tactic| k_room) => `(tactic| ((try simp only [depth_under_make, depth_under_kw, depth_in1, depth_deeper, depth_caller]); (try dsimp only); omega))
local macro_rules | `(tactic| walk_at "call ref") => `(tactic| (k_here; (with_reducible show wpAny _ _ (call (Value.ref 599) _) _ _ _); (refine Hold.out ?_)))
local macro_rules | `(tactic| walk_at "ite") => `(tactic| first
  | (with_reducible refine iteT ?hite ?_; (case hite => first | with_reducible assumption | decide +kernel))
  | (with_reducible refine iteF ?hite ?_; (case hite => first | with_reducible assumption | decide +kernel)))
/-- an apostrophe opens -/
theorem tA : ∀ {w : World} {mean : ExcName → Option Value} {mg mb : Str → Option Value} {A A₀ : Around} {outer : List Env} {base h₀ : Heap} {L D2 D1 a d lx dl f : Addr} {cd : Value} {m : Str → Option Value} {news : List (Addr × Obj)} {s : Shared} {Q : Flow → Shared → Prop} {E : Value → Shared → Prop} {es : List DictEntry} {q : Bool} {K : LK} {ln : Int} {vs vl vt tn : Tok} {tok : List Nat}
    (_ : RtCtx w mean mg mb A A₀ (rtEnv L f cd) outer base h₀ D2 D1 a d lx dl news) (_ : (KK w.params).In h₀) (_ : Fr h₀ L s.heap m) (_ : m (Str.ofString "self") = some (.ref lx)) (_ : m (Str.ofString "nextchar") = some (.str (Str.ofString "'") tn)) (_ : m (Str.ofString "quoted") = some (.bool q)) (_ : News h₀ L s.heap (lexLed D2 D1 a d lx dl es (lexEs w.params K a D1 D2 (.str (Str.ofString " ") vs) ln vl (S tok) vt) news)) (_ : tok.length ≤ 17)
    (_ : ∀ h' tk' m' ln' vl' vt' vs', Fr h₀ L h' m' → m' (Str.ofString "self") = some (.ref lx) → m' (Str.ofString "quoted") = some (.bool q) → News h₀ L h' (lexLed D2 D1 a d lx dl es (lexEs w.params K a D1 D2 (.str (Str.ofString "'") vs') ln' vl' (S tok) vt') news) → Q .next { s with heap := h', toks := tk' }),
    wpAny (model PySem.Challenge.rw_oc0301_01.row.prog w) A (execs (rtTurn.drop 1) (rtEnv L f cd)) Q E s := by
  w_on
  k_fill
  intro w mean mg mb A A₀ outer base h₀ L D2 D1 a d lx dl f cd m news s Q E es q K ln vs vl vt tn tok C X F hs hn hq N hl hret
  obtain ⟨B, X, T, O, hA, hd, hu, hh⟩ := C
  obtain ⟨ah, ad, af, ag, au⟩ := A
  dsimp only at hA hh hd
  subst hA hh
  obtain ⟨l0, l0b, l1, l2, l3, l4, l5⟩ := O
  have hc2 : (S tok).length ≤ 17 := by rw [S_len]; exact hl
  show wpAny _ _ (execs (Stmt.If _ _ _ _ :: _) _) _ _ _
  k_steps
  all_goals try dsimp only at *
  rename News _ _ _ _ => NZ
  exact hret _ _ _ _ _ _ _ (by assumption) (by exact hs) (by first | exact rfl | exact hq) NZ
/-- a word opens -/
theorem tB97 : ∀ {w : World} {mean : ExcName → Option Value} {mg mb : Str → Option Value} {A A₀ : Around} {outer : List Env} {base h₀ : Heap} {L D2 D1 a d lx dl f : Addr} {cd : Value} {m : Str → Option Value} {news : List (Addr × Obj)} {s : Shared} {Q : Flow → Shared → Prop} {E : Value → Shared → Prop} {es : List DictEntry} {q : Bool} {K : LK} {ln : Int} {vs vl vt tn : Tok} {tok : List Nat}
    (_ : RtCtx w mean mg mb A A₀ (rtEnv L f cd) outer base h₀ D2 D1 a d lx dl news) (_ : (KK w.params).In h₀) (_ : Fr h₀ L s.heap m) (_ : m (Str.ofString "self") = some (.ref lx)) (_ : m (Str.ofString "nextchar") = some (.str (Str.ofString "a") tn)) (_ : m (Str.ofString "quoted") = some (.bool q)) (_ : News h₀ L s.heap (lexLed D2 D1 a d lx dl es (lexEs w.params K a D1 D2 (.str (Str.ofString " ") vs) ln vl (S tok) vt) news)) (_ : tok.length ≤ 17)
    (_ : ∀ h' tk' m' ln' vl' vt' vs', Fr h₀ L h' m' → m' (Str.ofString "self") = some (.ref lx) → m' (Str.ofString "quoted") = some (.bool q) → News h₀ L h' (lexLed D2 D1 a d lx dl es (lexEs w.params K a D1 D2 (.str (Str.ofString "a") vs') ln' vl' (S [97]) vt') news) → Q .next { s with heap := h', toks := tk' }),
    wpAny (model PySem.Challenge.rw_oc0301_01.row.prog w) A (execs (rtTurn.drop 1) (rtEnv L f cd)) Q E s := by
  w_on
  k_fill
  intro w mean mg mb A A₀ outer base h₀ L D2 D1 a d lx dl f cd m news s Q E es q K ln vs vl vt tn tok C X F hs hn hq N hl hret
  obtain ⟨B, X, T, O, hA, hd, hu, hh⟩ := C
  obtain ⟨ah, ad, af, ag, au⟩ := A
  dsimp only at hA hh hd
  subst hA hh
  obtain ⟨l0, l0b, l1, l2, l3, l4, l5⟩ := O
  have hc2 : (S tok).length ≤ 17 := by rw [S_len]; exact hl
  show wpAny _ _ (execs (Stmt.If _ _ _ _ :: _) _) _ _ _
  k_steps
  all_goals try dsimp only at *
  rename News _ _ _ _ => NZ
  exact hret _ _ _ _ _ _ _ (by assumption) (by exact hs) (by first | exact rfl | exact hq) (by rw [← sg97]; exact NZ)
/-- a word opens -/
theorem tB37 : ∀ {w : World} {mean : ExcName → Option Value} {mg mb : Str → Option Value} {A A₀ : Around} {outer : List Env} {base h₀ : Heap} {L D2 D1 a d lx dl f : Addr} {cd : Value} {m : Str → Option Value} {news : List (Addr × Obj)} {s : Shared} {Q : Flow → Shared → Prop} {E : Value → Shared → Prop} {es : List DictEntry} {q : Bool} {K : LK} {ln : Int} {vs vl vt tn : Tok} {tok : List Nat}
    (_ : RtCtx w mean mg mb A A₀ (rtEnv L f cd) outer base h₀ D2 D1 a d lx dl news) (_ : (KK w.params).In h₀) (_ : Fr h₀ L s.heap m) (_ : m (Str.ofString "self") = some (.ref lx)) (_ : m (Str.ofString "nextchar") = some (.str (Str.ofString "%") tn)) (_ : m (Str.ofString "quoted") = some (.bool q)) (_ : News h₀ L s.heap (lexLed D2 D1 a d lx dl es (lexEs w.params K a D1 D2 (.str (Str.ofString " ") vs) ln vl (S tok) vt) news)) (_ : tok.length ≤ 17)
    (_ : ∀ h' tk' m' ln' vl' vt' vs', Fr h₀ L h' m' → m' (Str.ofString "self") = some (.ref lx) → m' (Str.ofString "quoted") = some (.bool q) → News h₀ L h' (lexLed D2 D1 a d lx dl es (lexEs w.params K a D1 D2 (.str (Str.ofString "a") vs') ln' vl' (S [37]) vt') news) → Q .next { s with heap := h', toks := tk' }),
    wpAny (model PySem.Challenge.rw_oc0301_01.row.prog w) A (execs (rtTurn.drop 1) (rtEnv L f cd)) Q E s := by
  w_on
  k_fill
  intro w mean mg mb A A₀ outer base h₀ L D2 D1 a d lx dl f cd m news s Q E es q K ln vs vl vt tn tok C X F hs hn hq N hl hret
  obtain ⟨B, X, T, O, hA, hd, hu, hh⟩ := C
  obtain ⟨ah, ad, af, ag, au⟩ := A
  dsimp only at hA hh hd
  subst hA hh
  obtain ⟨l0, l0b, l1, l2, l3, l4, l5⟩ := O
  have hc2 : (S tok).length ≤ 17 := by rw [S_len]; exact hl
  show wpAny _ _ (execs (Stmt.If _ _ _ _ :: _) _) _ _ _
  k_steps
  all_goals try dsimp only at *
  rename News _ _ _ _ => NZ
  exact hret _ _ _ _ _ _ _ (by assumption) (by exact hs) (by first | exact rfl | exact hq) (by rw [← sg37]; exact NZ)
/-- an apostrophe closes -/
theorem tC : ∀ {w : World} {mean : ExcName → Option Value} {mg mb : Str → Option Value} {A A₀ : Around} {outer : List Env} {base h₀ : Heap} {L D2 D1 a d lx dl f : Addr} {cd : Value} {m : Str → Option Value} {news : List (Addr × Obj)} {s : Shared} {Q : Flow → Shared → Prop} {E : Value → Shared → Prop} {es : List DictEntry} {q : Bool} {K : LK} {ln : Int} {vs vl vt tn : Tok} {tok : List Nat}
    (_ : RtCtx w mean mg mb A A₀ (rtEnv L f cd) outer base h₀ D2 D1 a d lx dl news) (_ : (KK w.params).In h₀) (_ : Fr h₀ L s.heap m) (_ : m (Str.ofString "self") = some (.ref lx)) (_ : m (Str.ofString "nextchar") = some (.str (Str.ofString "'") tn)) (_ : m (Str.ofString "quoted") = some (.bool q)) (_ : News h₀ L s.heap (lexLed D2 D1 a d lx dl es (lexEs w.params K a D1 D2 (.str (Str.ofString "'") vs) ln vl (S tok) vt) news)) (_ : tok.length ≤ 17)
    (_ : ∀ h' tk' m' ln' vl' vt' vs', Fr h₀ L h' m' → m' (Str.ofString "self") = some (.ref lx) → m' (Str.ofString "quoted") = some (.bool true) → News h₀ L h' (lexLed D2 D1 a d lx dl es (lexEs w.params K a D1 D2 (.str (Str.ofString "a") vs') ln' vl' (S tok) vt') news) → Q .next { s with heap := h', toks := tk' }),
    wpAny (model PySem.Challenge.rw_oc0301_01.row.prog w) A (execs (rtTurn.drop 1) (rtEnv L f cd)) Q E s := by
  w_on
  k_fill
  intro w mean mg mb A A₀ outer base h₀ L D2 D1 a d lx dl f cd m news s Q E es q K ln vs vl vt tn tok C X F hs hn hq N hl hret
  obtain ⟨B, X, T, O, hA, hd, hu, hh⟩ := C
  obtain ⟨ah, ad, af, ag, au⟩ := A
  dsimp only at hA hh hd
  subst hA hh
  obtain ⟨l0, l0b, l1, l2, l3, l4, l5⟩ := O
  have hc2 : (S tok).length ≤ 17 := by rw [S_len]; exact hl
  show wpAny _ _ (execs (Stmt.If _ _ _ _ :: _) _) _ _ _
  k_steps
  all_goals try dsimp only at *
  rename News _ _ _ _ => NZ
  exact hret _ _ _ _ _ _ _ (by assumption) (by exact hs) (by first | exact rfl | exact hq) NZ
end Lex2
end Mine
end TextLex2a
section TextLex2b
open PySem PySem.W PyProof.Rows PySem.Calls
set_option maxRecDepth 100000
set_option maxHeartbeats 8000000
set_option pp.deepTerms false
set_option pp.maxSteps 3000
namespace Mine
section Lex2
local macro_rules | `(tactic| walk_at "eval Name") => `(tactic| (k_here; k_dflt (refine' ld ?k1 ?k2 ?_; (case k1 => k_asm); (case k2 => first | exact rfl | assumption); k_whole)))
local macro_rules | `(tactic| k_all) => `(tactic| with_reducible assumption)
local macro_rules | `(tactic| k_room) => `(tactic| ((try simp only [depth_under_make, depth_under_kw, depth_in1, depth_deeper, depth_caller]); (try dsimp only); omega))
local macro_rules | `(tactic| walk_at "call ref") => `(tactic| (k_here; (with_reducible show wpAny _ _ (call (Value.ref 599) _) _ _ _); (refine Hold.out ?_)))
local macro_rules | `(tactic| walk_at "ite") => `(tactic| first
  | (with_reducible refine iteT ?hite ?_; (case hite => first | with_reducible assumption | decide +kernel))
  | (with_reducible refine iteF ?hite ?_; (case hite => first | with_reducible assumption | decide +kernel)))
/-- an apostrophe opens within a word -/
theorem tE39 : ∀ {w : World} {mean : ExcName → Option Value} {mg mb : Str → Option Value} {A A₀ : Around} {outer : List Env} {base h₀ : Heap} {L D2 D1 a d lx dl f : Addr} {cd : Value} {m : Str → Option Value} {news : List (Addr × Obj)} {s : Shared} {Q : Flow → Shared → Prop} {E : Value → Shared → Prop} {es : List DictEntry} {q : Bool} {K : LK} {ln : Int} {vs vl vt tn : Tok} {tok : List Nat}
    (_ : RtCtx w mean mg mb A A₀ (rtEnv L f cd) outer base h₀ D2 D1 a d lx dl news) (_ : (KK w.params).In h₀) (_ : Fr h₀ L s.heap m) (_ : m (Str.ofString "self") = some (.ref lx)) (_ : m (Str.ofString "nextchar") = some (.str (Str.ofString "'") tn)) (_ : m (Str.ofString "quoted") = some (.bool q)) (_ : News h₀ L s.heap (lexLed D2 D1 a d lx dl es (lexEs w.params K a D1 D2 (.str (Str.ofString "a") vs) ln vl (S tok) vt) news)) (_ : tok.length ≤ 17)
    (_ : ∀ h' tk' m' ln' vl' vt' vs', Fr h₀ L h' m' → m' (Str.ofString "self") = some (.ref lx) → m' (Str.ofString "quoted") = some (.bool q) → News h₀ L h' (lexLed D2 D1 a d lx dl es (lexEs w.params K a D1 D2 (.str (Str.ofString "'") vs') ln' vl' (S tok) vt') news) → Q .next { s with heap := h', toks := tk' }),
    wpAny (model PySem.Challenge.rw_oc0301_01.row.prog w) A (execs (rtTurn.drop 1) (rtEnv L f cd)) Q E s := by
  w_on
  k_fill
  intro w mean mg mb A A₀ outer base h₀ L D2 D1 a d lx dl f cd m news s Q E es q K ln vs vl vt tn tok C X F hs hn hq N hl hret
  obtain ⟨B, X, T, O, hA, hd, hu, hh⟩ := C
  obtain ⟨ah, ad, af, ag, au⟩ := A
  dsimp only at hA hh hd
  subst hA hh
  obtain ⟨l0, l0b, l1, l2, l3, l4, l5⟩ := O
  have hc2 : (S tok).length ≤ 17 := by rw [S_len]; exact hl
  show wpAny _ _ (execs (Stmt.If _ _ _ _ :: _) _) _ _ _
  k_steps
  all_goals try dsimp only at *
  rename News _ _ _ _ => NZ
  exact hret _ _ _ _ _ _ _ (by assumption) (by exact hs) (by first | exact rfl | exact hq) (fun p hp => NZ p (.tail _ hp))
/-- a quotation mark opens within a word -/
theorem tE34 : ∀ {w : World} {mean : ExcName → Option Value} {mg mb : Str → Option Value} {A A₀ : Around} {outer : List Env} {base h₀ : Heap} {L D2 D1 a d lx dl f : Addr} {cd : Value} {m : Str → Option Value} {news : List (Addr × Obj)} {s : Shared} {Q : Flow → Shared → Prop} {E : Value → Shared → Prop} {es : List DictEntry} {q : Bool} {K : LK} {ln : Int} {vs vl vt tn : Tok} {tok : List Nat}
    (_ : RtCtx w mean mg mb A A₀ (rtEnv L f cd) outer base h₀ D2 D1 a d lx dl news) (_ : (KK w.params).In h₀) (_ : Fr h₀ L s.heap m) (_ : m (Str.ofString "self") = some (.ref lx)) (_ : m (Str.ofString "nextchar") = some (.str (Str.ofString "\"") tn)) (_ : m (Str.ofString "quoted") = some (.bool q)) (_ : News h₀ L s.heap (lexLed D2 D1 a d lx dl es (lexEs w.params K a D1 D2 (.str (Str.ofString "a") vs) ln vl (S tok) vt) news)) (_ : tok.length ≤ 17)
    (_ : ∀ h' tk' m' ln' vl' vt' vs', Fr h₀ L h' m' → m' (Str.ofString "self") = some (.ref lx) → m' (Str.ofString "quoted") = some (.bool q) → News h₀ L h' (lexLed D2 D1 a d lx dl es (lexEs w.params K a D1 D2 (.str (Str.ofString "\"") vs') ln' vl' (S tok) vt') news) → Q .next { s with heap := h', toks := tk' }),
    wpAny (model PySem.Challenge.rw_oc0301_01.row.prog w) A (execs (rtTurn.drop 1) (rtEnv L f cd)) Q E s := by
  w_on
  k_fill
  intro w mean mg mb A A₀ outer base h₀ L D2 D1 a d lx dl f cd m news s Q E es q K ln vs vl vt tn tok C X F hs hn hq N hl hret
  obtain ⟨B, X, T, O, hA, hd, hu, hh⟩ := C
  obtain ⟨ah, ad, af, ag, au⟩ := A
  dsimp only at hA hh hd
  subst hA hh
  obtain ⟨l0, l0b, l1, l2, l3, l4, l5⟩ := O
  have hc2 : (S tok).length ≤ 17 := by rw [S_len]; exact hl
  show wpAny _ _ (execs (Stmt.If _ _ _ _ :: _) _) _ _ _
  k_steps
  all_goals try dsimp only at *
  rename News _ _ _ _ => NZ
  exact hret _ _ _ _ _ _ _ (by assumption) (by exact hs) (by first | exact rfl | exact hq) (fun p hp => NZ p (.tail _ hp))
/-- a word goes on -/
theorem tF97 : ∀ {w : World} {mean : ExcName → Option Value} {mg mb : Str → Option Value} {A A₀ : Around} {outer : List Env} {base h₀ : Heap} {L D2 D1 a d lx dl f : Addr} {cd : Value} {m : Str → Option Value} {news : List (Addr × Obj)} {s : Shared} {Q : Flow → Shared → Prop} {E : Value → Shared → Prop} {es : List DictEntry} {q : Bool} {K : LK} {ln : Int} {vs vl vt tn : Tok} {tok : List Nat}
    (_ : RtCtx w mean mg mb A A₀ (rtEnv L f cd) outer base h₀ D2 D1 a d lx dl news) (_ : (KK w.params).In h₀) (_ : Fr h₀ L s.heap m) (_ : m (Str.ofString "self") = some (.ref lx)) (_ : m (Str.ofString "nextchar") = some (.str (Str.ofString "a") tn)) (_ : m (Str.ofString "quoted") = some (.bool q)) (_ : News h₀ L s.heap (lexLed D2 D1 a d lx dl es (lexEs w.params K a D1 D2 (.str (Str.ofString "a") vs) ln vl (S tok) vt) news)) (_ : tok.length ≤ 17)
    (_ : ∀ h' tk' m' ln' vl' vt', Fr h₀ L h' m' → m' (Str.ofString "self") = some (.ref lx) → m' (Str.ofString "quoted") = some (.bool q) → News h₀ L h' (lexLed D2 D1 a d lx dl es (lexEs w.params K a D1 D2 (.str (Str.ofString "a") vs) ln' vl' (S (tok ++ [97])) vt') news) → Q .next { s with heap := h', toks := tk' }),
    wpAny (model PySem.Challenge.rw_oc0301_01.row.prog w) A (execs (rtTurn.drop 1) (rtEnv L f cd)) Q E s := by
  w_on
  k_fill
  intro w mean mg mb A A₀ outer base h₀ L D2 D1 a d lx dl f cd m news s Q E es q K ln vs vl vt tn tok C X F hs hn hq N hl hret
  obtain ⟨B, X, T, O, hA, hd, hu, hh⟩ := C
  obtain ⟨ah, ad, af, ag, au⟩ := A
  dsimp only at hA hh hd
  subst hA hh
  obtain ⟨l0, l0b, l1, l2, l3, l4, l5⟩ := O
  have hc2 : (S tok).length ≤ 17 := by rw [S_len]; exact hl
  show wpAny _ _ (execs (Stmt.If _ _ _ _ :: _) _) _ _ _
  k_steps
  all_goals try dsimp only at *
  rename News _ _ _ _ => NZ
  exact hret _ _ _ _ _ _ (by assumption) (by exact hs) (by first | exact rfl | exact hq) (by rw [← S_append', ← sg97]; exact (fun p hp => NZ p (.tail _ hp)))
/-- a word goes on -/
theorem tF37 : ∀ {w : World} {mean : ExcName → Option Value} {mg mb : Str → Option Value} {A A₀ : Around} {outer : List Env} {base h₀ : Heap} {L D2 D1 a d lx dl f : Addr} {cd : Value} {m : Str → Option Value} {news : List (Addr × Obj)} {s : Shared} {Q : Flow → Shared → Prop} {E : Value → Shared → Prop} {es : List DictEntry} {q : Bool} {K : LK} {ln : Int} {vs vl vt tn : Tok} {tok : List Nat}
    (_ : RtCtx w mean mg mb A A₀ (rtEnv L f cd) outer base h₀ D2 D1 a d lx dl news) (_ : (KK w.params).In h₀) (_ : Fr h₀ L s.heap m) (_ : m (Str.ofString "self") = some (.ref lx)) (_ : m (Str.ofString "nextchar") = some (.str (Str.ofString "%") tn)) (_ : m (Str.ofString "quoted") = some (.bool q)) (_ : News h₀ L s.heap (lexLed D2 D1 a d lx dl es (lexEs w.params K a D1 D2 (.str (Str.ofString "a") vs) ln vl (S tok) vt) news)) (_ : tok.length ≤ 17)
    (_ : ∀ h' tk' m' ln' vl' vt', Fr h₀ L h' m' → m' (Str.ofString "self") = some (.ref lx) → m' (Str.ofString "quoted") = some (.bool q) → News h₀ L h' (lexLed D2 D1 a d lx dl es (lexEs w.params K a D1 D2 (.str (Str.ofString "a") vs) ln' vl' (S (tok ++ [37])) vt') news) → Q .next { s with heap := h', toks := tk' }),
    wpAny (model PySem.Challenge.rw_oc0301_01.row.prog w) A (execs (rtTurn.drop 1) (rtEnv L f cd)) Q E s := by
  w_on
  k_fill
  intro w mean mg mb A A₀ outer base h₀ L D2 D1 a d lx dl f cd m news s Q E es q K ln vs vl vt tn tok C X F hs hn hq N hl hret
  obtain ⟨B, X, T, O, hA, hd, hu, hh⟩ := C
  obtain ⟨ah, ad, af, ag, au⟩ := A
  dsimp only at hA hh hd
  subst hA hh
  obtain ⟨l0, l0b, l1, l2, l3, l4, l5⟩ := O
  have hc2 : (S tok).length ≤ 17 := by rw [S_len]; exact hl
  show wpAny _ _ (execs (Stmt.If _ _ _ _ :: _) _) _ _ _
  k_steps
  all_goals try dsimp only at *
  rename News _ _ _ _ => NZ
  exact hret _ _ _ _ _ _ (by assumption) (by exact hs) (by first | exact rfl | exact hq) (by rw [← S_append', ← sg37]; exact (fun p hp => NZ p (.tail _ hp)))
end Lex2
end Mine
end TextLex2b
section TextLex2c
open PySem PySem.W PyProof.Rows PySem.Calls
set_option maxRecDepth 100000
set_option maxHeartbeats 8000000
set_option pp.deepTerms false
set_option pp.maxSteps 3000
namespace Mine
local macro_rules | `(tactic| walk_at "pad") => `(tactic| skip)
section Lex2
local macro_rules | `(tactic| walk_at "eval Name") => `(tactic| (k_here; k_dflt (refine' ld ?k1 ?k2 ?_; (case k1 => k_asm); (case k2 => first | exact rfl | assumption); k_whole)))
local macro_rules | `(tactic| k_all) => `(tactic| with_reducible assumption)
local macro_rules | `(tactic| k_room) => `(tactic| ((try simp only [depth_under_make, depth_under_kw, depth_in1, depth_deeper, depth_caller]); (try dsimp only); omega))
local macro_rules | `(tactic| walk_at "call ref") => `(tactic| (k_here; (with_reducible show wpAny _ _ (call (Value.ref 599) _) _ _ _); (refine Hold.out ?_)))
local macro_rules | `(tactic| walk_at "ite") => `(tactic| first
  | (with_reducible refine iteT ?hite ?_; (case hite => first | with_reducible assumption | decide +kernel))
  | (with_reducible refine iteF ?hite ?_; (case hite => first | with_reducible assumption | decide +kernel)))
/-- a quotation mark closes -/
theorem tG34 : ∀ {w : World} {mean : ExcName → Option Value} {mg mb : Str → Option Value} {A A₀ : Around} {outer : List Env} {base h₀ : Heap} {L D2 D1 a d lx dl f : Addr} {cd : Value} {m : Str → Option Value} {news : List (Addr × Obj)} {s : Shared} {Q : Flow → Shared → Prop} {E : Value → Shared → Prop} {es : List DictEntry} {q : Bool} {K : LK} {ln : Int} {vs vl vt tn : Tok} {tok : List Nat}
    (_ : RtCtx w mean mg mb A A₀ (rtEnv L f cd) outer base h₀ D2 D1 a d lx dl news) (_ : (KK w.params).In h₀) (_ : Fr h₀ L s.heap m) (_ : m (Str.ofString "self") = some (.ref lx)) (_ : m (Str.ofString "nextchar") = some (.str (Str.ofString "\"") tn)) (_ : m (Str.ofString "quoted") = some (.bool q)) (_ : News h₀ L s.heap (lexLed D2 D1 a d lx dl es (lexEs w.params K a D1 D2 (.str (Str.ofString "\"") vs) ln vl (S tok) vt) news)) (_ : tok.length ≤ 17)
    (_ : ∀ h' tk' m' ln' vl' vt' vs', Fr h₀ L h' m' → m' (Str.ofString "self") = some (.ref lx) → m' (Str.ofString "quoted") = some (.bool true) → News h₀ L h' (lexLed D2 D1 a d lx dl es (lexEs w.params K a D1 D2 (.str (Str.ofString "a") vs') ln' vl' (S tok) vt') news) → Q .next { s with heap := h', toks := tk' }),
    wpAny (model PySem.Challenge.rw_oc0301_01.row.prog w) A (execs (rtTurn.drop 1) (rtEnv L f cd)) Q E s := by
  w_on
  k_fill
  intro w mean mg mb A A₀ outer base h₀ L D2 D1 a d lx dl f cd m news s Q E es q K ln vs vl vt tn tok C X F hs hn hq N hl hret
  obtain ⟨B, X, T, O, hA, hd, hu, hh⟩ := C
  obtain ⟨ah, ad, af, ag, au⟩ := A
  dsimp only at hA hh hd
  subst hA hh
  obtain ⟨l0, l0b, l1, l2, l3, l4, l5⟩ := O
  have hc2 : (S tok).length ≤ 17 := by rw [S_len]; exact hl
  show wpAny _ _ (execs (Stmt.If _ _ _ _ :: _) _) _ _ _
  k_steps
  all_goals try dsimp only at *
  rename News _ _ _ _ => NZ
  exact hret _ _ _ _ _ _ _ (by assumption) (by exact hs) (by first | exact rfl | exact hq) NZ
/-- an apostrophe between quotation marks -/
theorem tG39 : ∀ {w : World} {mean : ExcName → Option Value} {mg mb : Str → Option Value} {A A₀ : Around} {outer : List Env} {base h₀ : Heap} {L D2 D1 a d lx dl f : Addr} {cd : Value} {m : Str → Option Value} {news : List (Addr × Obj)} {s : Shared} {Q : Flow → Shared → Prop} {E : Value → Shared → Prop} {es : List DictEntry} {q : Bool} {K : LK} {ln : Int} {vs vl vt tn : Tok} {tok : List Nat}
    (_ : RtCtx w mean mg mb A A₀ (rtEnv L f cd) outer base h₀ D2 D1 a d lx dl news) (_ : (KK w.params).In h₀) (_ : Fr h₀ L s.heap m) (_ : m (Str.ofString "self") = some (.ref lx)) (_ : m (Str.ofString "nextchar") = some (.str (Str.ofString "'") tn)) (_ : m (Str.ofString "quoted") = some (.bool q)) (_ : News h₀ L s.heap (lexLed D2 D1 a d lx dl es (lexEs w.params K a D1 D2 (.str (Str.ofString "\"") vs) ln vl (S tok) vt) news)) (_ : tok.length ≤ 17)
    (_ : ∀ h' tk' m' ln' vl' vt', Fr h₀ L h' m' → m' (Str.ofString "self") = some (.ref lx) → m' (Str.ofString "quoted") = some (.bool true) → News h₀ L h' (lexLed D2 D1 a d lx dl es (lexEs w.params K a D1 D2 (.str (Str.ofString "\"") vs) ln' vl' (S (tok ++ [39])) vt') news) → Q .next { s with heap := h', toks := tk' }),
    wpAny (model PySem.Challenge.rw_oc0301_01.row.prog w) A (execs (rtTurn.drop 1) (rtEnv L f cd)) Q E s := by
  w_on
  k_fill
  intro w mean mg mb A A₀ outer base h₀ L D2 D1 a d lx dl f cd m news s Q E es q K ln vs vl vt tn tok C X F hs hn hq N hl hret
  obtain ⟨B, X, T, O, hA, hd, hu, hh⟩ := C
  obtain ⟨ah, ad, af, ag, au⟩ := A
  dsimp only at hA hh hd
  subst hA hh
  obtain ⟨l0, l0b, l1, l2, l3, l4, l5⟩ := O
  have hc2 : (S tok).length ≤ 17 := by rw [S_len]; exact hl
  show wpAny _ _ (execs (Stmt.If _ _ _ _ :: _) _) _ _ _
  k_steps
  all_goals try dsimp only at *
  rename News _ _ _ _ => NZ
  exact hret _ _ _ _ _ _ (by assumption) (by exact hs) (by first | exact rfl | exact hq) (by rw [← S_append', ← sg39]; exact NZ)
/-- the end behind a word -/
theorem tH : ∀ {w : World} {mean : ExcName → Option Value} {mg mb : Str → Option Value} {A A₀ : Around} {outer : List Env} {base h₀ : Heap} {L D2 D1 a d lx dl f : Addr} {cd : Value} {m : Str → Option Value} {news : List (Addr × Obj)} {s : Shared} {Q : Flow → Shared → Prop} {E : Value → Shared → Prop} {es : List DictEntry} {q : Bool} {K : LK} {ln : Int} {vs vl vt tn : Tok} {tok : List Nat}
    (_ : RtCtx w mean mg mb A A₀ (rtEnv L f cd) outer base h₀ D2 D1 a d lx dl news) (_ : (KK w.params).In h₀) (_ : Fr h₀ L s.heap m) (_ : m (Str.ofString "self") = some (.ref lx)) (_ : m (Str.ofString "nextchar") = some (.str (Str.ofString "") tn)) (_ : m (Str.ofString "quoted") = some (.bool q)) (_ : News h₀ L s.heap (lexLed D2 D1 a d lx dl es (lexEs w.params K a D1 D2 (.str (Str.ofString "a") vs) ln vl (S tok) vt) news)) (_ : tok.length ≤ 17)
    (_ : ∀ h' tk' m' ln' vl' vt', Fr h₀ L h' m' → m' (Str.ofString "self") = some (.ref lx) → m' (Str.ofString "quoted") = some (.bool q) → News h₀ L h' (lexLed D2 D1 a d lx dl es (lexEs w.params K a D1 D2 .none ln' vl' (S tok) vt') news) → Q .brk { s with heap := h', toks := tk' }),
    wpAny (model PySem.Challenge.rw_oc0301_01.row.prog w) A (execs (rtTurn.drop 1) (rtEnv L f cd)) Q E s := by
  w_on
  k_fill
  intro w mean mg mb A A₀ outer base h₀ L D2 D1 a d lx dl f cd m news s Q E es q K ln vs vl vt tn tok C X F hs hn hq N hl hret
  obtain ⟨B, X, T, O, hA, hd, hu, hh⟩ := C
  obtain ⟨ah, ad, af, ag, au⟩ := A
  dsimp only at hA hh hd
  subst hA hh
  obtain ⟨l0, l0b, l1, l2, l3, l4, l5⟩ := O
  have hc2 : (S tok).length ≤ 17 := by rw [S_len]; exact hl
  show wpAny _ _ (execs (Stmt.If _ _ _ _ :: _) _) _ _ _
  k_steps
  all_goals try dsimp only at *
  rename News _ _ _ _ => NZ
  exact hret _ _ _ _ _ _ (by assumption) (by exact hs) (by first | exact rfl | exact hq) (fun p hp => NZ p (.tail _ hp))
/-- the end again -/
theorem tI : ∀ {w : World} {mean : ExcName → Option Value} {mg mb : Str → Option Value} {A A₀ : Around} {outer : List Env} {base h₀ : Heap} {L D2 D1 a d lx dl f : Addr} {cd : Value} {m : Str → Option Value} {news : List (Addr × Obj)} {s : Shared} {Q : Flow → Shared → Prop} {E : Value → Shared → Prop} {es : List DictEntry} {q : Bool} {K : LK} {ln : Int} {vs vl vt tn : Tok} {tok : List Nat}
    (_ : RtCtx w mean mg mb A A₀ (rtEnv L f cd) outer base h₀ D2 D1 a d lx dl news) (_ : (KK w.params).In h₀) (_ : Fr h₀ L s.heap m) (_ : m (Str.ofString "self") = some (.ref lx)) (_ : m (Str.ofString "nextchar") = some (.str (Str.ofString "") tn)) (_ : m (Str.ofString "quoted") = some (.bool q)) (_ : News h₀ L s.heap (lexLed D2 D1 a d lx dl es (lexEs w.params K a D1 D2 .none ln vl (S tok) vt) news)) (_ : tok.length ≤ 17)
    (_ : ∀ h' tk' m' ln' vl' vt', Fr h₀ L h' m' → m' (Str.ofString "self") = some (.ref lx) → m' (Str.ofString "quoted") = some (.bool q) → News h₀ L h' (lexLed D2 D1 a d lx dl es (lexEs w.params K a D1 D2 .none ln' vl' (Str.ofString "") vt') news) → Q .brk { s with heap := h', toks := tk' }),
    wpAny (model PySem.Challenge.rw_oc0301_01.row.prog w) A (execs (rtTurn.drop 1) (rtEnv L f cd)) Q E s := by
  w_on
  k_fill
  intro w mean mg mb A A₀ outer base h₀ L D2 D1 a d lx dl f cd m news s Q E es q K ln vs vl vt tn tok C X F hs hn hq N hl hret
  obtain ⟨B, X, T, O, hA, hd, hu, hh⟩ := C
  obtain ⟨ah, ad, af, ag, au⟩ := A
  dsimp only at hA hh hd
  subst hA hh
  obtain ⟨l0, l0b, l1, l2, l3, l4, l5⟩ := O
  have hc2 : (S tok).length ≤ 17 := by rw [S_len]; exact hl
  show wpAny _ _ (execs (Stmt.If _ _ _ _ :: _) _) _ _ _
  k_steps
  all_goals try dsimp only at *
  rename News _ _ _ _ => NZ
  exact hret _ _ _ _ _ _ (by assumption) (by exact hs) (by first | exact rfl | exact hq) NZ
end Lex2
end Mine
end TextLex2c
section TextLex3
open PySem PySem.W PyProof.Rows PySem.Calls
set_option maxRecDepth 100000
set_option maxHeartbeats 8000000
set_option pp.deepTerms false
set_option pp.maxSteps 3000
namespace Mine
section Lex3
local macro_rules | `(tactic| walk_at "eval Name") => `(tactic| (k_here; k_dflt (refine' ld ?k1 ?k2 ?_; (case k1 => k_asm); (case k2 => first | exact rfl | assumption); k_whole)))
theorem rt_test : ∀ {w : World} {h₀ : Heap} {L f : Addr} {m : Str → Option Value} {s : Shared} {A : Around} {E : Value → Shared → Prop} {Q : Bool → Shared → Prop} {cd : Value}
    (_ : (KK w.params).In h₀) (_ : Fr h₀ L s.heap m) (_ : ∀ tk', Q true { s with toks := tk' }),
    wpAny (model PySem.Challenge.rw_oc0301_01.row.prog w) A (isTrue (whileTest rtW) (rtEnv L f cd) (eval (whileTest rtW) (rtEnv L f cd))) Q E s := by
  w_on
  k_fill
  intro w h₀ L f m s A E Q cd X F h
  show wpAny _ _ (isTrue (Expr.Constant _ _ _) _ (eval (Expr.Constant _ _ _) _)) _ _ _
  k_steps
  exact h _
def stV : Option Str → Tok → Value
  | none, _ => .none
  | some x, v => .str x v
variable {w : World} {mean : ExcName → Option Value} {mg mb : Str → Option Value} {A A₀ : Around} {outer : List Env} {base h₀ : Heap} {L D2 D1 a d lx dl f : Addr} {cd : Value} {news : List (Addr × Obj)} {s : Shared} {Q : Flow → Shared → Prop} {K : LK} {k1 k2 k3 t1 t2 : Tok}
/-- the lexer's loop from here on -/
def Rt (w : World) (A : Around) (h₀ : Heap) (L D2 D1 a d lx dl f : Addr) (cd : Value) (news : List (Addr × Obj)) (s : Shared) (Q : Flow → Shared → Prop) (K : LK) (k1 k2 k3 t1 t2 : Tok) (pre post : List Nat) (st : Option Str) (tok : List Nat) (q : Bool) : Prop :=
  ∀ h tk m t3 vs ln vl vt, Fr h₀ L h m → m (Str.ofString "self") = some (.ref lx) → m (Str.ofString "quoted") = some (.bool q) → News h₀ L h (lexLed D2 D1 a d lx dl (sioEs w.params (S (pre ++ post)) (pre.length : Int) k1 k2 k3 t1 t2 t3) (lexEs w.params K a D1 D2 (stV st vs) ln vl (S tok) vt) news) →
    WhlRest PySem.Challenge.rw_oc0301_01.row.prog w A (fun _ _ => False) (rtEnv L f cd) (whileTest rtW) rtTurn [] Q 0 { s with heap := h, toks := tk }
/-- one turn -/
def Tn (w : World) (A : Around) (h₀ : Heap) (L D2 D1 a d lx dl f : Addr) (cd : Value) (news : List (Addr × Obj)) (K : LK) (c : Nat) (st st' : Option Str) (tok tok' : List Nat) (q q' : Bool) : Prop :=
  ∀ {s : Shared} {Q : Flow → Shared → Prop} {es : List DictEntry} {m : Str → Option Value} {tn vs vl vt : Tok} {ln : Int}, Fr h₀ L s.heap m → m (Str.ofString "self") = some (.ref lx) → m (Str.ofString "nextchar") = some (.str (S [c]) tn) → m (Str.ofString "quoted") = some (.bool q) → News h₀ L s.heap (lexLed D2 D1 a d lx dl es (lexEs w.params K a D1 D2 (stV st vs) ln vl (S tok) vt) news) →
    (∀ h' tk' m' ln' vl' vt' vs', Fr h₀ L h' m' → m' (Str.ofString "self") = some (.ref lx) → m' (Str.ofString "quoted") = some (.bool q') → News h₀ L h' (lexLed D2 D1 a d lx dl es (lexEs w.params K a D1 D2 (stV st' vs') ln' vl' (S tok') vt') news) → Q .next { s with heap := h', toks := tk' }) →
    wpAny (model PySem.Challenge.rw_oc0301_01.row.prog w) A (execs (rtTurn.drop 1) (rtEnv L f cd)) Q (fun _ _ => False) s
theorem rt_step (C : RtCtx w mean mg mb A A₀ (rtEnv L f cd) outer base h₀ D2 D1 a d lx dl news) {pre post : List Nat} {c : Nat} {st st' : Option Str} {tok tok' : List Nat} {q q' : Bool} (hl : pre.length + post.length ≤ 17)
    (t : Tn w A h₀ L D2 D1 a d lx dl f cd news K c st st' tok tok' q q') (r : Rt w A h₀ L D2 D1 a d lx dl f cd news s Q K k1 k2 k3 t1 t2 (pre ++ [c]) post st' tok' q') :
    Rt w A h₀ L D2 D1 a d lx dl f cd news s Q K k1 k2 k3 t1 t2 pre (c :: post) st tok q := by
  intro h tk m t3 vs ln vl vt F hs hq N
  refine whl_turn (k := 0) PassesOwn.never ?_
  refine rt_test C.X F fun tk1 => WhlIf.yes rfl ?_
  show wpAny _ _ (execs (rt0 :: rtTurn.drop 1) _) _ _ _
  refine rt0_sign C C.X F hs N hl ?_
  intro t3' h2 tk2 t' F2 N2
  refine t F2 hs rfl hq N2 ?_
  intro h3 tk3 m3 ln3 vl3 vt3 vs3 F3 hs3 hq3 N3
  have e1 : pre ++ c :: post = (pre ++ [c]) ++ post := by simp
  have e2 : (pre.length : Int) + 1 = ((pre ++ [c]).length : Int) := by simp
  rw [e1, e2] at N3
  exact r h3 tk3 m3 t3' vs3 ln3 vl3 vt3 F3 hs3 hq3 N3
theorem rt_end (C : RtCtx w mean mg mb A A₀ (rtEnv L f cd) outer base h₀ D2 D1 a d lx dl news) {x tok : List Nat} {q : Bool} (hx : x.length ≤ 18) (hl : tok.length ≤ 17)
    (r : ∀ h tk m t3 ln vl vt, Fr h₀ L h m → m (Str.ofString "self") = some (.ref lx) → m (Str.ofString "quoted") = some (.bool q) → News h₀ L h (lexLed D2 D1 a d lx dl (sioEs w.params (S x) (x.length : Int) k1 k2 k3 t1 t2 t3) (lexEs w.params K a D1 D2 .none ln vl (S tok) vt) news) → Q .next { s with heap := h, toks := tk }) :
    Rt w A h₀ L D2 D1 a d lx dl f cd news s Q K k1 k2 k3 t1 t2 x [] (some (Str.ofString "a")) tok q := by
  intro h tk m t3 vs ln vl vt F hs hq N
  rw [List.append_nil] at N
  refine whl_turn (k := 0) PassesOwn.never ?_
  refine rt_test C.X F fun tk1 => WhlIf.yes rfl ?_
  show wpAny _ _ (execs (rt0 :: rtTurn.drop 1) _) _ _ _
  refine rt0_end C C.X F hs N hx ?_
  intro h2 tk2 t' F2 N2
  refine tH C C.X F2 (by exact hs) rfl (by exact hq) N2 hl ?_
  intro h3 tk3 m3 ln3 vl3 vt3 F3 hs3 hq3 N3
  exact r h3 tk3 m3 t3 ln3 vl3 vt3 F3 hs3 hq3 N3
/-- the second token: none -/
theorem rt_end2 (C : RtCtx w mean mg mb A A₀ (rtEnv L f cd) outer base h₀ D2 D1 a d lx dl news) {x tok : List Nat} {q : Bool} (hx : x.length ≤ 18) (hl : tok.length ≤ 17)
    (r : ∀ h tk m t3 ln vl vt, Fr h₀ L h m → m (Str.ofString "self") = some (.ref lx) → m (Str.ofString "quoted") = some (.bool q) → News h₀ L h (lexLed D2 D1 a d lx dl (sioEs w.params (S x) (x.length : Int) k1 k2 k3 t1 t2 t3) (lexEs w.params K a D1 D2 .none ln vl (Str.ofString "") vt) news) → Q .next { s with heap := h, toks := tk }) :
    Rt w A h₀ L D2 D1 a d lx dl f cd news s Q K k1 k2 k3 t1 t2 x [] none tok q := by
  intro h tk m t3 vs ln vl vt F hs hq N
  rw [List.append_nil] at N
  refine whl_turn (k := 0) PassesOwn.never ?_
  refine rt_test C.X F fun tk1 => WhlIf.yes rfl ?_
  show wpAny _ _ (execs (rt0 :: rtTurn.drop 1) _) _ _ _
  refine rt0_end C C.X F hs N hx ?_
  intro h2 tk2 t' F2 N2
  refine tI (vs := 0) C C.X F2 (by exact hs) rfl (by exact hq) N2 hl ?_
  intro h3 tk3 m3 ln3 vl3 vt3 F3 hs3 hq3 N3
  exact r h3 tk3 m3 t3 ln3 vl3 vt3 F3 hs3 hq3 N3
section Tns
variable (C : RtCtx w mean mg mb A A₀ (rtEnv L f cd) outer base h₀ D2 D1 a d lx dl news) {tok : List Nat} {q : Bool} (hl : tok.length ≤ 17)
include C hl
theorem nA : Tn w A h₀ L D2 D1 a d lx dl f cd news K 39 (some (Str.ofString " ")) (some (Str.ofString "'")) tok tok q q :=
  fun F hs hn hq N h => tA C C.X F hs (by rw [sg39]; exact hn) hq N hl fun h' tk' m' ln' vl' vt' vs' F' hs' hq' N' => h h' tk' m' ln' vl' vt' vs' F' hs' hq' N'
theorem nB97 : Tn w A h₀ L D2 D1 a d lx dl f cd news K 97 (some (Str.ofString " ")) (some (Str.ofString "a")) tok [97] q q :=
  fun F hs hn hq N h => tB97 C C.X F hs (by rw [sg97]; exact hn) hq N hl fun h' tk' m' ln' vl' vt' vs' F' hs' hq' N' => h h' tk' m' ln' vl' vt' vs' F' hs' hq' N'
theorem nB37 : Tn w A h₀ L D2 D1 a d lx dl f cd news K 37 (some (Str.ofString " ")) (some (Str.ofString "a")) tok [37] q q :=
  fun F hs hn hq N h => tB37 C C.X F hs (by rw [sg37]; exact hn) hq N hl fun h' tk' m' ln' vl' vt' vs' F' hs' hq' N' => h h' tk' m' ln' vl' vt' vs' F' hs' hq' N'
theorem nC : Tn w A h₀ L D2 D1 a d lx dl f cd news K 39 (some (Str.ofString "'")) (some (Str.ofString "a")) tok tok q true :=
  fun F hs hn hq N h => tC C C.X F hs (by rw [sg39]; exact hn) hq N hl fun h' tk' m' ln' vl' vt' vs' F' hs' hq' N' => h h' tk' m' ln' vl' vt' vs' F' hs' hq' N'
theorem nD {c : Nat} (hc : c ≠ 39) : Tn w A h₀ L D2 D1 a d lx dl f cd news K c (some (Str.ofString "'")) (some (Str.ofString "'")) tok (tok ++ [c]) q true :=
  fun F hs hn hq N h => tD C C.X F hs hn N hl hc fun h' tk' m' ln' vl' vt' F' hs' hq' N' => h h' tk' m' ln' vl' vt' _ F' hs' hq' N'
theorem nE39 : Tn w A h₀ L D2 D1 a d lx dl f cd news K 39 (some (Str.ofString "a")) (some (Str.ofString "'")) tok tok q q :=
  fun F hs hn hq N h => tE39 C C.X F hs (by rw [sg39]; exact hn) hq N hl fun h' tk' m' ln' vl' vt' vs' F' hs' hq' N' => h h' tk' m' ln' vl' vt' vs' F' hs' hq' N'
theorem nE34 : Tn w A h₀ L D2 D1 a d lx dl f cd news K 34 (some (Str.ofString "a")) (some (Str.ofString "\"")) tok tok q q :=
  fun F hs hn hq N h => tE34 C C.X F hs (by rw [sg34]; exact hn) hq N hl fun h' tk' m' ln' vl' vt' vs' F' hs' hq' N' => h h' tk' m' ln' vl' vt' vs' F' hs' hq' N'
theorem nF97 : Tn w A h₀ L D2 D1 a d lx dl f cd news K 97 (some (Str.ofString "a")) (some (Str.ofString "a")) tok (tok ++ [97]) q q :=
  fun F hs hn hq N h => tF97 C C.X F hs (by rw [sg97]; exact hn) hq N hl fun h' tk' m' ln' vl' vt' F' hs' hq' N' => h h' tk' m' ln' vl' vt' _ F' hs' hq' N'
theorem nF37 : Tn w A h₀ L D2 D1 a d lx dl f cd news K 37 (some (Str.ofString "a")) (some (Str.ofString "a")) tok (tok ++ [37]) q q :=
  fun F hs hn hq N h => tF37 C C.X F hs (by rw [sg37]; exact hn) hq N hl fun h' tk' m' ln' vl' vt' F' hs' hq' N' => h h' tk' m' ln' vl' vt' _ F' hs' hq' N'
theorem nG34 : Tn w A h₀ L D2 D1 a d lx dl f cd news K 34 (some (Str.ofString "\"")) (some (Str.ofString "a")) tok tok q true :=
  fun F hs hn hq N h => tG34 C C.X F hs (by rw [sg34]; exact hn) hq N hl fun h' tk' m' ln' vl' vt' vs' F' hs' hq' N' => h h' tk' m' ln' vl' vt' vs' F' hs' hq' N'
theorem nG39 : Tn w A h₀ L D2 D1 a d lx dl f cd news K 39 (some (Str.ofString "\"")) (some (Str.ofString "\"")) tok (tok ++ [39]) q true :=
  fun F hs hn hq N h => tG39 C C.X F hs (by rw [sg39]; exact hn) hq N hl fun h' tk' m' ln' vl' vt' F' hs' hq' N' => h h' tk' m' ln' vl' vt' _ F' hs' hq' N'
end Tns
/-- a plain word's rest -/
theorem rt_plain (C : RtCtx w mean mg mb A A₀ (rtEnv L f cd) outer base h₀ D2 D1 a d lx dl news) {q : Bool} : ∀ (post pre tok : List Nat), (∀ c ∈ post, c = 97 ∨ c = 37) → pre.length + post.length ≤ 17 → tok.length + post.length ≤ 17 →
    Rt w A h₀ L D2 D1 a d lx dl f cd news s Q K k1 k2 k3 t1 t2 (pre ++ post) [] (some (Str.ofString "a")) (tok ++ post) q → Rt w A h₀ L D2 D1 a d lx dl f cd news s Q K k1 k2 k3 t1 t2 pre post (some (Str.ofString "a")) tok q
  | [], pre, tok, _, _, _, r => by simpa using r
  | c :: post, pre, tok, hp, h1, h2, r => by
    simp only [List.length_cons] at h1 h2
    have e1 : pre ++ c :: post = (pre ++ [c]) ++ post := by simp
    have e2 : tok ++ c :: post = (tok ++ [c]) ++ post := by simp
    rw [e1, e2] at r
    have ih := rt_plain C post (pre ++ [c]) (tok ++ [c]) (fun x hx => hp x (.tail _ hx)) (by simp; omega) (by simp; omega) r
    rcases hp c (.head _) with rfl | rfl
    · exact rt_step C (by omega) (nF97 C (by omega)) ih
    · exact rt_step C (by omega) (nF37 C (by omega)) ih
/-- the rest of a word between apostrophes -/
theorem rt_quoted (C : RtCtx w mean mg mb A A₀ (rtEnv L f cd) outer base h₀ D2 D1 a d lx dl news) : ∀ (l pre tok : List Nat) (q : Bool), pre.length + 5 * l.length + 1 ≤ 17 → tok.length + l.length ≤ 17 →
    Rt w A h₀ L D2 D1 a d lx dl f cd news s Q K k1 k2 k3 t1 t2 (pre ++ (rep 39 [39, 34, 39, 34, 39] l ++ [39])) [] (some (Str.ofString "a")) (tok ++ l) true → Rt w A h₀ L D2 D1 a d lx dl f cd news s Q K k1 k2 k3 t1 t2 pre (rep 39 [39, 34, 39, 34, 39] l ++ [39]) (some (Str.ofString "'")) tok q
  | [], pre, tok, q, h1, h2, r => by
    have e : rep 39 [39, 34, 39, 34, 39] [] ++ [39] = [39] := rfl
    rw [e] at r ⊢
    rw [List.append_nil] at r
    exact rt_step C (by simp at h1 ⊢; omega) (nC C (by simp at h2; omega)) r
  | c :: l, pre, tok, q, h1, h2, r => by
    have hlen := rep_len 39 [39, 34, 39, 34, 39] 5 (by decide) (by decide) l
    simp only [List.length_cons] at h1 h2
    by_cases hc : c = 39
    · subst hc
      have e : rep 39 [39, 34, 39, 34, 39] (39 :: l) ++ [39] = 39 :: 34 :: 39 :: 34 :: 39 :: (rep 39 [39, 34, 39, 34, 39] l ++ [39]) := rfl
      rw [e] at r ⊢
      have e1 : pre ++ 39 :: 34 :: 39 :: 34 :: 39 :: (rep 39 [39, 34, 39, 34, 39] l ++ [39]) = (((((pre ++ [39]) ++ [34]) ++ [39]) ++ [34]) ++ [39]) ++ (rep 39 [39, 34, 39, 34, 39] l ++ [39]) := by simp
      have e2 : tok ++ 39 :: l = (tok ++ [39]) ++ l := by simp
      rw [e1, e2] at r
      have ih := rt_quoted C l (((((pre ++ [39]) ++ [34]) ++ [39]) ++ [34]) ++ [39]) (tok ++ [39]) true (by simp; omega) (by simp; omega) r
      refine rt_step C (by simp; omega) (nC C (by omega)) ?_
      refine rt_step C (by simp; omega) (nE34 C (by omega)) ?_
      refine rt_step C (by simp; omega) (nG39 C (by omega)) ?_
      refine rt_step C (by simp; omega) (nG34 C (by simp; omega)) ?_
      exact rt_step C (by simp; omega) (nE39 C (by simp; omega)) ih
    · have e : rep 39 [39, 34, 39, 34, 39] (c :: l) ++ [39] = c :: (rep 39 [39, 34, 39, 34, 39] l ++ [39]) := by
        show (if c = 39 then _ else [c]) ++ _ ++ _ = _
        rw [if_neg hc]; rfl
      rw [e] at r ⊢
      have e1 : pre ++ c :: (rep 39 [39, 34, 39, 34, 39] l ++ [39]) = (pre ++ [c]) ++ (rep 39 [39, 34, 39, 34, 39] l ++ [39]) := by simp
      have e2 : tok ++ c :: l = (tok ++ [c]) ++ l := by simp
      rw [e1, e2] at r
      have ih := rt_quoted C l (pre ++ [c]) (tok ++ [c]) true (by simp; omega) (by simp; omega) r
      exact rt_step C (by simp; omega) (nD C (by omega) hc) ih
/-- the whole of a quoted word, from the start to the end -/
theorem rt_word (C : RtCtx w mean mg mb A A₀ (rtEnv L f cd) outer base h₀ D2 D1 a d lx dl news) {l : List Nat} (hl : IsWord l)
    (r : ∀ q h tk m t3 ln vl vt, (l = [] → q = true) → Fr h₀ L h m → m (Str.ofString "self") = some (.ref lx) → m (Str.ofString "quoted") = some (.bool q) → News h₀ L h (lexLed D2 D1 a d lx dl (sioEs w.params (S (quoteF l)) ((quoteF l).length : Int) k1 k2 k3 t1 t2 t3) (lexEs w.params K a D1 D2 .none ln vl (S l) vt) news) → Q .next { s with heap := h, toks := tk }) :
    Rt w A h₀ L D2 D1 a d lx dl f cd news s Q K k1 k2 k3 t1 t2 [] (quoteF l) (some (Str.ofString " ")) [] false := by
  have h3 := hl.1
  have hrl := rep_len 39 [39, 34, 39, 34, 39] 5 (by decide) (by decide) l
  by_cases e : l ≠ [] ∧ l.all isSafe = true
  · have eq : quoteF l = l := by unfold quoteF; rw [if_neg e.1, if_pos e.2]
    rw [eq] at r ⊢
    obtain ⟨e1, e2⟩ := e
    have hp : ∀ c ∈ l, c = 97 ∨ c = 37 := fun c hc => by
      have := List.all_eq_true.mp e2 c hc
      simpa [isSafe] using this
    match l, e1 with
    | c :: t, _ =>
    have hfin : Rt w A h₀ L D2 D1 a d lx dl f cd news s Q K k1 k2 k3 t1 t2 (([] ++ [c]) ++ t) [] (some (Str.ofString "a")) ([c] ++ t) false :=
      rt_end C (by simp at h3 ⊢; omega) (by simp at h3 ⊢; omega) fun h tk m t3 ln vl vt F hs hq N => r false h tk m t3 ln vl vt (fun z => nomatch z) F hs hq N
    have hgo := rt_plain C t ([] ++ [c]) [c] (fun x hx => hp x (.tail _ hx)) (by simp at h3 ⊢; omega) (by simp at h3 ⊢; omega) hfin
    rcases hp c (.head _) with rfl | rfl
    · exact rt_step C (by simp at h3 ⊢; omega) (nB97 C (by simp)) hgo
    · exact rt_step C (by simp at h3 ⊢; omega) (nB37 C (by simp)) hgo
  · have eq : quoteF l = 39 :: (rep 39 [39, 34, 39, 34, 39] l ++ [39]) := by
      unfold quoteF
      by_cases e0 : l = []
      · subst e0; rfl
      · rw [if_neg e0, if_neg (fun z => e ⟨e0, z⟩)]
    rw [eq] at r ⊢
    have hfin : Rt w A h₀ L D2 D1 a d lx dl f cd news s Q K k1 k2 k3 t1 t2 (([] ++ [39]) ++ (rep 39 [39, 34, 39, 34, 39] l ++ [39])) [] (some (Str.ofString "a")) ([] ++ l) true :=
      rt_end C (by simp; omega) (by simp; omega) fun h tk m t3 ln vl vt F hs hq N => r true h tk m t3 ln vl vt (fun _ => rfl) F hs hq N
    have hgo := rt_quoted C l ([] ++ [39]) [] false (by simp; omega) (by simp; omega) hfin
    exact rt_step C (by simp; omega) (nA C (by simp)) hgo
end Lex3
end Mine
end TextLex3
section TextLex4
open PySem PySem.W PyProof.Rows PySem.Calls
set_option maxRecDepth 100000
set_option maxHeartbeats 8000000
set_option pp.deepTerms false
set_option pp.maxSteps 3000
namespace Mine
theorem S_ne' {l : List Nat} (h : l ≠ []) : S l ≠ Str.ofString "" := fun e => h (by
  have e2 : (S l).cps.toList = (Str.ofString "").cps.toList := by rw [e]
  have e3 : (Str.ofString "").cps.toList = [] := by decide +kernel
  rw [e3] at e2
  simpa using e2)
section Lex4
local macro_rules | `(tactic| walk_at "eval Name") => `(tactic| (k_here; k_dflt (refine' ld ?k1 ?k2 ?_; (case k1 => k_asm); (case k2 => first | exact rfl | assumption); k_whole)))
local macro_rules | `(tactic| k_all) => `(tactic| with_reducible assumption)
local macro_rules | `(tactic| k_room) => `(tactic| ((try simp only [depth_under_make, depth_under_kw, depth_in1, depth_deeper, depth_caller]); (try dsimp only); omega))
local macro_rules | `(tactic| walk_at "ite") => `(tactic| first
  | (with_reducible refine iteT ?hite ?_; (case hite => first | with_reducible assumption | decide +kernel))
  | (with_reducible refine iteF ?hite ?_; (case hite => first | with_reducible assumption | decide +kernel)))
local macro_rules | `(tactic| walk_at "enter") => `(tactic| (
  (case k6 => k_is)
  (case k7 => k_is)
  (case k9 => first | exact BindsTo.of_eq rfl | exact binds_K (by k_in) rfl (by k_is) rfl rfl rfl)
  (case c5 => decide)
  (case kB => exact locs rfl)
  (case c2 => exact rfl)
  (case c3 => exact rfl)
  (case c4 => exact rfl)))
local macro_rules | `(tactic| walk_at "exec While Constant cons nil") => `(tactic| (refine wpAny_noRaise (whl_start 0 (Hold.out ?_))))
/-- what a call within the lexer may lean on -/
structure LxCtx (w : World) (mean : ExcName → Option Value) (mg mb : Str → Option Value) (A A₀ : Around) (env : Env) (outer : List Env) (base h₀ : Heap) (L : Addr) (D2 D1 a d lx dl : Addr) (news : List (Addr × Obj)) (n : Nat) : Prop where
  B : Below A₀ base outer h₀
  X : (KK w.params).In h₀
  T : Top VQ (looseW VQ LQ) mean mg mb h₀
  O : LexOrd D2 D1 a d lx dl news
  fr : A.frames = some (env :: outer)
  fL : env.frame = some L
  kd : env.scope.kind = .function
  dp : A.depth + n < recursionLimit
  un : A.units + 5 * n < cLine
  hd : A.handled = none
theorem led0 {w : World} {h₀ h : Heap} {L D2 D1 a d lx dl : Addr} {news : List (Addr × Obj)} {es : List DictEntry} {K : LK} {st : Value} {ln : Int} {vl vt : Tok} (N : News h₀ L h (lexLed D2 D1 a d lx dl es (lexEs w.params K a D1 D2 st ln vl (Str.ofString "") vt) news)) :
    News h₀ L h (lexLed D2 D1 a d lx dl es (lexEs w.params K a D1 D2 st ln vl (S []) vt) news) :=
  (congrArg (fun t => News h₀ L h (lexLed D2 D1 a d lx dl es (lexEs w.params K a D1 D2 st ln vl t vt) news)) (show Str.ofString "" = S [] by decide +kernel)).mp N
theorem rtk_word : ∀ {w : World} {mean : ExcName → Option Value} {mg mb : Str → Option Value} {A A₀ : Around} {env : Env} {outer : List Env} {base h₀ : Heap} {L D2 D1 a d lx dl : Addr} {m : Str → Option Value} {news : List (Addr × Obj)} {s : Shared} {Q E : Value → Shared → Prop} {l : List Nat} {k1 k2 k3 t1 t2 t3 : Tok} {K : LK} {ln : Int} {vs vl vt : Tok}
    (_ : LxCtx w mean mg mb A A₀ env outer base h₀ L D2 D1 a d lx dl news 20) (_ : (KK w.params).In h₀) (_ : Fr h₀ L s.heap m) (_ : News h₀ L s.heap (lexLed D2 D1 a d lx dl (sioEs w.params (S (quoteF l)) 0 k1 k2 k3 t1 t2 t3) (lexEs w.params K a D1 D2 (.str (Str.ofString " ") vs) ln vl (Str.ofString "") vt) news)) (_ : IsWord l)
    (_ : ∀ h' tk' t3' ln' vl' vt' t', Fr h₀ L h' m → News h₀ L h' (lexLed D2 D1 a d lx dl (sioEs w.params (S (quoteF l)) ((quoteF l).length : Int) k1 k2 k3 t1 t2 t3') (lexEs w.params K a D1 D2 .none ln' vl' (Str.ofString "") vt') news) → Q (.str (S l) t') { s with heap := h', toks := tk' }),
    wpAny (model PySem.Challenge.rw_oc0301_01.row.prog w) A (call (.ref 756) [.ref lx]) Q E s := by
  w_on
  k_fill
  intro w mean mg mb A A₀ env outer base h₀ L D2 D1 a d lx dl m news s Q E l k1 k2 k3 t1 t2 t3 K ln vs vl vt C X F N hl hret
  obtain ⟨B, X, T, O, hA, hf, hk, hd, hu, hh⟩ := C
  obtain ⟨ah, ad, af, ag, au⟩ := A
  dsimp only at hA hh hd hu
  subst hA hh
  have O' := O
  obtain ⟨l0, l0b, l1, l2, l3, l4, l5⟩ := O
  refine wpAny_call ?_
  refine' code_def (binds := [(Str.ofString "self", .ref lx)]) B F X N T rfl hf hk ?k6 ?k7 (by dsimp only; omega) ?k9 ?kB ?_ ?c2 ?c3 ?c4 ?c5
  walk_at "enter"
  intro g L' h₁ FG F' N' B' X' T'
  try dsimp only
  k_fold
  k_steps
  unfold Hold
  have C' : RtCtx w mean mg mb (Around.deeper ⟨none, ad, some (env :: outer), ag, au⟩ (rtEnv L' 756 (.ref 755))) ⟨none, ad, some (env :: outer), ag, au⟩ (rtEnv L' 756 (.ref 755)) (env :: outer) base g D2 D1 a d lx dl news :=
    ⟨B', X', T', O', rfl, by rw [depth_deeper]; dsimp only; omega, by show au + 3 + 70 < cLine; omega, rfl⟩
  rename News _ _ _ _ => N5
  refine rt_word (s := s) C' hl ?_ _ _ _ _ _ _ _ _ (by assumption) rfl rfl (led0 N5)
  intro q h2 tk2 m2 t3' ln2 vl2 vt2 hq F2 hs2 hq2 N2
  have hne : q = false → (S l == Str.ofString "") = false := fun hqf => by
    have : l ≠ [] := fun e => by rw [hq e] at hqf; cases hqf
    have h2 := S_ne' this
    simpa using h2
  cases q with
  | true =>
    clear hne
    k_steps
    exact hret _ _ _ _ _ _ _ (by assumption) (by assumption)
  | false =>
    have hne' := hne rfl
    clear hne
    k_steps
    exact hret _ _ _ _ _ _ _ (by assumption) (by assumption)
theorem rtk_end : ∀ {w : World} {mean : ExcName → Option Value} {mg mb : Str → Option Value} {A A₀ : Around} {env : Env} {outer : List Env} {base h₀ : Heap} {L D2 D1 a d lx dl : Addr} {m : Str → Option Value} {news : List (Addr × Obj)} {s : Shared} {Q E : Value → Shared → Prop} {x : List Nat} {k1 k2 k3 t1 t2 t3 : Tok} {K : LK} {ln : Int} {vl vt : Tok}
    (_ : LxCtx w mean mg mb A A₀ env outer base h₀ L D2 D1 a d lx dl news 20) (_ : (KK w.params).In h₀) (_ : Fr h₀ L s.heap m) (_ : News h₀ L s.heap (lexLed D2 D1 a d lx dl (sioEs w.params (S x) (x.length : Int) k1 k2 k3 t1 t2 t3) (lexEs w.params K a D1 D2 .none ln vl (Str.ofString "") vt) news)) (_ : x.length ≤ 18)
    (_ : ∀ h' tk' t3' ln' vl' vt', Fr h₀ L h' m → News h₀ L h' (lexLed D2 D1 a d lx dl (sioEs w.params (S x) (x.length : Int) k1 k2 k3 t1 t2 t3') (lexEs w.params K a D1 D2 .none ln' vl' (Str.ofString "") vt') news) → Q (.none) { s with heap := h', toks := tk' }),
    wpAny (model PySem.Challenge.rw_oc0301_01.row.prog w) A (call (.ref 756) [.ref lx]) Q E s := by
  w_on
  k_fill
  intro w mean mg mb A A₀ env outer base h₀ L D2 D1 a d lx dl m news s Q E x k1 k2 k3 t1 t2 t3 K ln vl vt C X F N hl hret
  obtain ⟨B, X, T, O, hA, hf, hk, hd, hu, hh⟩ := C
  obtain ⟨ah, ad, af, ag, au⟩ := A
  dsimp only at hA hh hd hu
  subst hA hh
  have O' := O
  obtain ⟨l0, l0b, l1, l2, l3, l4, l5⟩ := O
  refine wpAny_call ?_
  refine' code_def (binds := [(Str.ofString "self", .ref lx)]) B F X N T rfl hf hk ?k6 ?k7 (by dsimp only; omega) ?k9 ?kB ?_ ?c2 ?c3 ?c4 ?c5
  walk_at "enter"
  intro g L' h₁ FG F' N' B' X' T'
  try dsimp only
  k_fold
  k_steps
  unfold Hold
  have C' : RtCtx w mean mg mb (Around.deeper ⟨none, ad, some (env :: outer), ag, au⟩ (rtEnv L' 756 (.ref 755))) ⟨none, ad, some (env :: outer), ag, au⟩ (rtEnv L' 756 (.ref 755)) (env :: outer) base g D2 D1 a d lx dl news :=
    ⟨B', X', T', O', rfl, by rw [depth_deeper]; dsimp only; omega, by show au + 3 + 70 < cLine; omega, rfl⟩
  rename News _ _ _ _ => N5
  refine rt_end2 (s := s) (tok := []) (q := false) C' hl (by decide) ?_ _ _ _ _ 0 _ _ _ (by assumption) rfl rfl (by rw [List.append_nil]; exact led0 N5)
  intro h2 tk2 m2 t3' ln2 vl2 vt2 F2 hs2 hq2 N2
  k_steps
  exact hret _ _ _ _ _ _ (by assumption) (by assumption)
local macro_rules | `(tactic| walk_at "truthy ref") => `(tactic| (k_here; k_dflt (refine' dq_truthy ?k1 ?k2 ?_; (case k1 => k_asm); (case k2 => k_mem); k_whole); intro _))
local macro_rules | `(tactic| walk_at "call ref") => `(tactic| (k_here; (with_reducible show wpAny _ _ (call (Value.ref 756) _) _ _ _); (refine Hold.out ?_)))
theorem gt_word : ∀ {w : World} {mean : ExcName → Option Value} {mg mb : Str → Option Value} {A A₀ : Around} {env : Env} {outer : List Env} {base h₀ : Heap} {L D2 D1 a d lx dl : Addr} {m : Str → Option Value} {news : List (Addr × Obj)} {s : Shared} {Q E : Value → Shared → Prop} {l : List Nat} {k1 k2 k3 t1 t2 t3 : Tok} {K : LK} {ln : Int} {vs vl vt : Tok}
    (_ : LxCtx w mean mg mb A A₀ env outer base h₀ L D2 D1 a d lx dl news 24) (_ : (KK w.params).In h₀) (_ : Fr h₀ L s.heap m) (_ : News h₀ L s.heap (lexLed D2 D1 a d lx dl (sioEs w.params (S (quoteF l)) 0 k1 k2 k3 t1 t2 t3) (lexEs w.params K a D1 D2 (.str (Str.ofString " ") vs) ln vl (Str.ofString "") vt) news)) (_ : IsWord l)
    (_ : ∀ h' tk' t3' ln' vl' vt' t', Fr h₀ L h' m → News h₀ L h' (lexLed D2 D1 a d lx dl (sioEs w.params (S (quoteF l)) ((quoteF l).length : Int) k1 k2 k3 t1 t2 t3') (lexEs w.params K a D1 D2 .none ln' vl' (Str.ofString "") vt') news) → Q (.str (S l) t') { s with heap := h', toks := tk' }),
    wpAny (model PySem.Challenge.rw_oc0301_01.row.prog w) A (call (.ref 749) [.ref lx]) Q E s := by
  w_on
  k_fill
  intro w mean mg mb A A₀ env outer base h₀ L D2 D1 a d lx dl m news s Q E l k1 k2 k3 t1 t2 t3 K ln vs vl vt C X F N hl hret
  obtain ⟨B, X, T, O, hA, hf, hk, hd, hu, hh⟩ := C
  obtain ⟨ah, ad, af, ag, au⟩ := A
  dsimp only at hA hh hd hu
  subst hA hh
  have O' := O
  obtain ⟨l0, l0b, l1, l2, l3, l4, l5⟩ := O
  refine wpAny_call ?_
  refine' code_def (binds := [(Str.ofString "self", .ref lx)]) B F X N T rfl hf hk ?k6 ?k7 (by dsimp only; omega) ?k9 ?kB ?_ ?c2 ?c3 ?c4 ?c5
  walk_at "enter"
  intro g L' h₁ FG F' N' B' X' T'
  try dsimp only
  k_fold
  k_steps
  unfold Hold
  refine' rtk_word ⟨?B, ?X, ?T, O', rfl, rfl, rfl, ?dp, ?un, rfl⟩ ?X2 ?F ?N hl ?_
  case F => k_asm
  case B => assumption
  case X => k_asm
  case X2 => k_asm
  case T => k_asm
  case N => k_asm
  case dp => rw [depth_deeper]; dsimp only; omega
  case un => show au + 3 + 5 * 20 < cLine; omega
  intro h2 tk2 t3' ln2 vl2 vt2 t2' F2 N2
  dsimp only
  k_steps
  exact hret _ _ _ _ _ _ _ (by assumption) (by assumption)
theorem gt_end : ∀ {w : World} {mean : ExcName → Option Value} {mg mb : Str → Option Value} {A A₀ : Around} {env : Env} {outer : List Env} {base h₀ : Heap} {L D2 D1 a d lx dl : Addr} {m : Str → Option Value} {news : List (Addr × Obj)} {s : Shared} {Q E : Value → Shared → Prop} {x : List Nat} {k1 k2 k3 t1 t2 t3 : Tok} {K : LK} {ln : Int} {vl vt : Tok}
    (_ : LxCtx w mean mg mb A A₀ env outer base h₀ L D2 D1 a d lx dl news 24) (_ : (KK w.params).In h₀) (_ : Fr h₀ L s.heap m) (_ : News h₀ L s.heap (lexLed D2 D1 a d lx dl (sioEs w.params (S x) (x.length : Int) k1 k2 k3 t1 t2 t3) (lexEs w.params K a D1 D2 .none ln vl (Str.ofString "") vt) news)) (_ : x.length ≤ 18)
    (_ : ∀ h' tk' t3' ln' vl' vt', Fr h₀ L h' m → News h₀ L h' (lexLed D2 D1 a d lx dl (sioEs w.params (S x) (x.length : Int) k1 k2 k3 t1 t2 t3') (lexEs w.params K a D1 D2 .none ln' vl' (Str.ofString "") vt') news) → Q (.none) { s with heap := h', toks := tk' }),
    wpAny (model PySem.Challenge.rw_oc0301_01.row.prog w) A (call (.ref 749) [.ref lx]) Q E s := by
  w_on
  k_fill
  intro w mean mg mb A A₀ env outer base h₀ L D2 D1 a d lx dl m news s Q E x k1 k2 k3 t1 t2 t3 K ln vl vt C X F N hl hret
  obtain ⟨B, X, T, O, hA, hf, hk, hd, hu, hh⟩ := C
  obtain ⟨ah, ad, af, ag, au⟩ := A
  dsimp only at hA hh hd hu
  subst hA hh
  have O' := O
  obtain ⟨l0, l0b, l1, l2, l3, l4, l5⟩ := O
  refine wpAny_call ?_
  refine' code_def (binds := [(Str.ofString "self", .ref lx)]) B F X N T rfl hf hk ?k6 ?k7 (by dsimp only; omega) ?k9 ?kB ?_ ?c2 ?c3 ?c4 ?c5
  walk_at "enter"
  intro g L' h₁ FG F' N' B' X' T'
  try dsimp only
  k_fold
  k_steps
  unfold Hold
  refine' rtk_end ⟨?B, ?X, ?T, O', rfl, rfl, rfl, ?dp, ?un, rfl⟩ ?X2 ?F ?N hl ?_
  case F => k_asm
  case B => assumption
  case X => k_asm
  case X2 => k_asm
  case T => k_asm
  case N => k_asm
  case dp => rw [depth_deeper]; dsimp only; omega
  case un => show au + 3 + 5 * 20 < cLine; omega
  intro h2 tk2 t3' ln2 vl2 vt2 F2 N2
  dsimp only
  k_steps
  exact hret _ _ _ _ _ _ (by assumption) (by assumption)
local macro_rules | `(tactic| walk_at "call ref") => `(tactic| (k_here; (with_reducible show wpAny _ _ (call (Value.ref 749) _) _ _ _); (refine Hold.out ?_)))
theorem next_tok : ∀ {w : World} {mean : ExcName → Option Value} {mg mb : Str → Option Value} {A A₀ : Around} {env : Env} {outer : List Env} {base h₀ : Heap} {L D2 D1 a d lx dl : Addr} {m : Str → Option Value} {news : List (Addr × Obj)} {s : Shared} {Q : Option Value → Shared → Prop} {E : Value → Shared → Prop} {l : List Nat} {k1 k2 k3 t1 t2 t3 : Tok} {K : LK} {ln : Int} {vs vl vt : Tok}
    (_ : LxCtx w mean mg mb A A₀ env outer base h₀ L D2 D1 a d lx dl news 28) (_ : (KK w.params).In h₀) (_ : Fr h₀ L s.heap m) (_ : News h₀ L s.heap (lexLed D2 D1 a d lx dl (sioEs w.params (S (quoteF l)) 0 k1 k2 k3 t1 t2 t3) (lexEs w.params K a D1 D2 (.str (Str.ofString " ") vs) ln vl (Str.ofString "") vt) news)) (_ : IsWord l)
    (_ : ∀ h' tk' t3' ln' vl' vt' t', Fr h₀ L h' m → News h₀ L h' (lexLed D2 D1 a d lx dl (sioEs w.params (S (quoteF l)) ((quoteF l).length : Int) k1 k2 k3 t1 t2 t3') (lexEs w.params K a D1 D2 .none ln' vl' (Str.ofString "") vt') news) → Q (some (.str (S l) t')) { s with heap := h', toks := tk' }),
    wpAny (model PySem.Challenge.rw_oc0301_01.row.prog w) A (pyNext (.ref lx)) Q E s := by
  w_on
  k_fill
  intro w mean mg mb A A₀ env outer base h₀ L D2 D1 a d lx dl m news s Q E l k1 k2 k3 t1 t2 t3 K ln vs vl vt C X F N hl hret
  obtain ⟨B, X, T, O, hA, hf, hk, hd, hu, hh⟩ := C
  obtain ⟨ah, ad, af, ag, au⟩ := A
  dsimp only at hA hh hd hu
  subst hA hh
  have O' := O
  obtain ⟨l0, l0b, l1, l2, l3, l4, l5⟩ := O
  refine' owit_next (K := KK w.params) (C := 788) (f := 785) F X ?I ?hs ?hf ?_
  case I => k_inst
  case hs => k_is
  case hf => k_is
  refine wpAny_call ?_
  refine' code_def (binds := [(Str.ofString "self", .ref lx)]) B F X N T rfl hf hk ?k6 ?k7 (by dsimp only; omega) ?k9 ?kB ?_ ?c2 ?c3 ?c4 ?c5
  walk_at "enter"
  intro g L' h₁ FG F' N' B' X' T'
  try dsimp only
  k_fold
  k_steps
  unfold Hold
  refine' gt_word ⟨?B, ?X, ?T, O', rfl, rfl, rfl, ?dp, ?un, rfl⟩ ?X2 ?F ?N hl ?_
  case F => k_asm
  case B => assumption
  case X => k_asm
  case X2 => k_asm
  case T => k_asm
  case N => k_asm
  case dp => rw [depth_deeper]; dsimp only; omega
  case un => show au + 3 + 5 * 24 < cLine; omega
  intro h2 tk2 t3' ln2 vl2 vt2 t2' F2 N2
  dsimp only
  k_steps
  exact hret _ _ _ _ _ _ _ (by assumption) (by assumption)
/-- StopIteration, met by the machine in a frame that is not the first -/
theorem owit_stopS {M : Model} {A A₀ : Around} {E : Value → Shared → Prop} {s : Shared} {K : Frag} {p : Program} {loose : List Str} {mean : ExcName → Option Value} {mg mb : Str → Option Value} {base g G : Heap} {outer : List Env} {L a e t : Addr} {m : Str → Option Value} {name : Str} {scope : Scope} {cd : Value} {vs : List Value} {news : List (Addr × Obj)} {Q : Option Value → Shared → Prop}
    (R : RaisedS base G (envOf name scope L a cd :: outer) e (.type "StopIteration") t vs news s.heap) (F : Fr g L G m) (B : Below A₀ base outer g) (hsm : G.UpToSlots s.heap) (XB : K.In base) (TB : Top p loose mean mg mb base) (D : KtsDicts (outer.filterMap (·.frame)) g)
    (k : ∀ g', KtsTurn (outer.filterMap (·.frame)) g g' → Fr g' L s.heap m → News g' L s.heap news → Below A₀ base outer g' → K.In g' → Top p loose mean mg mb g' → KtsDicts (outer.filterMap (·.frame)) g' → Q none s) : OwitStop M A Q E (.ref e) s := by
  obtain ⟨⟨B', hB, hBG, hl, hfl, hnew⟩, htup⟩ := R
  have hL : B'.get? L = none := by
    obtain ⟨_, ⟨L', _, hf, hn', _⟩, _⟩ := hfl.2.2.1
    obtain rfl : L = L' := Option.some.inj hf
    exact hn'
  obtain ⟨g', T', F', B₂⟩ := kts_ground B F hBG hfl.1 hsm
  obtain ⟨ob, hob, hobc⟩ := hfl.there
  have hT : s.TypeIs (.ref e) "StopIteration" := (show ∃ o, s.heap.get? e = some o ∧ o.cls = .type "StopIteration" from ⟨ob, hob, hobc⟩)
  unfold OwitStop
  refine wpAny_isInstance (b := true) hT (by rw [isSubtype_type]; kernel_rfl) ?_
  show (if true = true then Q none s else E (.ref e) s)
  rw [if_pos rfl]
  exact k g' T' F' (fun q hq => ⟨hfl.1 _ _ (hl q hq).1, (fun z => by have := (hl q hq).1; rw [z, hL] at this; cases this), T'.none_ _ (kts_none F.keep (hl q hq).2.1)⟩) B₂ (XB.keeps B₂.stays) (TB.keeps B₂.stays) (D.turn T')
theorem next_stop : ∀ {w : World} {mean : ExcName → Option Value} {mg mb : Str → Option Value} {A A₀ : Around} {cn : Str} {cs : Scope} {fa : Addr} {ccd : Value} {outer : List Env} {base h₀ : Heap} {L D2 D1 a d lx dl : Addr} {m : Str → Option Value} {news : List (Addr × Obj)} {s : Shared} {Q : Option Value → Shared → Prop} {E : Value → Shared → Prop} {x : List Nat} {k1 k2 k3 t1 t2 t3 : Tok} {K : LK} {ln : Int} {vl vt : Tok}
    (_ : LxCtx w mean mg mb A A₀ (envOf cn cs L fa ccd) outer base h₀ L D2 D1 a d lx dl news 28) (_ : (KK w.params).In h₀) (_ : Fr h₀ L s.heap m) (_ : News h₀ L s.heap (lexLed D2 D1 a d lx dl (sioEs w.params (S x) (x.length : Int) k1 k2 k3 t1 t2 t3) (lexEs w.params K a D1 D2 .none ln vl (Str.ofString "") vt) news)) (_ : x.length ≤ 18) (_ : (KK w.params).In base) (_ : Top VQ (looseW VQ LQ) mean mg mb base) (_ : KtsDicts (outer.filterMap (·.frame)) h₀)
    (_ : ∀ g' h' tk' t3' ln' vl' vt', KtsTurn (outer.filterMap (·.frame)) h₀ g' → Fr g' L h' m → News g' L h' (lexLed D2 D1 a d lx dl (sioEs w.params (S x) (x.length : Int) k1 k2 k3 t1 t2 t3') (lexEs w.params K a D1 D2 .none ln' vl' (Str.ofString "") vt') news) → Below A₀ base outer g' → (KK w.params).In g' → Top VQ (looseW VQ LQ) mean mg mb g' → KtsDicts (outer.filterMap (·.frame)) g' → Q none { s with heap := h', toks := tk' }),
    wpAny (model PySem.Challenge.rw_oc0301_01.row.prog w) A (pyNext (.ref lx)) Q E s := by
  w_on
  k_fill
  intro w mean mg mb A A₀ cn cs fa ccd outer base h₀ L D2 D1 a d lx dl m news s Q E x k1 k2 k3 t1 t2 t3 K ln vl vt C X F N hl XB TB D hret
  obtain ⟨B, X, T, O, hA, hf, hk, hd, hu, hh⟩ := C
  obtain ⟨ah, ad, af, ag, au⟩ := A
  dsimp only at hA hh hd hu
  subst hA hh
  have O' := O
  obtain ⟨l0, l0b, l1, l2, l3, l4, l5⟩ := O
  refine' owit_next (K := KK w.params) (C := 788) (f := 785) F X ?I ?hs ?hf ?_
  case I => k_inst
  case hs => k_is
  case hf => k_is
  refine wpAny_call ?_
  refine' code_def (binds := [(Str.ofString "self", .ref lx)]) B F X N T rfl hf hk ?k6 ?k7 (by dsimp only; omega) ?k9 ?kB ?_ ?c2 ?c3 ?c4 ?c5
  walk_at "enter"
  intro g L' h₁ FG F' N' B' X' T'
  try dsimp only
  k_fold
  have kd : KtsDicts [] g := ktsDicts_nil
  k_steps
  unfold Hold
  refine' gt_end ⟨?B, ?X, ?T, O', rfl, rfl, rfl, ?dp, ?un, rfl⟩ ?X2 ?F ?N hl ?_
  case F => k_asm
  case B => assumption
  case X => k_asm
  case X2 => k_asm
  case T => k_asm
  case N => k_asm
  case dp => rw [depth_deeper]; dsimp only; omega
  case un => show au + 3 + 5 * 24 < cLine; omega
  intro h2 tk2 t3' ln2 vl2 vt2 F2 N2
  dsimp only
  k_steps
  refine owit_stopS (by assumption) FG B (by assumption) XB TB D ?_
  intro g' T' F' N' K' X' P' D'
  exact hret _ _ _ _ _ _ _ T' F' N' K' X' P' D'
theorem lex_iter : ∀ {w : World} {mean : ExcName → Option Value} {mg mb : Str → Option Value} {A A₀ : Around} {env : Env} {outer : List Env} {base h₀ : Heap} {L D2 D1 a d lx dl : Addr} {m : Str → Option Value} {news : List (Addr × Obj)} {s : Shared} {Q E : Value → Shared → Prop} {es1 es2 : List DictEntry}
    (_ : LxCtx w mean mg mb A A₀ env outer base h₀ L D2 D1 a d lx dl news 28) (_ : (KK w.params).In h₀) (_ : Fr h₀ L s.heap m) (_ : News h₀ L s.heap (lexLed D2 D1 a d lx dl es1 es2 news))
    (_ : ∀ h' tk', Fr h₀ L h' m → News h₀ L h' (lexLed D2 D1 a d lx dl es1 es2 news) → Q (.ref lx) { s with heap := h', toks := tk' }),
    wpAny (model PySem.Challenge.rw_oc0301_01.row.prog w) A (pyIter (.ref lx)) Q E s := by
  w_on
  k_fill
  intro w mean mg mb A A₀ env outer base h₀ L D2 D1 a d lx dl m news s Q E es1 es2 C X F N hret
  obtain ⟨B, X, T, O, hA, hf, hk, hd, hu, hh⟩ := C
  obtain ⟨ah, ad, af, ag, au⟩ := A
  dsimp only at hA hh hd hu
  subst hA hh
  have O' := O
  obtain ⟨l0, l0b, l1, l2, l3, l4, l5⟩ := O
  refine' owit_iter (K := KK w.params) (C := 788) (f := 778) F X ?I ?hs ?hf ?_
  case I => k_inst
  case hs => k_is
  case hf => k_is
  refine wpAny_call ?_
  refine' code_def (binds := [(Str.ofString "self", .ref lx)]) B F X N T rfl hf hk ?k6 ?k7 (by dsimp only; omega) ?k9 ?kB ?_ ?c2 ?c3 ?c4 ?c5
  walk_at "enter"
  intro g L' h₁ FG F' N' B' X' T'
  try dsimp only
  k_fold
  k_steps
  exact hret _ _ (by assumption) (by assumption)
end Lex4
end Mine
end TextLex4
section TextLex5
open PySem PySem.W PyProof.Rows PySem.Calls
set_option maxRecDepth 100000
set_option maxHeartbeats 8000000
set_option pp.deepTerms false
set_option pp.maxSteps 3000
namespace Mine
section Lex5
theorem lupd {prog : Program} {w : World} {A : Around} {E : Value → Shared → Prop} {s : Shared} {h₀ : Heap} {L D : Addr} {m : Str → Option Value} {news : List (Addr × Obj)} {its : Array Value} {n : Nat} {f : Array Value → Array Value} {Q : Unit → Shared → Prop}
    (F : Fr h₀ L s.heap m) (N : News h₀ L s.heap ((D, W.listOf its n) :: news)) (off : ∀ p ∈ news, p.1 ≠ D) (hz : its.size ≤ 100) (hz' : (f its).size ≤ 100)
    (h : ∀ h' n', Fr h₀ L h' m → News h₀ L h' ((D, W.listOf (f its) n') :: news) → Q () { s with heap := h' }) : wpAny (model prog w) A (updateSeq D f) Q E s := by
  have z := N _ (.head _)
  refine wpAny_updateSeq z.1 rfl (h _ _ (F.change (Heap.SameBut.update ..) z.2.1 z.2.2) (ki_turn (pre := []) f N (fun _ hp => nomatch hp) off rfl rfl)) (by rw [sizeLine_eq]; omega) (by rw [sizeLine_eq]; omega)
theorem LxCtx.shift {w : World} {mean : ExcName → Option Value} {mg mb : Str → Option Value} {A A' A₀ : Around} {env : Env} {outer : List Env} {base h₀ : Heap} {L D2 D1 a d lx dl : Addr} {news news' : List (Addr × Obj)} {n : Nat} (C : LxCtx w mean mg mb A A₀ env outer base h₀ L D2 D1 a d lx dl news (n + 4))
    (O : LexOrd D2 D1 a d lx dl news') (h1 : A'.frames = A.frames) (h2 : A'.depth = A.depth) (h3 : A'.units ≤ A.units + 20) (h4 : A'.handled = A.handled) : LxCtx w mean mg mb A' A₀ env outer base h₀ L D2 D1 a d lx dl news' n :=
  ⟨C.B, C.X, C.T, O, h1.trans C.fr, C.fL, C.kd, by have := C.dp; rw [h2]; omega, by have := C.un; omega, h4.trans C.hd⟩
theorem list_lex {w : World} {mean : ExcName → Option Value} {mg mb : Str → Option Value} {A A₀ : Around} {cn : Str} {cs : Scope} {fa : Addr} {ccd : Value} {outer : List Env} {base h₀ : Heap} {L D2 D1 a d lx dl : Addr} {m : Str → Option Value} {news : List (Addr × Obj)} {s : Shared} {Q E : Value → Shared → Prop} {l : List Nat} {k1 k2 k3 t1 t2 t3 : Tok} {K : LK} {ln : Int} {vs vl vt : Tok}
    (C : LxCtx w mean mg mb A A₀ (envOf cn cs L fa ccd) outer base h₀ L D2 D1 a d lx dl news 32) (F : Fr h₀ L s.heap m) (N : News h₀ L s.heap (lexLed D2 D1 a d lx dl (sioEs w.params (S (quoteF l)) 0 k1 k2 k3 t1 t2 t3) (lexEs w.params K a D1 D2 (.str (Str.ofString " ") vs) ln vl (Str.ofString "") vt) news)) (hl : IsWord l)
    (XB : (KK w.params).In base) (TB : Top VQ (looseW VQ LQ) mean mg mb base) (D : KtsDicts (outer.filterMap (·.frame)) h₀)
    (hret : ∀ g' S0 n t h' tk', KtsTurn (outer.filterMap (·.frame)) h₀ g' → Fr g' L h' m → News g' L h' ((S0, W.listOf #[.str (S l) t] n) :: news) → (∀ p ∈ news, p.1 ≠ S0) → Below A₀ base outer g' → (KK w.params).In g' → Top VQ (looseW VQ LQ) mean mg mb g' → KtsDicts (outer.filterMap (·.frame)) g' → Q (.ref S0) { s with heap := h', toks := tk' }) :
    wpAny (model PySem.Challenge.rw_oc0301_01.row.prog w) A (call (.type "list") [.ref lx]) Q E s := by
  have O := C.O
  have X := C.X
  have hql : (quoteF l).length ≤ 18 := by
    have h3 := hl.1
    have hrl := rep_len 39 [39, 34, 39, 34, 39] 5 (by decide) (by decide) l
    unfold quoteF
    split
    · simp
    · split
      · omega
      · simp; omega
  refine callType_codes (Q₁ := fun obj s₁ => obj = .ref s.heap.objs.size ∧ s₁ = { s with heap := s.heap.push { cls := .type "list", data := .seq #[] } }) PySem.F.called_list (PySem.F.typeCall_list_1 _) PySem.F.entry_list_init
    (code_list_new _ ⟨rfl, rfl⟩) fun obj s₁ h₁ => ?_
  obtain ⟨rfl, rfl⟩ := h₁
  have N1 := N.push F (W.listOf #[] 0) rfl
  have F1 := F.push (W.listOf #[] 0)
  have offA : ∀ p ∈ lexLed D2 D1 a d lx dl (sioEs w.params (S (quoteF l)) 0 k1 k2 k3 t1 t2 t3) (lexEs w.params K a D1 D2 (.str (Str.ofString " ") vs) ln vl (Str.ofString "") vt) news, p.1 ≠ s.heap.objs.size := fun p hp => Nat.ne_of_lt (Heap.lt_size (N p hp).1)
  have hS := (N1 _ (.head _)).1
  refine ⟨⟨_, hS, rfl⟩, PySem.F.args_list_init_2 _ _, ?_⟩
  generalize s.heap.objs.size = S0 at *
  have offN : ∀ p ∈ news, p.1 ≠ S0 := fun p hp => offA p (.tail _ (.tail _ (.tail _ (.tail _ (.tail _ (.tail _ hp))))))
  have O2 : ∀ o : Obj, LexOrd D2 D1 a d lx dl ((S0, o) :: news) := fun o => ⟨fun p hp => by
      rcases List.mem_cons.mp hp with rfl | hp
      · exact (offA (dl, _) (.tail _ (.tail _ (.tail _ (.tail _ (.tail _ (.head _)))))) ).symm
      · exact O.low p hp, fun p hp => by
      rcases List.mem_cons.mp hp with rfl | hp
      · exact (offA (d, _) (.tail _ (.tail _ (.tail _ (.head _))))).symm
      · exact O.lowd p hp, O.o1, O.o2, O.o3, O.o4, O.o5⟩
  have swapL : ∀ {g h : Heap} {o : Obj} {es1 es2 : List DictEntry}, News g L h ((S0, o) :: lexLed D2 D1 a d lx dl es1 es2 news) → News g L h (lexLed D2 D1 a d lx dl es1 es2 ((S0, o) :: news)) := fun N p hp => N p (by
    simp only [List.mem_cons] at hp ⊢
    rcases hp with h | h | h | h | h | h | h | h <;> simp [h])
  have swapR : ∀ {g h : Heap} {o : Obj} {es1 es2 : List DictEntry}, News g L h (lexLed D2 D1 a d lx dl es1 es2 ((S0, o) :: news)) → News g L h ((S0, o) :: lexLed D2 D1 a d lx dl es1 es2 news) := fun N p hp => N p (by
    simp only [List.mem_cons] at hp ⊢
    rcases hp with h | h | h | h | h | h | h | h <;> simp [h])
  have offL : ∀ {es1 es2 : List DictEntry}, ∀ p ∈ lexLed D2 D1 a d lx dl es1 es2 news, p.1 ≠ S0 := fun p hp => by
    have hmap : p.1 ∈ (lexLed D2 D1 a d lx dl (sioEs w.params (S (quoteF l)) 0 k1 k2 k3 t1 t2 t3) (lexEs w.params K a D1 D2 (.str (Str.ofString " ") vs) ln vl (Str.ofString "") vt) news).map (·.1) := by
      have := List.mem_map_of_mem (f := fun q : Addr × Obj => q.1) hp
      exact this
    obtain ⟨q, hq, e⟩ := List.mem_map.mp hmap
    rw [← e]; exact offA q hq
  show wpAny _ _ (do let old ← Builtin.List.listItems (.ref S0); Builtin.List.listUpdate (.ref S0) (fun _ => #[]); letGo old.toList.reverse; Builtin.List.listExtendWith (.ref S0) (.ref lx) .none) _ _ _
  refine wpAny_bind ?_
  unfold Builtin.List.listItems
  refine wpAny_bind (wpAny_seqItems hS rfl (wpAny_pure ?_))
  refine wpAny_bind ?_
  show wpAny _ _ (updateSeq S0 (fun _ => #[])) _ _ _
  refine lupd (n := 0) (its := #[]) F1 N1 offL (by simp) (by simp) fun h2 n2 F2 N2 => ?_
  refine wpAny_bind (wpAny_letGo ?_)
  have hlx := (N2 _ (.tail _ (.tail _ (.tail _ (.tail _ (.tail _ (.head _))))))).1
  have I2 : InstAt h2 lx (instObj 788 dl) 788 (some (dictOf (lexEs w.params K a D1 D2 (.str (Str.ofString " ") vs) ln vl (Str.ofString "") vt) 19)) := InstAt.of_news N2 (.tail _ (.tail _ (.tail _ (.tail _ (.tail _ (.head _)))))) (.tail _ (.tail _ (.tail _ (.tail _ (.tail _ (.tail _ (.head _)))))))
  unfold Builtin.List.listExtendWith
  refine wpAny_bind (I2.type.here ?_)
  have hne : S0 ≠ lx := (offA (lx, _) (.tail _ (.tail _ (.tail _ (.tail _ (.head _)))))).symm
  have h1 : Builtin.List.listSameRef (.ref S0) (.ref lx) = false := by simp [Builtin.List.listSameRef, hne]
  have h2' : (Value.ref 788 == Value.type "list") = false := by decide
  have h3' : (Value.ref 788 == Value.type "tuple") = false := by decide
  simp only [h1, h2', h3', Bool.or_false, Bool.false_eq_true, if_false]
  refine wpAny_bind (lex_iter (C.shift (n := 28) (A' := A.in1.in1) (O2 _) rfl rfl (by simp) rfl) X F2 (swapL N2) ?_)
  intro h3 tk3 F3 N3
  refine wpAny_bind (wpAny_holding ?_)
  unfold Builtin.List.listLengthHint
  have I3 : InstAt h3 lx (instObj 788 dl) 788 (some (dictOf (lexEs w.params K a D1 D2 (.str (Str.ofString " ") vs) ln vl (Str.ofString "") vt) 19)) := InstAt.of_news N3 (.tail _ (.tail _ (.tail _ (.tail _ (.head _))))) (.tail _ (.tail _ (.tail _ (.tail _ (.tail _ (.head _))))))
  have q1 : Looks (model PySem.Challenge.rw_oc0301_01.row.prog w) h3 (specialOf (.ref lx) (Str.ofString "__len__")) none := I3.type.andThen (looks_findIn (X.keeps F3.keep) (by kernel_rfl))
  have q2 : Looks (model PySem.Challenge.rw_oc0301_01.row.prog w) h3 (specialOf (.ref lx) (Str.ofString "__length_hint__")) none := I3.type.andThen (looks_findIn (X.keeps F3.keep) (by kernel_rfl))
  refine wpAny_bind (q1.here ?_)
  show wpAny _ _ (specialOf (Value.ref lx) (Str.ofString "__length_hint__") >>= _) _ _ _
  refine wpAny_bind (q2.here ?_)
  refine wpAny_pure ?_
  show wpAny _ _ (rule "list.extend.makes-room" >>= fun _ => Builtin.List.listTouch (.ref S0) >>= fun _ =>
    again (.builtin "list.extend.loop" ⟨[.ref S0, .ref lx, .none], []⟩)) _ _ _
  refine wpAny_bind (wpAny_rule ?_)
  refine wpAny_bind ?_
  show wpAny _ _ (updateSeq S0 (·.push .none) >>= fun _ => updateSeq S0 (·.pop)) _ _ _
  refine wpAny_bind (lupd F3 (swapR N3) offL (by simp) (by simp) fun h4 n4 F4 N4 => ?_)
  refine lupd F4 N4 offL (by simp) (by simp) fun h5 n5 F5 N5 => ?_
  refine wpAny_pure ⟨plainId_quiet PySem.F.plain_extend_loop _, codeAny_builtin PySem.F.entry_extend_loop ?_⟩
  rw [Around.under_plainId PySem.F.plain_extend_loop _]
  show wpAny _ _ (pyNext (.ref lx) >>= fun r => match r with | none => ret .none | some x => Builtin.List.listUpdate (.ref S0) (·.push x) >>= fun _ => again (.builtin "list.extend.loop" ⟨[.ref S0, .ref lx, .none], []⟩)) _ _ _
  refine wpAny_bind (next_tok (C.shift (n := 28) (A' := A.in1.in1) (O2 _) rfl rfl (by simp) rfl) X F5 (swapL N5) hl ?_)
  intro h6 tk6 t6 ln6 vl6 vt6 tt6 F6 N6
  dsimp only
  refine wpAny_bind ?_
  show wpAny _ _ (updateSeq S0 (·.push (.str (S l) tt6))) _ _ _
  refine lupd F6 (swapR N6) offL (by simp) (by simp) fun h7 n7 F7 N7 => ?_
  refine wpAny_pure ⟨plainId_quiet PySem.F.plain_extend_loop _, codeAny_builtin PySem.F.entry_extend_loop ?_⟩
  rw [Around.under_plainId PySem.F.plain_extend_loop _]
  show wpAny _ _ (pyNext (.ref lx) >>= fun r => match r with | none => ret .none | some x => Builtin.List.listUpdate (.ref S0) (·.push x) >>= fun _ => again (.builtin "list.extend.loop" ⟨[.ref S0, .ref lx, .none], []⟩)) _ _ _
  refine wpAny_bind (next_stop (C.shift (n := 28) (A' := A.in1.in1) (O2 _) rfl rfl (by simp) rfl) X F7 (swapL N7) hql XB TB D ?_)
  intro g8 h8 tk8 t8 ln8 vl8 vt8 T8 F8 N8 B8 X8 P8 D8
  dsimp only
  refine wpAny_pure ?_
  refine And.intro rfl (hret g8 S0 n7 tt6 h8 tk8 T8 F8 (fun p hp => N8 p ?_) offN B8 X8 P8 D8)
  simp only [List.mem_cons] at hp ⊢
  rcases hp with h | h <;> simp [h]
end Lex5
end Mine
end TextLex5
section TextSpl
open PySem PySem.W PyProof.Rows PySem.Calls
set_option maxRecDepth 100000
set_option maxHeartbeats 8000000
set_option pp.deepTerms false
set_option pp.maxSteps 3000
namespace Mine
section Spl
local macro_rules | `(tactic| k_all) => `(tactic| (intro p9 h9; (rename ∀ p : Addr × Obj, p ∈ _ → p.1 < _ => hlo9); (have hz9 := ltN (hlo9 p9 h9)); (refine neN ?_); (try dsimp only); omega))
local macro_rules | `(tactic| k_room) => `(tactic| ((try simp only [depth_under_make, depth_under_kw, depth_in1, depth_deeper, depth_caller]); (try dsimp only); omega))
local macro_rules | `(tactic| walk_at "enter") => `(tactic| (
  (case c5 => decide)
  (case kB => exact locs rfl)
  (case c2 => exact rfl)
  (case c3 => exact rfl)
  (case c4 => exact rfl)))
local macro_rules | `(tactic| walk_at "call ref") => `(tactic| (k_here; (with_reducible show wpAny _ _ (call (Value.ref 653) _) _ _ _); (refine Hold.out ?_)))
local macro_rules | `(tactic| walk_at "call type:collections.deque") => `(tactic| (k_here; k_dflt (refine' dq_make ?k1 ?k2 ?_; (case k1 => k_asm); (case k2 => k_asm); k_whole); intro D' h' F' N' l1'; (have l2' := ltN (l1' _ (.head _))); (clear l1'); (try dsimp only at l2')))
local macro_rules | `(tactic| walk_at "call type:list") => `(tactic| (refine Hold.out ?_))
theorem split_spec : ∀ {w : World} {mean : ExcName → Option Value} {mg mb : Str → Option Value} {A A₀ : Around} {cn : Str} {cs : Scope} {fa : Addr} {ccd : Value} {base h₀ : Heap} {L : Addr} {m : Str → Option Value} {news : List (Addr × Obj)} {s : Shared} {Q E : Value → Shared → Prop} {l : List Nat} {t : Tok}
    (_ : Below A₀ base [] h₀) (_ : Fr h₀ L s.heap m) (_ : (KK w.params).In h₀) (_ : Quiet w.params h₀) (_ : News h₀ L s.heap news) (_ : Top VQ (looseW VQ LQ) mean mg mb h₀) (_ : (KK w.params).In base) (_ : Top VQ (looseW VQ LQ) mean mg mb base) (_ : A.frames = some [envOf cn cs L fa ccd]) (_ : cs.kind = .function) (_ : A.depth + 40 < recursionLimit) (_ : A.units + 200 < cLine) (_ : A.handled = none) (_ : IsWord l)
    (_ : ∀ S0 n t' h' tk', Fr h₀ L h' m → News h₀ L h' ((S0, W.listOf #[.str (S l) t'] n) :: news) → (∀ p ∈ news, p.1 ≠ S0) → Q (.ref S0) { s with heap := h', toks := tk' }),
    wpAny (model PySem.Challenge.rw_oc0301_01.row.prog w) A (call (.ref 800) [.str (S (quoteF l)) t]) Q E s := by
  w_on
  k_fill
  intro w mean mg mb A A₀ cn cs fa ccd base h₀ L m news s Q E l t B F X Z N T XB TB hA hk hd hu hh hl hret
  obtain ⟨ah, ad, af, ag, au⟩ := A
  dsimp only at hA hh hd hu
  subst hA hh
  refine wpAny_call ?_
  refine' code_defS0 (binds := [(Str.ofString "s", .str (S (quoteF l)) t), (Str.ofString "comments", .bool false), (Str.ofString "posix", .bool true)]) B F X N T rfl ?k6 ?k7 (by dsimp only; omega) ?k9 ?kB ?_ hk ?c2 ?c3 ?c4 ?c5
  case k6 => k_is
  case k7 => k_is
  case k9 => exact binds_K (X.keeps F.keep) rfl (by k_is) rfl rfl rfl
  walk_at "enter"
  intro g L' h₁ FG F' N' B' X' T' D'
  try dsimp only
  k_fold
  have hql : (quoteF l).length ≤ 17 := by
    have h3 := hl.1
    have hrl := rep_len 39 [39, 34, 39, 34, 39] 5 (by decide) (by decide) l
    unfold quoteF
    split
    · simp
    · split
      · omega
      · simp; omega
  have hlen : (S (quoteF l)).length ≤ 17 := by rw [S_len]; exact hql
  k_steps
  unfold Hold
  rename _ < _ => l2
  k_lt2 l2
  rename ∀ p : Addr × Obj, p ∈ news → p.1 < _ => l1
  refine' sio_make ?B ?F ?X ?Z ?N ?T rfl rfl rfl ?d rfl hql ?_
  case d => k_room
  case F => k_asm
  case B => assumption
  case X => k_asm
  case Z => refine (Z.keeps FG.keep).keeps ?_; apply Fr.keep; assumption
  case N => k_asm
  case T => k_asm
  intro a d k1 k2 k3 t1 t2 t3 h2 tk2 F2 N2 l3 l4
  k_lt2 l4
  have l5 := ltN (l3 _ (.head _))
  clear l3
  dsimp only at l5 ⊢
  k_steps
  unfold Hold
  rename _ < _ => l6
  rename _ < _ => l7
  refine' list_lex (K := ⟨_, _, _, _, _, _, _, _, _, _, _, _, _, _, _, _, _, _, _, _, _, _, _, _, _, _, _⟩) ⟨?B, ?X, ?T, ?O, rfl, rfl, rfl, ?dp, ?un, rfl⟩ ?F ?N hl XB TB ?D ?_
  case F => k_asm
  case N => k_asm
  case B => assumption
  case X => k_asm
  case T => k_asm
  case D => assumption
  case O => exact ⟨fun p hp => Nat.ne_of_lt (l1 p hp), fun p hp => neN (by have := ltN (l1 p hp); omega), l2, l5, l4, by assumption, by assumption⟩
  case dp => rw [depth_deeper]; dsimp only; omega
  case un => show au + 3 + 5 * 32 < cLine; omega
  intro g' S0 n t' h' tk' T9 F9 N9 off9 B9 X9 P9 D9
  dsimp only
  k_steps
  exact hret _ _ _ _ _ (by assumption) (by assumption) off9
end Spl
end Mine
end TextSpl
section TextLawA
open PySem PySem.W PyProof.Rows PySem.Calls
set_option maxRecDepth 100000
set_option maxHeartbeats 8000000
set_option pp.deepTerms false
set_option pp.maxSteps 3000
set_option linter.unusedVariables false
namespace Mine
/-! ## the law -/
abbrev lawEnv (L f : Addr) (cd : Value) : Env := envOf (Str.ofString "law") (fScope (st 39)) L f cd
abbrev lawA (L f : Addr) (cd : Value) : Around := callerA.deeper (lawEnv L f cd)
def lawFor : Stmt := (fBody (st 39)).getD 4 (.Pass default)
def lawTurn : List Stmt := forBody lawFor
section Wrap
variable {w : World} {mean : ExcName → Option Value} {mg mb : Str → Option Value} {A A₀ : Around} {env : Env} {outer : List Env} {base h₀ : Heap} {L : Addr} {m : Str → Option Value} {news : List (Addr × Obj)} {s : Shared} {Q E : Value → Shared → Prop} {l : List Nat} {t : Tok}
theorem quote_S (B : Below A₀ base outer h₀) (F : Fr h₀ L s.heap m) (X : (KK w.params).In h₀) (N : News h₀ L s.heap news) (T : Top VQ (looseW VQ LQ) mean mg mb h₀) (hA : A.frames = some (env :: outer)) (hf : env.frame = some L) (hk : env.scope.kind = .function) (hd : A.depth < recursionLimit) (hl : IsWord l)
    (h : ∀ t' h' tk', Fr h₀ L h' m → News h₀ L h' news → Q (.str (S (quoteF l)) t') { s with heap := h', toks := tk' }) :
    wpAny (model PySem.Challenge.rw_oc0301_01.row.prog w) A (call (.ref 808) [.str (S l) t]) Q E s := quote_spec (x := S l) B F X N T hA hf hk hd hl h
theorem esc_S (B : Below A₀ base outer h₀) (F : Fr h₀ L s.heap m) (X : (KK w.params).In h₀) (N : News h₀ L s.heap news) (T : Top VQ (looseW VQ LQ) mean mg mb h₀) (hA : A.frames = some (env :: outer)) (hf : env.frame = some L) (hk : env.scope.kind = .function) (hd : A.depth < recursionLimit) (hl : IsWord l)
    (h : ∀ t' h' tk', Fr h₀ L h' m → News h₀ L h' news → Q (.str (S (dressF l)) t') { s with heap := h', toks := tk' }) :
    wpAny (model PySem.Challenge.rw_oc0301_01.row.prog w) A (call (.ref 58) [.str (S (quoteF l)) t]) Q E s := by
  refine esc_spec (x := S (quoteF l)) B F X N T hA hf hk hd ?_ fun t' h' tk' F' N' _ => h t' h' tk' F' N'
  rw [S_len]
  have h3 := hl.1
  have hrl := rep_len 39 [39, 34, 39, 34, 39] 5 (by decide) (by decide) l
  unfold quoteF
  split
  · simp
  · split
    · omega
    · simp; omega
end Wrap
section LawA
local macro_rules | `(tactic| walk_at "eval Name") => `(tactic| (k_here; k_dflt (refine' ld ?k1 ?k2 ?_; (case k1 => k_asm); (case k2 => first | exact rfl | assumption); k_whole)))
local macro_rules | `(tactic| walk_at "call ref") => `(tactic| (k_here; (with_reducible show wpAny _ _ (call (Value.ref 808) _) _ _ _); k_dflt (refine' quote_S ?B ?F ?X ?N ?T rfl rfl rfl ?d ?w ?_; (case F => k_asm); (case B => assumption); (case X => k_asm); (case N => k_asm); (case T => k_asm); (case d => k_room); (case w => assumption); k_whole); intro _ h' _ F' N'))
local macro_rules | `(tactic| walk_at "call ref") => `(tactic| (k_here; (with_reducible show wpAny _ _ (call (Value.ref 58) _) _ _ _); k_dflt (refine' esc_S ?B ?F ?X ?N ?T rfl rfl rfl ?d ?w ?_; (case F => k_asm); (case B => assumption); (case X => k_asm); (case N => k_asm); (case T => k_asm); (case d => k_room); (case w => assumption); k_whole); intro _ h' _ F' N'))
/-- the dress of the word -/
theorem law_b0 : ∀ {w : World} {mean : ExcName → Option Value} {mg mb : Str → Option Value} {h₀ : Heap} {L f : Addr} {cd : Value} {m : Str → Option Value} {news : List (Addr × Obj)} {s : Shared} {Q : Flow → Shared → Prop} {E : Value → Shared → Prop} {x : List Nat} {t : Tok} {rest : List Stmt}
    (_ : Below callerA h₀ [] h₀) (_ : (KK w.params).In h₀) (_ : Top VQ (looseW VQ LQ) mean mg mb h₀) (_ : Fr h₀ L s.heap m) (_ : News h₀ L s.heap news) (_ : m (Str.ofString "word") = some (.str (S x) t)) (_ : IsWord x)
    (_ : ∀ h' tk' t', Fr h₀ L h' (fun y => if y = Str.ofString "dress" then some (.str (S (dressF x)) t') else m y) → News h₀ L h' news → wpAny (model PySem.Challenge.rw_oc0301_01.row.prog w) (lawA L f cd) (execs rest (lawEnv L f cd)) Q E { s with heap := h', toks := tk' }),
    wpAny (model PySem.Challenge.rw_oc0301_01.row.prog w) (lawA L f cd) (execs (lawTurn.getD 0 (.Pass default) :: rest) (lawEnv L f cd)) Q E s := by
  w_on
  k_fill
  intro w mean mg mb h₀ L f cd m news s Q E x t rest B X T F N e hx h
  show wpAny _ _ (execs (Stmt.Assign _ _ _ :: _) _) _ _ _
  k_steps
  all_goals try dsimp only at *
  exact h _ _ _ (by assumption) (by assumption)
end LawA
end Mine
end TextLawA
section TextLawB
open PySem PySem.W PyProof.Rows PySem.Calls
set_option maxRecDepth 100000
set_option maxHeartbeats 8000000
set_option pp.deepTerms false
set_option pp.maxSteps 3000
set_option linter.unusedVariables false
namespace Mine
local macro_rules | `(tactic| walk_at "pad") => `(tactic| skip)
def ifBody (s : Stmt) : List Stmt := match s with | .If _ b _ _ => b | _ => []
def app1 : Stmt := (ifBody (lawTurn.getD 1 (.Pass default))).getD 0 (.Pass default)
def app7 : Stmt := (ifBody (lawTurn.getD 7 (.Pass default))).getD 0 (.Pass default)
theorem news_ne {h₀ h : Heap} {L a b : Addr} {o p : Obj} {news : List (Addr × Obj)} (N : News h₀ L h news) (ha : (a, o) ∈ news) (hb : (b, p) ∈ news) (hc : o.cls ≠ p.cls) : a ≠ b := fun e => by
  have h1 := (N _ ha).1
  have h2 := (N _ hb).1
  have e' : (a, o).1 = (b, p).1 := e
  rw [e'] at h1
  exact hc (congrArg Obj.cls (Option.some.inj (h1.symm.trans h2)))
/-- what the turns keep, in the ledger -/
structure Led (tl : List (Addr × Obj)) (hp rw : Addr) : Prop where
  ne : hp ≠ rw
  oh : ∀ p ∈ tl, p.1 ≠ hp
  or : ∀ p ∈ tl, p.1 ≠ rw
section LawB
local macro_rules | `(tactic| walk_at "eval Name") => `(tactic| (k_here; k_dflt (refine' ld ?k1 ?k2 ?_; (case k1 => k_asm); (case k2 => first | exact rfl | assumption); k_whole)))
local macro_rules | `(tactic| walk_at "call ref") => `(tactic| (k_here; (with_reducible show wpAny _ _ (call (Value.ref 820) _) _ _ _); (refine Hold.out ?_)))
local macro_rules | `(tactic| walk_at "call builtin:list.append") => `(tactic| (refine Hold.out ?_))
def AppStep (S0 : Stmt) : Prop := ∀ {w : World} {mean : ExcName → Option Value} {mg mb : Str → Option Value} {h₀ : Heap} {L f hp rw : Addr} {cd : Value} {m : Str → Option Value} {tl : List (Addr × Obj)} {ps : List (List Nat × Tok)} {n1 n2 : Nat} {vals : List Value} {s : Shared} {Q : Flow → Shared → Prop} {E : Value → Shared → Prop} {x : List Nat} {t : Tok} {rest : List Stmt}
    (_ : Below callerA h₀ [] h₀) (_ : (KK w.params).In h₀) (_ : Top VQ (looseW VQ LQ) mean mg mb h₀) (_ : Fr h₀ L s.heap m) (_ : News h₀ L s.heap ((hp, hObj ps n1) :: (rw, W.listOf vals.toArray n2) :: tl)) (_ : Led tl hp rw) (_ : m (Str.ofString "word") = some (.str (S x) t)) (_ : m (Str.ofString "row") = some (.ref rw)) (_ : IsWord x) (_ : vals.length ≤ 90)
    (_ : ∀ h' tk' D tl' n2', Fr h₀ L h' m → News h₀ L h' ((hp, hObj ps n1) :: (rw, W.listOf (vals ++ [Value.ref D]).toArray n2') :: tl') → Led tl' hp rw → (∀ p ∈ tl, p ∈ tl') → RowIn tl' (.ref D) x → wpAny (model PySem.Challenge.rw_oc0301_01.row.prog w) (lawA L f cd) (execs rest (lawEnv L f cd)) Q E { s with heap := h', toks := tk' }),
    wpAny (model PySem.Challenge.rw_oc0301_01.row.prog w) (lawA L f cd) (execs (S0 :: rest) (lawEnv L f cd)) Q E s
theorem law_app1 : AppStep app1 := by
  unfold AppStep
  w_on
  k_fill
  intro w mean mg mb h₀ L f hp rw cd m tl ps n1 n2 vals s Q E x t rest B X T F N O e1 e2 hx hle h
  show wpAny _ _ (execs (Stmt.Expr _ _ :: _) _) _ _ _
  k_steps
  unfold Hold
  refine' ranks_spec ?B ?F ?X ?N ?T rfl rfl rfl ?d ?u rfl hx ?_
  case F => k_asm
  case B => assumption
  case X => k_asm
  case N => k_asm
  case T => k_asm
  case d => k_room
  case u => exact Nat.le_of_ble_eq_true rfl
  intro h2 tk2 r vs n F2 N2 off2 hi2
  try dsimp only
  k_steps
  unfold Hold
  rename News _ _ _ _ => N3
  rename Fr _ _ _ _ => F3
  rename_i D3 h3 lD
  have c1 := news_ne N3 (.head _) (.tail _ (.tail _ (.tail _ (.head _)))) (show Value.type "tuple" ≠ Value.type "list" by decide)
  have c2 := news_ne N3 (.head _) (.tail _ (.tail _ (.head _))) (show Value.type "tuple" ≠ Value.type "list" by decide)
  have d1 : r ≠ rw := (off2 (rw, _) (.tail _ (.head _))).symm
  have d2 : r ≠ hp := (off2 (hp, _) (.head _)).symm
  refine gappend (D := rw) (vs := vals) (n := n2) (news := (hp, hObj ps n1) :: _ :: (r, W.listOf vs.toArray n) :: tl) F3 (fun p hp => N3 p (by
    simp only [List.mem_cons] at hp ⊢
    rcases hp with h | h | h | h | h
    · exact .inr (.inr (.inr (.inl h)))
    · exact .inr (.inr (.inl h))
    · exact .inl h
    · exact .inr (.inl h)
    · exact .inr (.inr (.inr (.inr h))))) (fun p hp => by
    simp only [List.mem_cons] at hp
    rcases hp with h | h | h | h
    · rw [h]; exact O.ne
    · rw [h]; exact c1
    · rw [h]; exact d1
    · exact O.or p h) (by omega) ?_
  intro h4 F4 N4
  try dsimp only
  k_steps
  refine h _ _ D3 ((D3, rowTup r x t) :: (r, W.listOf vs.toArray n) :: tl) (n2 + 1) F4 (fun p hp => ?_) ⟨O.ne, fun p hp => ?_, fun p hp => ?_⟩ (fun p hp => .tail _ (.tail _ hp)) ⟨D3, r, t, vs, n, rfl, .head _, .tail _ (.head _), hi2⟩
  · refine N4 p ?_
    simp only [List.mem_cons] at hp ⊢
    rcases hp with h | h | h | h | h
    · exact .inr (.inl h)
    · exact .inl h
    · exact .inr (.inr (.inl h))
    · exact .inr (.inr (.inr (.inl h)))
    · exact .inr (.inr (.inr (.inr h)))
  · simp only [List.mem_cons] at hp
    rcases hp with h | h | h
    · rw [h]; exact c2
    · rw [h]; exact d2
    · exact O.oh p h
  · simp only [List.mem_cons] at hp
    rcases hp with h | h | h
    · rw [h]; exact c1
    · rw [h]; exact d1
    · exact O.or p h
theorem law_app7 : AppStep app7 := by
  unfold AppStep
  w_on
  k_fill
  intro w mean mg mb h₀ L f hp rw cd m tl ps n1 n2 vals s Q E x t rest B X T F N O e1 e2 hx hle h
  show wpAny _ _ (execs (Stmt.Expr _ _ :: _) _) _ _ _
  k_steps
  unfold Hold
  refine' ranks_spec ?B ?F ?X ?N ?T rfl rfl rfl ?d ?u rfl hx ?_
  case F => k_asm
  case B => assumption
  case X => k_asm
  case N => k_asm
  case T => k_asm
  case d => k_room
  case u => exact Nat.le_of_ble_eq_true rfl
  intro h2 tk2 r vs n F2 N2 off2 hi2
  try dsimp only
  k_steps
  unfold Hold
  rename News _ _ _ _ => N3
  rename Fr _ _ _ _ => F3
  rename_i D3 h3 lD
  have c1 := news_ne N3 (.head _) (.tail _ (.tail _ (.tail _ (.head _)))) (show Value.type "tuple" ≠ Value.type "list" by decide)
  have c2 := news_ne N3 (.head _) (.tail _ (.tail _ (.head _))) (show Value.type "tuple" ≠ Value.type "list" by decide)
  have d1 : r ≠ rw := (off2 (rw, _) (.tail _ (.head _))).symm
  have d2 : r ≠ hp := (off2 (hp, _) (.head _)).symm
  refine gappend (D := rw) (vs := vals) (n := n2) (news := (hp, hObj ps n1) :: _ :: (r, W.listOf vs.toArray n) :: tl) F3 (fun p hp => N3 p (by
    simp only [List.mem_cons] at hp ⊢
    rcases hp with h | h | h | h | h
    · exact .inr (.inr (.inr (.inl h)))
    · exact .inr (.inr (.inl h))
    · exact .inl h
    · exact .inr (.inl h)
    · exact .inr (.inr (.inr (.inr h))))) (fun p hp => by
    simp only [List.mem_cons] at hp
    rcases hp with h | h | h | h
    · rw [h]; exact O.ne
    · rw [h]; exact c1
    · rw [h]; exact d1
    · exact O.or p h) (by omega) ?_
  intro h4 F4 N4
  try dsimp only
  k_steps
  refine h _ _ D3 ((D3, rowTup r x t) :: (r, W.listOf vs.toArray n) :: tl) (n2 + 1) F4 (fun p hp => ?_) ⟨O.ne, fun p hp => ?_, fun p hp => ?_⟩ (fun p hp => .tail _ (.tail _ hp)) ⟨D3, r, t, vs, n, rfl, .head _, .tail _ (.head _), hi2⟩
  · refine N4 p ?_
    simp only [List.mem_cons] at hp ⊢
    rcases hp with h | h | h | h | h
    · exact .inr (.inl h)
    · exact .inl h
    · exact .inr (.inr (.inl h))
    · exact .inr (.inr (.inr (.inl h)))
    · exact .inr (.inr (.inr (.inr h)))
  · simp only [List.mem_cons] at hp
    rcases hp with h | h | h
    · rw [h]; exact c2
    · rw [h]; exact d2
    · exact O.oh p h
  · simp only [List.mem_cons] at hp
    rcases hp with h | h | h
    · rw [h]; exact c1
    · rw [h]; exact d1
    · exact O.or p h
end LawB
end Mine
end TextLawB
section TextLawC
open PySem PySem.W PyProof.Rows PySem.Calls
set_option maxRecDepth 100000
set_option maxHeartbeats 8000000
set_option pp.deepTerms false
set_option pp.maxSteps 3000
set_option linter.unusedVariables false
namespace Mine
theorem row_word {prog : Program} {w : World} {A : Around} {E : Value → Shared → Prop} {s : Shared} {h₀ : Heap} {L a r : Addr} {news : List (Addr × Obj)} {x : List Nat} {t u : Tok} {value slice : PySem.Expr} {Q : Value → Shared → Prop}
    (N : News h₀ L s.heap news) (hm : (a, rowTup r x t) ∈ news) (h : Q (.str (S x) t) s)
    (hs : subscripted slice false (.ref a) (.int 1 u) = operate [.ref a, .int 1 u] (getItem (.ref a) (.int 1 u)) := by with_unfolding_all rfl) :
    wpAny (model prog w) A (subscriptTail value slice (.ref a) (.int 1 u)) Q E s := by
  have ht : IsTup s.heap a #[.ref r, .str (S x) t] := News.isTup N hm
  exact tail_any ht.typeIs slot_tuple_getitem.lookup (getItem_tuple ht (by omega) (by decide) (seqIndex_of (n := 2) (by decide) (by decide)) (x := .str (S x) t) (by rfl) h) hs
theorem codeC_len : ∀ c ∈ SIGNS, (codeC c).length ≤ 15 := by decide +kernel
theorem flat_len : ∀ l : List Nat, (∀ c ∈ l, c ∈ SIGNS) → (l.flatMap codeC).length ≤ 15 * l.length
  | [], _ => by simp
  | c :: l, h => by
    have h1 := codeC_len c (h c (.head _))
    have h2 := flat_len l fun d hd => h d (.tail _ hd)
    rw [List.flatMap_cons, List.length_append, List.length_cons]; omega
theorem dress_len {x : List Nat} (hx : IsWord x) : (dressF x).length ≤ 50 := by
  have h3 := hx.1
  cases e : isPlain x with
  | true => rw [(dress_safe e).1]; omega
  | false =>
    have := flat_len x hx.2
    rw [(dress_quoted e).1, List.length_cons, List.length_append, List.length_cons, List.length_nil]; omega
def pz9 (c : Nat) : Bool := !(Builtin.Str.occurrences (Str.ofString "<>\"\t\n\r") ⟨#[c]⟩ 0 (Str.ofString "<>\"\t\n\r").length 1).isEmpty
theorem pz9_free {c : Nat} (h : c ≠ 60 ∧ c ≠ 62 ∧ c ≠ 34 ∧ c ≠ 9 ∧ c ≠ 10 ∧ c ≠ 13) : pz9 c = false := by
  unfold pz9
  have e := StrLaws.found_one (Str.ofString "<>\"\t\n\r") c
  have e2 : (Str.ofString "<>\"\t\n\r").cps.toList = [60, 62, 34, 9, 10, 13] := by decide +kernel
  rw [e, e2]
  obtain ⟨h1, h2, h3, h4, h5, h6⟩ := h
  simp [h1, h2, h3, h4, h5, h6]
theorem filter9 (x : List Nat) : (dressF x).filter pz9 = [] := by
  rw [List.filter_eq_nil_iff]
  intro c hc
  rw [pz9_free (dress_free x c hc)]
  exact Bool.false_ne_true
open Classical in
theorem ne_nil {prog : Program} {w : World} {A : Around} {E : Value → Shared → Prop} {s : Shared} {h₀ : Heap} {L a b : Addr} {news : List (Addr × Obj)} {ka kb : Nat} {Q : Value → Shared → Prop}
    (N : News h₀ L s.heap news) (ha : (a, W.listOf #[] ka) ∈ news) (hb : (b, W.listOf #[] kb) ∈ news) (hu : A.units + 64 < cLine) (h : Q (.bool false) s) :
    wpAny (model prog w) A (compareOp .NotEq (.ref a) (.ref b)) Q E s := by
  refine kqd_ne (oa := W.listOf (([] : List Value).toArray) ka) (ob := W.listOf (([] : List Value).toArray) kb) (xs := []) (ys := []) (ds := []) (es := []) (n₁ := []) (n₂ := []) (ka := ka) (kb := kb) N ha rfl rfl DatAll.nil (fun _ h => nomatch h) hb rfl rfl DatAll.nil (fun _ h => nomatch h) (fun _ h => nomatch h) (fun _ h => nomatch h) hu ?_
  rw [decide_eq_true rfl]
  exact h
section LawC
local macro_rules | `(tactic| walk_at "eval Name") => `(tactic| (k_here; k_dflt (refine' ld ?k1 ?k2 ?_; (case k1 => k_asm); (case k2 => first | exact rfl | assumption); k_whole)))
local macro_rules | `(tactic| walk_at "ite") => `(tactic| first
  | (with_reducible refine iteT ?hite ?_; (case hite => first | with_reducible assumption | decide +kernel))
  | (with_reducible refine iteF ?hite ?_; (case hite => first | with_reducible assumption | decide +kernel)))
local macro_rules | `(tactic| walk_at "call ref") => `(tactic| (k_here; (with_reducible show wpAny _ _ (call (Value.ref 808) _) _ _ _); k_dflt (refine' quote_S ?B ?F ?X ?N ?T rfl rfl rfl ?d ?w ?_; (case F => k_asm); (case B => assumption); (case X => k_asm); (case N => k_asm); (case T => k_asm); (case d => k_room); (case w => assumption); k_whole); intro _ h' _ F' N'))
local macro_rules | `(tactic| walk_at "call ref") => `(tactic| (k_here; (with_reducible show wpAny _ _ (call (Value.ref 58) _) _ _ _); k_dflt (refine' esc_S ?B ?F ?X ?N ?T rfl rfl rfl ?d ?w ?_; (case F => k_asm); (case B => assumption); (case X => k_asm); (case N => k_asm); (case T => k_asm); (case d => k_room); (case w => assumption); k_whole); intro _ h' _ F' N'))
local macro_rules | `(tactic| walk_at "subscriptTail") => `(tactic| (k_here; (with_reducible show wpAny _ _ (subscriptTail _ _ (Value.ref _) (Value.int 1 _)) _ _ _); k_dflt (refine' row_word ?k1 ?k2 ?_ ?k6; (case k1 => k_asm); (case k2 => assumption); (case k6 => with_unfolding_all rfl); k_whole)))
theorem law_b8 : ∀ {w : World} {mean : ExcName → Option Value} {mg mb : Str → Option Value} {h₀ : Heap} {L f a r : Addr} {cd : Value} {m : Str → Option Value} {news : List (Addr × Obj)} {s : Shared} {Q : Flow → Shared → Prop} {E : Value → Shared → Prop} {x : List Nat} {t t2 : Tok} {rest : List Stmt}
    (_ : Below callerA h₀ [] h₀) (_ : (KK w.params).In h₀) (_ : Top VQ (looseW VQ LQ) mean mg mb h₀) (_ : Fr h₀ L s.heap m) (_ : News h₀ L s.heap news) (_ : m (Str.ofString "told") = some (.str (S (dressF x)) t)) (_ : m (Str.ofString "first") = some (.ref a)) (_ : (a, rowTup r x t2) ∈ news) (_ : IsWord x)
    (_ : ∀ h' tk', Fr h₀ L h' m → News h₀ L h' news → wpAny (model PySem.Challenge.rw_oc0301_01.row.prog w) (lawA L f cd) (execs rest (lawEnv L f cd)) Q E { s with heap := h', toks := tk' }),
    wpAny (model PySem.Challenge.rw_oc0301_01.row.prog w) (lawA L f cd) (execs (lawTurn.getD 8 (.Pass default) :: rest) (lawEnv L f cd)) Q E s := by
  w_on
  k_fill
  intro w mean mg mb h₀ L f a r cd m news s Q E x t t2 rest B X T F N e1 e2 hm hx h
  show wpAny _ _ (execs (Stmt.If _ _ _ _ :: _) _) _ _ _
  have hne : (S (dressF x) != S (dressF x)) = false := by simp
  k_steps
  exact h _ _ (by assumption) (by assumption)
local macro_rules | `(tactic| walk_at "pyIter str") => `(tactic| (refine Hold.out ?_))
local macro_rules | `(tactic| walk_at "compareOp NotEq ref ref") => `(tactic| (refine Hold.out ?_))
theorem law_b9 : ∀ {w : World} {mean : ExcName → Option Value} {mg mb : Str → Option Value} {h₀ : Heap} {L f : Addr} {cd : Value} {m : Str → Option Value} {news : List (Addr × Obj)} {s : Shared} {Q : Flow → Shared → Prop} {E : Value → Shared → Prop} {x : List Nat} {t : Tok} {rest : List Stmt}
    (_ : Below callerA h₀ [] h₀) (_ : (KK w.params).In h₀) (_ : Top VQ (looseW VQ LQ) mean mg mb h₀) (_ : Fr h₀ L s.heap m) (_ : News h₀ L s.heap news) (_ : m (Str.ofString "told") = some (.str (S (dressF x)) t)) (_ : IsWord x)
    (_ : ∀ h' tk', Fr h₀ L h' m → News h₀ L h' news → wpAny (model PySem.Challenge.rw_oc0301_01.row.prog w) (lawA L f cd) (execs rest (lawEnv L f cd)) Q E { s with heap := h', toks := tk' }),
    wpAny (model PySem.Challenge.rw_oc0301_01.row.prog w) (lawA L f cd) (execs (lawTurn.getD 9 (.Pass default) :: rest) (lawEnv L f cd)) Q E s := by
  w_on
  k_fill
  intro w mean mg mb h₀ L f cd m news s Q E x t rest B X T F N e1 hx h
  show wpAny _ _ (execs (Stmt.If _ _ _ _ :: _) _) _ _ _
  k_steps
  unfold Hold
  refine comp_chars (pz := pz9) (d := fun c => .str ⟨#[c]⟩) rfl F N (Nat.le_trans (dress_len hx) (by decide)) ?_ ?_ ?_
  · intro C c u s₂ m₂ E' hkp hn hm
    refine wpAny_tests_one ?_
    walk1
    refine wpAny_Name (wpAny_loadName_local rfl rfl hn hm ?_) (by decide)
    walk1
    walk1
    walk1
    exact ⟨rfl, _, _, rfl, fun _ _ e => e⟩
  · intro C c u s₂ m₂ E' hkp hp hn hm
    refine wpAny_Name (wpAny_loadName_local rfl rfl hn hm ?_) (by decide)
    exact ⟨.str _ _, _, _, rfl, fun _ _ e => e⟩
  · intro D ys n h' tk F' N' off hys
    rw [filter9] at hys
    cases hys
    try dsimp only
    k_steps
    unfold Hold
    rename News _ _ _ _ => N1
    refine ne_nil N1 (.tail _ (.head _)) (.head _) (Nat.le_of_ble_eq_true rfl) ?_
    replace N1 := cb_drop N1 (fun p hp => List.Mem.tail _ (List.Mem.tail _ hp))
    k_steps
    exact h _ _ (by assumption) (by assumption)
local macro_rules | `(tactic| walk_at "call ref") => `(tactic| (k_here; (with_reducible show wpAny _ _ (call (Value.ref 827) _) _ _ _); (refine Hold.out ?_)))
local macro_rules | `(tactic| walk_at "call ref") => `(tactic| (k_here; (with_reducible show wpAny _ _ (call (Value.ref 800) _) _ _ _); (refine Hold.out ?_)))
theorem quote_len {x : List Nat} (hx : IsWord x) : (quoteF x).length ≤ 17 := by
  have h3 := hx.1
  have hrl := rep_len 39 [39, 34, 39, 34, 39] 5 (by decide) (by decide) x
  unfold quoteF
  split
  · simp
  · split
    · omega
    · rw [List.length_cons, List.length_append, List.length_cons, List.length_nil]; omega
theorem strOk_word {x : List Nat} (hx : IsWord x) : PyData.strOk (S x) = true := by
  have h : ∀ c ∈ SIGNS, c < 1114112 := by decide
  unfold PyData.strOk
  simp
  exact fun c hc => h c (hx.2 c hc)
open Classical in
theorem ne_one {prog : Program} {w : World} {A : Around} {E : Value → Shared → Prop} {s : Shared} {h₀ : Heap} {L a b : Addr} {news : List (Addr × Obj)} {ka kb : Nat} {x : List Nat} {t u : Tok} {Q : Value → Shared → Prop}
    (N : News h₀ L s.heap news) (ha : (a, W.listOf #[.str (S x) t] ka) ∈ news) (hb : (b, W.listOf #[.str (S x) u] kb) ∈ news) (hok : PyData.strOk (S x) = true) (hu : A.units + 64 < cLine) (h : Q (.bool false) s) :
    wpAny (model prog w) A (compareOp .NotEq (.ref a) (.ref b)) Q E s := by
  refine kqd_ne (oa := W.listOf (([.str (S x) t] : List Value).toArray) ka) (ob := W.listOf (([.str (S x) u] : List Value).toArray) kb) (xs := [.str (S x) t]) (ys := [.str (S x) u]) (ds := [.str (S x)]) (es := [.str (S x)]) (n₁ := []) (n₂ := []) (ka := ka) (kb := kb) N ha rfl rfl (.cons (.str _ _) DatAll.nil) (fun _ h => nomatch h) hb rfl rfl (.cons (.str _ _) DatAll.nil) (fun _ h => nomatch h) (fun d hd => ?_) (fun d hd => ?_) hu ?_
  · rw [List.mem_singleton.mp hd]; exact hok
  · rw [List.mem_singleton.mp hd]; exact hok
  rw [decide_eq_true rfl]
  exact h
theorem law_b10 : ∀ {w : World} {mean : ExcName → Option Value} {mg mb : Str → Option Value} {h₀ : Heap} {L f a r : Addr} {cd : Value} {m : Str → Option Value} {news : List (Addr × Obj)} {s : Shared} {Q : Flow → Shared → Prop} {E : Value → Shared → Prop} {x : List Nat} {t t2 : Tok} {rest : List Stmt}
    (_ : Below callerA h₀ [] h₀) (_ : (KK w.params).In h₀) (_ : Quiet w.params h₀) (_ : Top VQ (looseW VQ LQ) mean mg mb h₀) (_ : Fr h₀ L s.heap m) (_ : News h₀ L s.heap news) (_ : m (Str.ofString "told") = some (.str (S (dressF x)) t)) (_ : m (Str.ofString "first") = some (.ref a)) (_ : (a, rowTup r x t2) ∈ news) (_ : IsWord x)
    (_ : ∀ h' tk', Fr h₀ L h' m → News h₀ L h' news → wpAny (model PySem.Challenge.rw_oc0301_01.row.prog w) (lawA L f cd) (execs rest (lawEnv L f cd)) Q E { s with heap := h', toks := tk' }),
    wpAny (model PySem.Challenge.rw_oc0301_01.row.prog w) (lawA L f cd) (execs (lawTurn.getD 10 (.Pass default) :: rest) (lawEnv L f cd)) Q E s := by
  w_on
  k_fill
  intro w mean mg mb h₀ L f a r cd m news s Q E x t t2 rest B X Z T F N e1 e2 hm hx h
  show wpAny _ _ (execs (Stmt.If _ _ _ _ :: _) _) _ _ _
  k_steps
  unfold Hold
  refine' read_spec (l := quoteF x) ?B ?F ?X ?N ?T rfl rfl rfl ?d ?u rfl (quote_len hx) ?_
  case F => k_asm
  case B => assumption
  case X => k_asm
  case N => k_asm
  case T => k_asm
  case d => k_room
  case u => exact Nat.le_of_ble_eq_true rfl
  intro h2 tk2 t2' F2 N2
  try dsimp only
  k_steps
  unfold Hold
  refine' split_spec (l := x) B ?F X Z ?N T X T rfl rfl ?d ?u rfl hx ?_
  case F => k_asm
  case N => k_asm
  case d => k_room
  case u => exact Nat.le_of_ble_eq_true rfl
  intro S0 n t3 h3 tk3 F3 N3 off3
  try dsimp only
  have hm3 : (a, rowTup r x t2) ∈ (S0, W.listOf #[.str (S x) t3] n) :: news := .tail _ hm
  k_steps
  unfold Hold
  rename News _ _ _ _ => N1
  refine ne_one N1 (.tail _ (.head _)) (.head _) (strOk_word hx) (Nat.le_of_ble_eq_true rfl) ?_
  replace N1 := cb_drop N1 (fun p hp => List.Mem.tail _ (List.Mem.tail _ hp))
  clear hm3
  k_steps
  exact h _ _ (by assumption) (by assumption)
end LawC
end Mine
end TextLawC
section TextLawD
open PySem PySem.W PyProof.Rows PySem.Calls
set_option maxRecDepth 100000
set_option maxHeartbeats 8000000
set_option pp.deepTerms false
set_option pp.maxSteps 3000
set_option linter.unusedVariables false
namespace Mine
section LawD
local macro_rules | `(tactic| walk_at "eval Name") => `(tactic| (k_here; k_dflt (refine' ld ?k1 ?k2 ?_; (case k1 => k_asm); (case k2 => first | exact rfl | assumption); k_whole)))
local macro_rules | `(tactic| walk_at "ite") => `(tactic| first
  | (with_reducible refine iteT ?hite ?_; (case hite => first | with_reducible assumption | decide +kernel))
  | (with_reducible refine iteF ?hite ?_; (case hite => first | with_reducible assumption | decide +kernel)))
local macro_rules | `(tactic| walk_at "compareOp Eq ref ref") => `(tactic| (refine Hold.out ?_))
local macro_rules | `(tactic| walk_at "call builtin:min") => `(tactic| (refine Hold.out ?_))
local macro_rules | `(tactic| walk_at "call builtin:list.remove") => `(tactic| (refine Hold.out ?_))
theorem law_b456 : ∀ {w : World} {mean : ExcName → Option Value} {mg mb : Str → Option Value} {h₀ : Heap} {L f hp rw : Addr} {cd : Value} {m : Str → Option Value} {tl : List (Addr × Obj)} {ps : List (List Nat × Tok)} {n1 n2 : Nat} {vals : List Value} {xs : List (List Nat)} {s : Shared} {Q : Flow → Shared → Prop} {E : Value → Shared → Prop} {rest : List Stmt}
    (_ : Below callerA h₀ [] h₀) (_ : (KK w.params).In h₀) (_ : Top VQ (looseW VQ LQ) mean mg mb h₀) (_ : Fr h₀ L s.heap m) (_ : News h₀ L s.heap ((hp, hObj ps n1) :: (rw, W.listOf vals.toArray n2) :: tl)) (_ : Led tl hp rw) (_ : m (Str.ofString "row") = some (.ref rw)) (_ : RowAll tl vals xs) (_ : ∀ x ∈ xs, IsWord x) (_ : 0 < vals.length) (_ : vals.length ≤ 90)
    (_ : ∀ (j : Nat) (v : Value) (y : List Nat) h' tk' n2', vals[j]? = some v → xs[j]? = some y → (∀ i, i < xs.length → ¬ kAt xs i < kAt xs j) → Fr h₀ L h' (fun z => if z = Str.ofString "first" then some v else m z) → News h₀ L h' ((hp, hObj ps n1) :: (rw, W.listOf (vals.eraseIdx j).toArray n2') :: tl) → wpAny (model PySem.Challenge.rw_oc0301_01.row.prog w) (lawA L f cd) (execs rest (lawEnv L f cd)) Q E { s with heap := h', toks := tk' }),
    wpAny (model PySem.Challenge.rw_oc0301_01.row.prog w) (lawA L f cd) (execs (lawTurn.getD 4 (.Pass default) :: lawTurn.getD 5 (.Pass default) :: lawTurn.getD 6 (.Pass default) :: rest) (lawEnv L f cd)) Q E s := by
  w_on
  k_fill
  intro w mean mg mb h₀ L f hp rw cd m tl ps n1 n2 vals xs s Q E rest B X T F N O e1 hRA hw hne hle h
  show wpAny _ _ (execs (Stmt.If _ _ _ _ :: _) _) _ _ _
  k_steps
  unfold Hold
  rename News _ _ _ _ => N1
  rename Fr _ _ _ _ => F1
  refine PySem.SeqAt.eq_list_lengthsAt (PySem.IsL.isList (n := n2) (N1 _ (.tail _ (.tail _ (.head _)))).1) (PySem.IsL.isList (n := 0) (items := #[]) (N1 _ (.head _)).1) (by rw [List.size_toArray]; exact bne_iff_ne.mpr (by show vals.length ≠ 0; omega)) (Nat.le_of_ble_eq_true rfl) ?_
  replace N1 := cb_drop N1 (fun p hp => List.Mem.tail _ hp)
  k_steps
  show wpAny _ _ (exec (Stmt.Assign _ _ _) _) _ _ _
  k_steps
  unfold Hold
  rename News _ _ _ _ => N2
  rename Fr _ _ _ _ => F2
  have sw : ∀ {h : Heap} {o : Obj}, News h₀ L h ((hp, hObj ps n1) :: (rw, o) :: tl) → News h₀ L h ((rw, o) :: (hp, hObj ps n1) :: tl) := fun N p hp => N p (by
    simp only [List.mem_cons] at hp ⊢
    rcases hp with h | h | h
    · exact .inr (.inl h)
    · exact .inl h
    · exact .inr (.inr h))
  have sw' : ∀ {h : Heap} {o : Obj}, News h₀ L h ((rw, o) :: (hp, hObj ps n1) :: tl) → News h₀ L h ((hp, hObj ps n1) :: (rw, o) :: tl) := fun N p hp => N p (by
    simp only [List.mem_cons] at hp ⊢
    rcases hp with h | h | h
    · exact .inr (.inl h)
    · exact .inl h
    · exact .inr (.inr h))
  have hRA2 := hRA.mono (tl' := (hp, hObj ps n1) :: tl) (fun p hp => .tail _ hp)
  have hlx := hRA.1
  refine min_row rfl F2 (sw N2) hRA2 hw hne (by omega) (Nat.le_of_ble_eq_true rfl) ?_
  intro j v h3 tk3 hv q1 q2 F3 N3
  replace N3 := sw' N3
  try dsimp only
  k_steps
  show wpAny _ _ (exec (Stmt.Expr _ _) _) _ _ _
  k_steps
  unfold Hold
  rename News _ _ _ _ => N4
  rename Fr _ _ _ _ => F4
  have hjx : j < vals.length := by
    rcases Nat.lt_or_ge j vals.length with q | q
    · exact q
    · rw [List.getElem?_eq_none q] at hv; cases hv
  have gj : xs[j]? = some (xs.getD j []) := by simp [List.getD, show j < xs.length by omega]
  refine remove_row (j := j) F4 (sw N4) (fun p hp => ?_) hRA2 (by omega) (Nat.le_of_ble_eq_true rfl) hv (fun i hi e => ?_) ?_
  · rcases List.mem_cons.mp hp with rfl | hp
    · exact O.ne
    · exact O.or p hp
  · have := q2 i hi
    unfold kAt at this
    rw [e] at this
    exact absurd this (List.lt_irrefl _)
  intro h5 n5 F5 N5
  replace N5 := sw' N5
  try dsimp only
  k_steps
  exact h j v _ _ _ _ hv gj (fun i hi => q1 i (by omega)) (by assumption) (by assumption)
end LawD
end Mine
end TextLawD
section TextLawE
open PySem PySem.W PyProof.Rows PySem.Calls
set_option maxRecDepth 100000
set_option maxHeartbeats 8000000
set_option pp.deepTerms false
set_option pp.maxSteps 3000
set_option linter.unusedVariables false
namespace Mine
section LawE
local macro_rules | `(tactic| walk_at "eval Name") => `(tactic| (k_here; k_dflt (refine' ld ?k1 ?k2 ?_; (case k1 => k_asm); (case k2 => first | exact rfl | assumption); k_whole)))
local macro_rules | `(tactic| walk_at "execs cons") => `(tactic| (refine Hold.out ?_))
/-- an if that is not taken -/
def NoStep (S0 : Stmt) (dd : Int) : Prop := ∀ {w : World} {mean : ExcName → Option Value} {mg mb : Str → Option Value} {h₀ : Heap} {L f : Addr} {cd : Value} {m : Str → Option Value} {news : List (Addr × Obj)} {s : Shared} {Q : Flow → Shared → Prop} {E : Value → Shared → Prop} {td : Tok} {rest : List Stmt}
    (_ : (KK w.params).In h₀) (_ : Top VQ (looseW VQ LQ) mean mg mb h₀) (_ : Fr h₀ L s.heap m) (_ : News h₀ L s.heap news) (_ : m (Str.ofString "deed") = some (.int dd td))
    (_ : ∀ h' tk', Fr h₀ L h' m → News h₀ L h' news → wpAny (model PySem.Challenge.rw_oc0301_01.row.prog w) (lawA L f cd) (execs rest (lawEnv L f cd)) Q E { s with heap := h', toks := tk' }),
    wpAny (model PySem.Challenge.rw_oc0301_01.row.prog w) (lawA L f cd) (execs (S0 :: rest) (lawEnv L f cd)) Q E s
local macro_rules | `(tactic| walk_at "no step") => `(tactic| (
  unfold NoStep
  w_on
  k_fill
  intro w mean mg mb h₀ L f cd m news s Q E td rest X T F N e1 h
  refine wpAny_execs_cons ?_
  show wpAny _ _ (exec (Stmt.If _ _ _ _) _) _ _ _
  k_steps
  first | exact h _ _ (by assumption) (by assumption) | (unfold Hold; exact h _ _ (by assumption) (by assumption))))
theorem b1no1 : NoStep (lawTurn.getD 1 (.Pass default)) 1 := by walk_at "no step"
theorem b1no2 : NoStep (lawTurn.getD 1 (.Pass default)) 2 := by walk_at "no step"
theorem b2no1 : NoStep (lawTurn.getD 2 (.Pass default)) 1 := by walk_at "no step"
theorem b2no2 : NoStep (lawTurn.getD 2 (.Pass default)) 2 := by walk_at "no step"
theorem b2no3 : NoStep (lawTurn.getD 2 (.Pass default)) 3 := by walk_at "no step"
theorem b7no1 : NoStep (lawTurn.getD 7 (.Pass default)) 1 := by walk_at "no step"
theorem b7no3 : NoStep (lawTurn.getD 7 (.Pass default)) 3 := by walk_at "no step"
/-- an if that is taken: the row grows -/
def YesStep (S0 : Stmt) (dd : Int) : Prop := ∀ {w : World} {mean : ExcName → Option Value} {mg mb : Str → Option Value} {h₀ : Heap} {L f hp rw : Addr} {cd : Value} {m : Str → Option Value} {tl : List (Addr × Obj)} {ps : List (List Nat × Tok)} {n1 n2 : Nat} {vals : List Value} {s : Shared} {Q : Flow → Shared → Prop} {E : Value → Shared → Prop} {x : List Nat} {t td : Tok} {rest : List Stmt}
    (_ : Below callerA h₀ [] h₀) (_ : (KK w.params).In h₀) (_ : Top VQ (looseW VQ LQ) mean mg mb h₀) (_ : Fr h₀ L s.heap m) (_ : News h₀ L s.heap ((hp, hObj ps n1) :: (rw, W.listOf vals.toArray n2) :: tl)) (_ : Led tl hp rw) (_ : m (Str.ofString "deed") = some (.int dd td)) (_ : m (Str.ofString "word") = some (.str (S x) t)) (_ : m (Str.ofString "row") = some (.ref rw)) (_ : IsWord x) (_ : vals.length ≤ 90)
    (_ : ∀ h' tk' D tl' n2', Fr h₀ L h' m → News h₀ L h' ((hp, hObj ps n1) :: (rw, W.listOf (vals ++ [Value.ref D]).toArray n2') :: tl') → Led tl' hp rw → (∀ p ∈ tl, p ∈ tl') → RowIn tl' (.ref D) x → wpAny (model PySem.Challenge.rw_oc0301_01.row.prog w) (lawA L f cd) (execs rest (lawEnv L f cd)) Q E { s with heap := h', toks := tk' }),
    wpAny (model PySem.Challenge.rw_oc0301_01.row.prog w) (lawA L f cd) (execs (S0 :: rest) (lawEnv L f cd)) Q E s
theorem b1yes0 : YesStep (lawTurn.getD 1 (.Pass default)) 0 := by
  unfold YesStep
  w_on
  k_fill
  intro w mean mg mb h₀ L f hp rw cd m tl ps n1 n2 vals s Q E x t td rest B X T F N O e0 e1 e2 hx hle h
  refine wpAny_execs_cons ?_
  show wpAny _ _ (exec (Stmt.If _ _ _ _) _) _ _ _
  k_steps
  unfold Hold
  show wpAny _ _ (execs (app1 :: []) _) _ _ _
  refine law_app1 B X T (by assumption) (by assumption) O e1 e2 hx hle ?_
  intro h' tk' D tl' n2' F' N' O' hs hr
  k_steps
  exact h _ _ _ _ _ F' N' O' hs hr
theorem b1yes3 : YesStep (lawTurn.getD 1 (.Pass default)) 3 := by
  unfold YesStep
  w_on
  k_fill
  intro w mean mg mb h₀ L f hp rw cd m tl ps n1 n2 vals s Q E x t td rest B X T F N O e0 e1 e2 hx hle h
  refine wpAny_execs_cons ?_
  show wpAny _ _ (exec (Stmt.If _ _ _ _) _) _ _ _
  k_steps
  unfold Hold
  show wpAny _ _ (execs (app1 :: []) _) _ _ _
  refine law_app1 B X T (by assumption) (by assumption) O e1 e2 hx hle ?_
  intro h' tk' D tl' n2' F' N' O' hs hr
  k_steps
  exact h _ _ _ _ _ F' N' O' hs hr
theorem b7yes2 : YesStep (lawTurn.getD 7 (.Pass default)) 2 := by
  unfold YesStep
  w_on
  k_fill
  intro w mean mg mb h₀ L f hp rw cd m tl ps n1 n2 vals s Q E x t td rest B X T F N O e0 e1 e2 hx hle h
  refine wpAny_execs_cons ?_
  show wpAny _ _ (exec (Stmt.If _ _ _ _) _) _ _ _
  k_steps
  unfold Hold
  show wpAny _ _ (execs (app7 :: []) _) _ _ _
  refine law_app7 B X T (by assumption) (by assumption) O e1 e2 hx hle ?_
  intro h' tk' D tl' n2' F' N' O' hs hr
  k_steps
  exact h _ _ _ _ _ F' N' O' hs hr
end LawE
end Mine
end TextLawE
section TextLawF
open PySem PySem.W PyProof.Rows PySem.Calls
set_option maxRecDepth 100000
set_option maxHeartbeats 8000000
set_option pp.deepTerms false
set_option pp.maxSteps 3000
set_option linter.unusedVariables false
namespace Mine
section LawF
local macro_rules | `(tactic| walk_at "eval Name") => `(tactic| (k_here; k_dflt (refine' ld ?k1 ?k2 ?_; (case k1 => k_asm); (case k2 => first | exact rfl | assumption); k_whole)))
section NR
local macro_rules | `(tactic| walk_at "call ref") => `(tactic| (k_here; (with_reducible show wpAny _ _ (call (Value.ref 65) _) _ _ _); (refine Hold.out ?_)))
local macro_rules | `(tactic| walk_at "call ref") => `(tactic| (k_here; (with_reducible show wpAny _ _ (call (Value.ref 72) _) _ _ _); (refine Hold.out ?_)))
local macro_rules | `(tactic| walk_at "call ref") => `(tactic| (k_here; (with_reducible show wpAny _ _ (call (Value.ref 79) _) _ _ _); (refine Hold.out ?_)))
local macro_rules | `(tactic| walk_at "call ref") => `(tactic| (k_here; (with_reducible show wpAny _ _ (call (Value.ref 86) _) _ _ _); (refine Hold.out ?_)))
theorem Led.offH {tl : List (Addr × Obj)} {hp rw : Addr} (O : Led tl hp rw) {o : Obj} : ∀ p ∈ (rw, o) :: tl, p.1 ≠ hp := fun p h => by
  rcases List.mem_cons.mp h with rfl | h
  · exact O.ne.symm
  · exact O.oh p h
theorem law_push : ∀ {w : World} {mean : ExcName → Option Value} {mg mb : Str → Option Value} {h₀ : Heap} {L f hp rw : Addr} {cd : Value} {m : Str → Option Value} {tl : List (Addr × Obj)} {ps : List (List Nat × Tok)} {n1 : Nat} {o : Obj} {s : Shared} {Q : Flow → Shared → Prop} {E : Value → Shared → Prop} {x : List Nat} {t td : Tok} {rest : List Stmt}
    (_ : Below callerA h₀ [] h₀) (_ : (KK w.params).In h₀) (_ : Top VQ (looseW VQ LQ) mean mg mb h₀) (_ : Fr h₀ L s.heap m) (_ : News h₀ L s.heap ((hp, hObj ps n1) :: (rw, o) :: tl)) (_ : Led tl hp rw) (_ : m (Str.ofString "deed") = some (.int 0 td)) (_ : m (Str.ofString "dress") = some (.str (S x) t)) (_ : m (Str.ofString "heap") = some (.ref hp)) (_ : ps.length ≤ 90)
    (_ : ∀ h' tk' n1', Fr h₀ L h' m → News h₀ L h' ((hp, hObj (pushF ps (x, t)) n1') :: (rw, o) :: tl) → Q .cont { s with heap := h', toks := tk' }),
    wpAny (model PySem.Challenge.rw_oc0301_01.row.prog w) (lawA L f cd) (execs (lawTurn.getD 2 (.Pass default) :: rest) (lawEnv L f cd)) Q E s := by
  w_on
  k_fill
  intro w mean mg mb h₀ L f hp rw cd m tl ps n1 o s Q E x t td rest B X T F N O e0 e1 e2 hle h
  show wpAny _ _ (execs (Stmt.If _ _ _ _ :: _) _) _ _ _
  k_steps
  unfold Hold
  refine' push_spec (ps := ps) (n := n1) (news := (rw, o) :: tl) ?B ?F ?X ?N ?T rfl rfl rfl ?d O.offH (by omega) ?_
  case F => k_asm
  case B => assumption
  case X => k_asm
  case N => k_asm
  case T => k_asm
  case d => k_room
  intro h2 tk2 F2 N2
  try dsimp only
  k_steps
  exact h _ _ _ (by assumption) (by assumption)
theorem law_pop : ∀ {w : World} {mean : ExcName → Option Value} {mg mb : Str → Option Value} {h₀ : Heap} {L f hp rw : Addr} {cd : Value} {m : Str → Option Value} {tl : List (Addr × Obj)} {ps : List (List Nat × Tok)} {n1 : Nat} {o : Obj} {s : Shared} {Q : Flow → Shared → Prop} {E : Value → Shared → Prop} {td : Tok} {rest : List Stmt}
    (_ : Below callerA h₀ [] h₀) (_ : (KK w.params).In h₀) (_ : Top VQ (looseW VQ LQ) mean mg mb h₀) (_ : Fr h₀ L s.heap m) (_ : News h₀ L s.heap ((hp, hObj ps n1) :: (rw, o) :: tl)) (_ : Led tl hp rw) (_ : m (Str.ofString "deed") = some (.int 1 td)) (_ : m (Str.ofString "heap") = some (.ref hp)) (_ : ps.length ≤ 90) (hne : 0 < ps.length)
    (_ : ∀ h' tk' n1', Fr h₀ L h' (fun y => if y = Str.ofString "told" then some (toV ps[0]) else m y) → News h₀ L h' ((hp, hObj (popF ps) n1') :: (rw, o) :: tl) → wpAny (model PySem.Challenge.rw_oc0301_01.row.prog w) (lawA L f cd) (execs rest (lawEnv L f cd)) Q E { s with heap := h', toks := tk' }),
    wpAny (model PySem.Challenge.rw_oc0301_01.row.prog w) (lawA L f cd) (execs (lawTurn.getD 3 (.Pass default) :: rest) (lawEnv L f cd)) Q E s := by
  w_on
  k_fill
  intro w mean mg mb h₀ L f hp rw cd m tl ps n1 o s Q E td rest B X T F N O e0 e2 hle hne h
  show wpAny _ _ (execs (Stmt.Try _ _ _ _ _ :: _) _) _ _ _
  k_steps
  unfold Hold
  refine' pop_spec (ps := ps) (n := n1) (news := (rw, o) :: tl) ?B ?F ?X ?N ?T rfl rfl rfl ?d O.offH (by omega) hne ?_
  case F => k_asm
  case B => assumption
  case X => k_asm
  case N => k_asm
  case T => k_asm
  case d => k_room
  intro h2 tk2 n2 F2 N2
  try dsimp only
  k_steps
  exact h _ _ _ (by assumption) (by assumption)
theorem law_repl : ∀ {w : World} {mean : ExcName → Option Value} {mg mb : Str → Option Value} {h₀ : Heap} {L f hp rw : Addr} {cd : Value} {m : Str → Option Value} {tl : List (Addr × Obj)} {ps : List (List Nat × Tok)} {n1 : Nat} {o : Obj} {s : Shared} {Q : Flow → Shared → Prop} {E : Value → Shared → Prop} {x : List Nat} {t td : Tok} {rest : List Stmt}
    (_ : Below callerA h₀ [] h₀) (_ : (KK w.params).In h₀) (_ : Top VQ (looseW VQ LQ) mean mg mb h₀) (_ : Fr h₀ L s.heap m) (_ : News h₀ L s.heap ((hp, hObj ps n1) :: (rw, o) :: tl)) (_ : Led tl hp rw) (_ : m (Str.ofString "deed") = some (.int 2 td)) (_ : m (Str.ofString "dress") = some (.str (S x) t)) (_ : m (Str.ofString "heap") = some (.ref hp)) (_ : ps.length ≤ 90) (hne : 0 < ps.length)
    (_ : ∀ h' tk' n1', Fr h₀ L h' (fun y => if y = Str.ofString "told" then some (toV ps[0]) else m y) → News h₀ L h' ((hp, hObj (replF ps (x, t)) n1') :: (rw, o) :: tl) → wpAny (model PySem.Challenge.rw_oc0301_01.row.prog w) (lawA L f cd) (execs rest (lawEnv L f cd)) Q E { s with heap := h', toks := tk' }),
    wpAny (model PySem.Challenge.rw_oc0301_01.row.prog w) (lawA L f cd) (execs (lawTurn.getD 3 (.Pass default) :: rest) (lawEnv L f cd)) Q E s := by
  w_on
  k_fill
  intro w mean mg mb h₀ L f hp rw cd m tl ps n1 o s Q E x t td rest B X T F N O e0 e1 e2 hle hne h
  show wpAny _ _ (execs (Stmt.Try _ _ _ _ _ :: _) _) _ _ _
  k_steps
  unfold Hold
  refine' repl_spec (ps := ps) (n := n1) (news := (rw, o) :: tl) ?B ?F ?X ?N ?T rfl rfl rfl ?d O.offH (by omega) hne ?_
  case F => k_asm
  case B => assumption
  case X => k_asm
  case N => k_asm
  case T => k_asm
  case d => k_room
  intro h2 tk2 F2 N2
  try dsimp only
  k_steps
  exact h _ _ _ (by assumption) (by assumption)
theorem law_pushpop : ∀ {w : World} {mean : ExcName → Option Value} {mg mb : Str → Option Value} {h₀ : Heap} {L f hp rw : Addr} {cd : Value} {m : Str → Option Value} {tl : List (Addr × Obj)} {ps : List (List Nat × Tok)} {n1 : Nat} {o : Obj} {s : Shared} {Q : Flow → Shared → Prop} {E : Value → Shared → Prop} {x : List Nat} {t td : Tok} {rest : List Stmt}
    (_ : Below callerA h₀ [] h₀) (_ : (KK w.params).In h₀) (_ : Top VQ (looseW VQ LQ) mean mg mb h₀) (_ : Fr h₀ L s.heap m) (_ : News h₀ L s.heap ((hp, hObj ps n1) :: (rw, o) :: tl)) (_ : Led tl hp rw) (_ : m (Str.ofString "deed") = some (.int 3 td)) (_ : m (Str.ofString "dress") = some (.str (S x) t)) (_ : m (Str.ofString "heap") = some (.ref hp)) (_ : ps.length ≤ 90)
    (_ : ∀ (hne : 0 < ps.length), hlt ps[0] (x, t) = true → ∀ h' tk' n1', Fr h₀ L h' (fun y => if y = Str.ofString "told" then some (toV ps[0]) else m y) → News h₀ L h' ((hp, hObj (replF ps (x, t)) n1') :: (rw, o) :: tl) → wpAny (model PySem.Challenge.rw_oc0301_01.row.prog w) (lawA L f cd) (execs rest (lawEnv L f cd)) Q E { s with heap := h', toks := tk' })
    (_ : (∀ (hne : 0 < ps.length), hlt ps[0] (x, t) = false) → ∀ h' tk' n1', Fr h₀ L h' (fun y => if y = Str.ofString "told" then some (.str (S x) t) else m y) → News h₀ L h' ((hp, hObj ps n1') :: (rw, o) :: tl) → wpAny (model PySem.Challenge.rw_oc0301_01.row.prog w) (lawA L f cd) (execs rest (lawEnv L f cd)) Q E { s with heap := h', toks := tk' }),
    wpAny (model PySem.Challenge.rw_oc0301_01.row.prog w) (lawA L f cd) (execs (lawTurn.getD 3 (.Pass default) :: rest) (lawEnv L f cd)) Q E s := by
  w_on
  k_fill
  intro w mean mg mb h₀ L f hp rw cd m tl ps n1 o s Q E x t td rest B X T F N O e0 e1 e2 hle ha hb
  show wpAny _ _ (execs (Stmt.Try _ _ _ _ _ :: _) _) _ _ _
  k_steps
  unfold Hold
  refine' pushpop_spec (ps := ps) (n := n1) (news := (rw, o) :: tl) ?B ?F ?X ?N ?T rfl rfl rfl ?d rfl O.offH (by omega) ?_ ?_
  case F => k_asm
  case B => assumption
  case X => k_asm
  case N => k_asm
  case T => k_asm
  case d => k_room
  · intro hne hlt' h2 tk2 F2 N2
    try dsimp only
    k_steps
    exact ha hne hlt' _ _ _ (by assumption) (by assumption)
  · intro hlt' h2 tk2 F2 N2
    try dsimp only
    k_steps
    exact hb hlt' _ _ _ (by assumption) (by assumption)
end NR
theorem pop_empty {prog : Program} {w : World} {A : Around} {E : Value → Shared → Prop} {s : Shared} {h₀ : Heap} {L D : Addr} {news : List (Addr × Obj)} {n : Nat} {Q : Value → Shared → Prop} (hh : A.handled = none) (N : News h₀ L s.heap news) (hm : (D, W.listOf #[] n) ∈ news)
    (h : ∀ h' tk e, Heap.NewExc s.heap h' e "IndexError" → E (.ref e) { s with heap := h', toks := tk }) : wpAny (model prog w) A (call (.builtin "list.pop") [.ref D]) Q E s :=
  call_meets PySem.F.slot_list_pop ⟨_, (N _ hm).1, rfl⟩ PySem.F.entry_list_pop (PySem.F.args_list_pop_1 _) (AutoSeq1.list_pop_list_0 D #[] n rfl) ⟨(N _ hm).1, hh, fun h' tk e hn => h h' tk e hn⟩
local macro_rules | `(tactic| walk_at "call builtin:list.pop") => `(tactic| (k_here; k_dflt (refine' pop_empty ?h ?N ?m ?_; (case h => with_unfolding_all rfl); (case N => k_asm); (case m => k_mem); k_whole); intro h' tk' e' hx'))
theorem law_pop0 : ∀ {w : World} {mean : ExcName → Option Value} {mg mb : Str → Option Value} {h₀ : Heap} {L f hp rw : Addr} {cd : Value} {m : Str → Option Value} {tl : List (Addr × Obj)} {n1 n2 : Nat} {s : Shared} {Q : Flow → Shared → Prop} {E : Value → Shared → Prop} {td : Tok} {rest : List Stmt}
    (_ : Below callerA h₀ [] h₀) (_ : (KK w.params).In h₀) (_ : Top VQ (looseW VQ LQ) mean mg mb h₀) (_ : Fr h₀ L s.heap m) (_ : News h₀ L s.heap ((hp, W.listOf #[] n1) :: (rw, W.listOf #[] n2) :: tl)) (_ : Led tl hp rw) (_ : m (Str.ofString "deed") = some (.int 1 td)) (_ : m (Str.ofString "heap") = some (.ref hp)) (_ : m (Str.ofString "row") = some (.ref rw))
    (_ : ∀ h' tk', Fr h₀ L h' m → News h₀ L h' ((hp, W.listOf #[] n1) :: (rw, W.listOf #[] n2) :: tl) → Q .cont { s with heap := h', toks := tk' }),
    wpAny (model PySem.Challenge.rw_oc0301_01.row.prog w) (lawA L f cd) (execs (lawTurn.getD 3 (.Pass default) :: rest) (lawEnv L f cd)) Q E s := by
  w_on
  k_fill
  intro w mean mg mb h₀ L f hp rw cd m tl n1 n2 s Q E td rest B X T F N O e0 e2 e3 h
  refine wpAny_noRaise ?_
  show wpAny _ _ (execs (Stmt.Try _ _ _ _ _ :: _) _) _ _ _
  k_steps
  all_goals try dsimp only at *
  rename News _ _ _ _ => NZ
  exact h _ _ (by assumption) (fun p hp => NZ p (.tail _ hp))
theorem law_repl0 : ∀ {w : World} {mean : ExcName → Option Value} {mg mb : Str → Option Value} {h₀ : Heap} {L f hp rw : Addr} {cd : Value} {m : Str → Option Value} {tl : List (Addr × Obj)} {n1 n2 : Nat} {s : Shared} {Q : Flow → Shared → Prop} {E : Value → Shared → Prop} {x : List Nat} {t td : Tok} {rest : List Stmt}
    (_ : Below callerA h₀ [] h₀) (_ : (KK w.params).In h₀) (_ : Top VQ (looseW VQ LQ) mean mg mb h₀) (_ : Fr h₀ L s.heap m) (_ : News h₀ L s.heap ((hp, W.listOf #[] n1) :: (rw, W.listOf #[] n2) :: tl)) (_ : Led tl hp rw) (_ : m (Str.ofString "deed") = some (.int 2 td)) (_ : m (Str.ofString "dress") = some (.str (S x) t)) (_ : m (Str.ofString "heap") = some (.ref hp)) (_ : m (Str.ofString "row") = some (.ref rw))
    (_ : ∀ h' tk', Fr h₀ L h' m → News h₀ L h' ((hp, W.listOf #[] n1) :: (rw, W.listOf #[] n2) :: tl) → Q .cont { s with heap := h', toks := tk' }),
    wpAny (model PySem.Challenge.rw_oc0301_01.row.prog w) (lawA L f cd) (execs (lawTurn.getD 3 (.Pass default) :: rest) (lawEnv L f cd)) Q E s := by
  w_on
  k_fill
  intro w mean mg mb h₀ L f hp rw cd m tl n1 n2 s Q E x t td rest B X T F N O e0 e1 e2 e3 h
  refine wpAny_noRaise ?_
  show wpAny _ _ (execs (Stmt.Try _ _ _ _ _ :: _) _) _ _ _
  k_steps
  all_goals try dsimp only at *
  rename News _ _ _ _ => NZ
  exact h _ _ (by assumption) (fun p hp => NZ p (.tail _ hp))
end LawF
end Mine
end TextLawF
section TextLawG
open PySem PySem.W PyProof.Rows PySem.Calls
set_option maxRecDepth 100000
set_option maxHeartbeats 8000000
set_option pp.deepTerms false
set_option pp.maxSteps 3000
set_option linter.unusedVariables false
namespace Mine
section LawG
variable {w : World} {mean : ExcName → Option Value} {mg mb : Str → Option Value} {h₀ : Heap} {L f hp rw : Addr} {cd : Value} {m : Str → Option Value} {tl : List (Addr × Obj)} {ps : List (List Nat × Tok)} {n1 n2 : Nat} {vals : List Value} {xs : List (List Nat)} {s : Shared} {Q : Flow → Shared → Prop} {E : Value → Shared → Prop}
abbrev tailS : List Stmt := [lawTurn.getD 8 (.Pass default), lawTurn.getD 9 (.Pass default), lawTurn.getD 10 (.Pass default)]
/-- the three askings -/
theorem law_ask {a r : Addr} {y : List Nat} {t t2 : Tok} {news : List (Addr × Obj)} (B : Below callerA h₀ [] h₀) (X : (KK w.params).In h₀) (Z : Quiet w.params h₀) (T : Top VQ (looseW VQ LQ) mean mg mb h₀) (F : Fr h₀ L s.heap m) (N : News h₀ L s.heap news) (e1 : m (Str.ofString "told") = some (.str (S (dressF y)) t)) (e2 : m (Str.ofString "first") = some (.ref a)) (hm : (a, rowTup r y t2) ∈ news) (hy : IsWord y)
    (h : ∀ h' tk', Fr h₀ L h' m → News h₀ L h' news → Q .next { s with heap := h', toks := tk' }) :
    wpAny (model PySem.Challenge.rw_oc0301_01.row.prog w) (lawA L f cd) (execs tailS (lawEnv L f cd)) Q E s := by
  refine law_b8 B X T F N e1 e2 hm hy fun h1 k1 F1 N1 => ?_
  refine law_b9 B X T F1 N1 e1 hy fun h2 k2 F2 N2 => ?_
  refine law_b10 B X Z T F2 N2 e1 e2 hm hy fun h3 k3 F3 N3 => ?_
  exact wpAny_execs_nil (h h3 k3 F3 N3)
abbrev tail4 : List Stmt := lawTurn.getD 4 (.Pass default) :: lawTurn.getD 5 (.Pass default) :: lawTurn.getD 6 (.Pass default) :: lawTurn.getD 7 (.Pass default) :: tailS
theorem law_tail {dd : Int} {d : List Nat} {t td : Tok} (hno : NoStep (lawTurn.getD 7 (.Pass default)) dd) (B : Below callerA h₀ [] h₀) (X : (KK w.params).In h₀) (Z : Quiet w.params h₀) (T : Top VQ (looseW VQ LQ) mean mg mb h₀) (F : Fr h₀ L s.heap m) (N : News h₀ L s.heap ((hp, hObj ps n1) :: (rw, W.listOf vals.toArray n2) :: tl)) (O : Led tl hp rw)
    (e0 : m (Str.ofString "deed") = some (.int dd td)) (e1 : m (Str.ofString "told") = some (.str (S d) t)) (e2 : m (Str.ofString "row") = some (.ref rw)) (hRA : RowAll tl vals xs) (hw : ∀ x ∈ xs, IsWord x) (hne : 0 < vals.length) (hle : vals.length ≤ 90)
    (hd : ∀ (j : Nat) (y : List Nat), xs[j]? = some y → (∀ i, i < xs.length → ¬ kAt xs i < kAt xs j) → d = dressF y)
    (h : ∀ (j : Nat) (y : List Nat) v h' tk' n2', xs[j]? = some y → d = dressF y → Fr h₀ L h' (fun z => if z = Str.ofString "first" then some v else m z) → News h₀ L h' ((hp, hObj ps n1) :: (rw, W.listOf (vals.eraseIdx j).toArray n2') :: tl) → Q .next { s with heap := h', toks := tk' }) :
    wpAny (model PySem.Challenge.rw_oc0301_01.row.prog w) (lawA L f cd) (execs tail4 (lawEnv L f cd)) Q E s := by
  refine law_b456 B X T F N O e2 hRA hw hne hle fun j v y h1 k1 n1' hv hy hm F1 N1 => ?_
  have hdy := hd j y hy hm
  obtain ⟨a, r, t2, vs, n, rfl, m1, m2, hi⟩ := hRA.2 j v y hv hy
  refine hno X T F1 N1 (by exact e0) fun h2 k2 F2 N2 => ?_
  refine law_ask (y := y) (t := t) B X Z T F2 N2 (by rw [← hdy]; exact e1) rfl (.tail _ (.tail _ m1)) (hw y (List.mem_of_getElem? hy)) fun h3 k3 F3 N3 => ?_
  exact h j y _ h3 k3 n1' hy hdy F3 N3
theorem law_tail2 {d x : List Nat} {t td tw : Tok} (B : Below callerA h₀ [] h₀) (X : (KK w.params).In h₀) (Z : Quiet w.params h₀) (T : Top VQ (looseW VQ LQ) mean mg mb h₀) (F : Fr h₀ L s.heap m) (N : News h₀ L s.heap ((hp, hObj ps n1) :: (rw, W.listOf vals.toArray n2) :: tl)) (O : Led tl hp rw)
    (e0 : m (Str.ofString "deed") = some (.int 2 td)) (e1 : m (Str.ofString "told") = some (.str (S d) t)) (e2 : m (Str.ofString "row") = some (.ref rw)) (e3 : m (Str.ofString "word") = some (.str (S x) tw)) (hx : IsWord x) (hRA : RowAll tl vals xs) (hw : ∀ x ∈ xs, IsWord x) (hne : 0 < vals.length) (hle : vals.length ≤ 90)
    (hd : ∀ (j : Nat) (y : List Nat), xs[j]? = some y → (∀ i, i < xs.length → ¬ kAt xs i < kAt xs j) → d = dressF y)
    (h : ∀ (j : Nat) (y : List Nat) v h' tk' n2' D tl', xs[j]? = some y → d = dressF y → Fr h₀ L h' (fun z => if z = Str.ofString "first" then some v else m z) → News h₀ L h' ((hp, hObj ps n1) :: (rw, W.listOf (vals.eraseIdx j ++ [Value.ref D]).toArray n2') :: tl') → Led tl' hp rw → (∀ p ∈ tl, p ∈ tl') → RowIn tl' (.ref D) x → Q .next { s with heap := h', toks := tk' }) :
    wpAny (model PySem.Challenge.rw_oc0301_01.row.prog w) (lawA L f cd) (execs tail4 (lawEnv L f cd)) Q E s := by
  refine law_b456 B X T F N O e2 hRA hw hne hle fun j v y h1 k1 n1' hv hy hm F1 N1 => ?_
  have hdy := hd j y hy hm
  obtain ⟨a, r, t2, vs, n, rfl, m1, m2, hi⟩ := hRA.2 j v y hv hy
  refine b7yes2 B X T F1 N1 O (by exact e0) (by exact e3) (by exact e2) hx (by rw [List.length_eraseIdx]; split <;> omega) fun h2 k2 D tl' n2' F2 N2 O2 hs hr => ?_
  refine law_ask (y := y) (t := t) B X Z T F2 N2 (by rw [← hdy]; exact e1) rfl (.tail _ (.tail _ (hs _ m1))) (hw y (List.mem_of_getElem? hy)) fun h3 k3 F3 N3 => ?_
  exact h j y _ h3 k3 n2' D tl' hy hdy F3 N3 O2 hs hr
/-- a turn of the law -/
theorem law_turn {dd : Int} {x : List Nat} {td tw : Tok} (hdd : dd = 0 ∨ dd = 1 ∨ dd = 2 ∨ dd = 3) (B : Below callerA h₀ [] h₀) (X : (KK w.params).In h₀) (Z : Quiet w.params h₀) (T : Top VQ (looseW VQ LQ) mean mg mb h₀) (F : Fr h₀ L s.heap m) (N : News h₀ L s.heap ((hp, hObj ps n1) :: (rw, W.listOf vals.toArray n2) :: tl)) (O : Led tl hp rw)
    (e0 : m (Str.ofString "deed") = some (.int dd td)) (e1 : m (Str.ofString "word") = some (.str (S x) tw)) (e2 : m (Str.ofString "row") = some (.ref rw)) (e3 : m (Str.ofString "heap") = some (.ref hp)) (hx : IsWord x) (hRA : RowAll tl vals xs) (hI : HInv ps xs) (hle : xs.length ≤ 80)
    (h : ∀ fl h' tk' m' ps' vals' xs' n1' n2' tl', (fl = Flow.next ∨ fl = Flow.cont) → Fr h₀ L h' m' → m' (Str.ofString "row") = some (.ref rw) → m' (Str.ofString "heap") = some (.ref hp) → News h₀ L h' ((hp, hObj ps' n1') :: (rw, W.listOf vals'.toArray n2') :: tl') → Led tl' hp rw → (∀ p ∈ tl, p ∈ tl') → RowAll tl' vals' xs' → HInv ps' xs' → xs'.length ≤ (if dd = 1 then xs.length - 1 else xs.length + 1) → Q fl { s with heap := h', toks := tk' }) :
    wpAny (model PySem.Challenge.rw_oc0301_01.row.prog w) (lawA L f cd) (execs lawTurn (lawEnv L f cd)) Q E s := by
  have hlen := hI.len
  have hvl := hRA.1
  show wpAny _ _ (execs (lawTurn.getD 0 (.Pass default) :: lawTurn.getD 1 (.Pass default) :: lawTurn.getD 2 (.Pass default) :: lawTurn.getD 3 (.Pass default) :: tail4) _) _ _ _
  refine law_b0 B X T F N e1 hx fun h1 k1 t1 F1 N1 => ?_
  rcases hdd with rfl | rfl | rfl | rfl
  · refine b1yes0 B X T F1 N1 O (by exact e0) (by exact e1) (by exact e2) hx (by omega) fun h2 k2 D tl' n2' F2 N2 O2 hs hr => ?_
    refine law_push B X T F2 N2 O2 (by exact e0) rfl (by exact e3) (by omega) fun h3 k3 n3 F3 N3 => ?_
    exact h .cont h3 k3 _ _ _ (xs ++ [x]) _ _ tl' (.inr rfl) F3 (by exact e2) (by exact e3) N3 O2 hs ((hRA.mono hs).snoc hr) (push_inv hI hx) (by simp)
  · refine b1no1 X T F1 N1 (by exact e0) fun h2 k2 F2 N2 => ?_
    refine b2no1 X T F2 N2 (by exact e0) fun h3 k3 F3 N3 => ?_
    by_cases h0 : 0 < ps.length
    · refine law_pop B X T F3 N3 O (by exact e0) (by exact e3) (by omega) h0 fun h4 k4 n4 F4 N4 => ?_
      refine law_tail b7no1 B X Z T F4 N4 O (by exact e0) rfl (by exact e2) hRA hI.wd (by omega) (by omega) (told_is hI.wd (top_in hI h0) (top_min hI h0)) fun j y v h5 k5 n5 hy hd F5 N5 => ?_
      refine h .next h5 k5 _ _ _ (xs.eraseIdx j) _ _ tl (.inl rfl) F5 (by exact e2) (by exact e3) N5 O (fun _ h => h) (hRA.erase j) (pop_inv hI h0 hy hd) ?_
      have : j < xs.length := by
        rcases Nat.lt_or_ge j xs.length with q | q
        · exact q
        · rw [List.getElem?_eq_none q] at hy; cases hy
      rw [List.length_eraseIdx, if_pos this]; simp
    · have z1 : ps = [] := List.eq_nil_of_length_eq_zero (by omega)
      have z2 : vals = [] := List.eq_nil_of_length_eq_zero (by omega)
      subst z1 z2
      refine law_pop0 B X T F3 N3 O (by exact e0) (by exact e3) (by exact e2) fun h4 k4 F4 N4 => ?_
      exact h .cont h4 k4 _ [] [] xs _ _ tl (.inr rfl) F4 (by exact e2) (by exact e3) N4 O (fun _ h => h) hRA hI (by simp at hvl ⊢; omega)
  · refine b1no2 X T F1 N1 (by exact e0) fun h2 k2 F2 N2 => ?_
    refine b2no2 X T F2 N2 (by exact e0) fun h3 k3 F3 N3 => ?_
    by_cases h0 : 0 < ps.length
    · refine law_repl B X T F3 N3 O (by exact e0) rfl (by exact e3) (by omega) h0 fun h4 k4 n4 F4 N4 => ?_
      refine law_tail2 B X Z T F4 N4 O (by exact e0) rfl (by exact e2) (by exact e1) hx hRA hI.wd (by omega) (by omega) (told_is hI.wd (top_in hI h0) (top_min hI h0)) fun j y v h5 k5 n5 D tl' hy hd F5 N5 O5 hs hr => ?_
      refine h .next h5 k5 _ _ _ (xs.eraseIdx j ++ [x]) _ _ tl' (.inl rfl) F5 (by exact e2) (by exact e3) N5 O5 hs (((hRA.erase j).mono hs).snoc hr) (repl_inv hI hx h0 hy hd) ?_
      rw [List.length_append, List.length_eraseIdx, List.length_singleton]
      split <;> simp <;> omega
    · have z1 : ps = [] := List.eq_nil_of_length_eq_zero (by omega)
      have z2 : vals = [] := List.eq_nil_of_length_eq_zero (by omega)
      subst z1 z2
      refine law_repl0 B X T F3 N3 O (by exact e0) rfl (by exact e3) (by exact e2) fun h4 k4 F4 N4 => ?_
      exact h .cont h4 k4 _ [] [] xs _ _ tl (.inr rfl) F4 (by exact e2) (by exact e3) N4 O (fun _ h => h) hRA hI (by simp)
  · refine b1yes3 B X T F1 N1 O (by exact e0) (by exact e1) (by exact e2) hx (by omega) fun h2 k2 D tl' n2' F2 N2 O2 hs hr => ?_
    refine b2no3 X T F2 N2 (by exact e0) fun h3 k3 F3 N3 => ?_
    have hRA' := (hRA.mono hs).snoc hr
    refine law_pushpop B X T F3 N3 O2 (by exact e0) rfl (by exact e3) (by omega) ?_ ?_
    · intro h0 hlt' h4 k4 n4 F4 N4
      refine law_tail b7no3 B X Z T F4 N4 O2 (by exact e0) rfl (by exact e2) hRA' (pp_words hI hx) (by simp) (by simp; omega) (told_is (pp_words hI hx) (ppA_in hI h0) (ppA_min hI h0 hlt')) fun j y v h5 k5 n5 hy hd F5 N5 => ?_
      refine h .next h5 k5 _ _ _ ((xs ++ [x]).eraseIdx j) _ _ tl' (.inl rfl) F5 (by exact e2) (by exact e3) N5 O2 hs (hRA'.erase j) (ppA_inv hI hx h0 hy hd) ?_
      rw [List.length_eraseIdx, List.length_append, List.length_singleton]
      split <;> simp
    · intro hlt' h4 k4 n4 F4 N4
      refine law_tail b7no3 B X Z T F4 N4 O2 (by exact e0) rfl (by exact e2) hRA' (pp_words hI hx) (by simp) (by simp; omega) (told_is (pp_words hI hx) ppB_in (ppB_min hI hlt')) fun j y v h5 k5 n5 hy hd F5 N5 => ?_
      refine h .next h5 k5 _ _ _ ((xs ++ [x]).eraseIdx j) _ _ tl' (.inl rfl) F5 (by exact e2) (by exact e3) N5 O2 hs (hRA'.erase j) (ppB_inv hI hx hy hd) ?_
      rw [List.length_eraseIdx, List.length_append, List.length_singleton]
      split <;> simp
end LawG
end Mine
end TextLawG
section TextLawH
open PySem PySem.W PyProof.Rows PySem.Calls
set_option maxRecDepth 100000
set_option maxHeartbeats 8000000
set_option pp.deepTerms false
set_option pp.maxSteps 3000
set_option linter.unusedVariables false
namespace Mine
/-! ## the great loop -/
def forTgt (d : Expr) (s : Stmt) : Expr := match s with | .For t _ _ _ _ => t | _ => d
def lawTgt : Expr := forTgt (.Name "" default) lawFor
abbrev dTup (d : Int) (x : List Nat) (td tw : Tok) : Obj := { cls := .type "tuple", data := .seq #[.int d td, .str (S x) tw] }
def DeedIn (tl : List (Addr × Obj)) (v : Value) (d : Int × List Nat) : Prop := ∃ T td tw, v = .ref T ∧ (T, dTup d.1 d.2 td tw) ∈ tl
noncomputable def DeedsIn (tl : List (Addr × Obj)) : List Value → List (Int × List Nat) → Prop
  | [], [] => True
  | v :: vs, d :: ds => DeedIn tl v d ∧ DeedsIn tl vs ds
  | _, _ => False
theorem DeedsIn.mono {tl tl' : List (Addr × Obj)} (hs : ∀ p ∈ tl, p ∈ tl') : ∀ {vs : List Value} {ds : List (Int × List Nat)}, DeedsIn tl vs ds → DeedsIn tl' vs ds
  | [], [], _ => trivial
  | [], _ :: _, h => (show False from h).elim
  | _ :: _, [], h => (show False from h).elim
  | _ :: _, _ :: _, ⟨⟨T, td, tw, e, hm⟩, h⟩ => ⟨⟨T, td, tw, e, hs _ hm⟩, h.mono hs⟩
theorem DeedsIn.append {tl : List (Addr × Obj)} : ∀ {vs ws : List Value} {ds es : List (Int × List Nat)}, DeedsIn tl vs ds → DeedsIn tl ws es → DeedsIn tl (vs ++ ws) (ds ++ es)
  | [], _, [], _, _, h => h
  | [], _, _ :: _, _, h, _ => (show False from h).elim
  | _ :: _, _, [], _, h, _ => (show False from h).elim
  | _ :: _, _, _ :: _, _, ⟨h1, h2⟩, h => ⟨h1, h2.append h⟩
theorem DeedsIn.len {tl : List (Addr × Obj)} : ∀ {vs : List Value} {ds : List (Int × List Nat)}, DeedsIn tl vs ds → vs.length = ds.length
  | [], [], _ => rfl
  | [], _ :: _, h => (show False from h).elim
  | _ :: _, [], h => (show False from h).elim
  | _ :: _, _ :: _, ⟨_, h⟩ => by rw [List.length_cons, List.length_cons, h.len]
theorem DeedsIn.rep {tl : List (Addr × Obj)} {v : Value} {d : Int × List Nat} (h : DeedIn tl v d) : ∀ k, DeedsIn tl (List.replicate k v) (List.replicate k d)
  | 0 => trivial
  | k + 1 => ⟨h, DeedsIn.rep h k⟩
noncomputable def cnt : Nat → List (Int × List Nat) → Nat
  | n, [] => n
  | n, d :: ds => cnt (if d.1 = 1 then n - 1 else n + 1) ds
theorem cnt_mono : ∀ (ds : List (Int × List Nat)) (a b : Nat), a ≤ b → cnt a ds ≤ cnt b ds
  | [], a, b, h => h
  | d :: ds, a, b, h => cnt_mono ds _ _ (by split <;> omega)
theorem cnt_le : ∀ (ds : List (Int × List Nat)) (a : Nat), cnt a ds ≤ a + ds.length
  | [], a => Nat.le_refl _
  | d :: ds, a => by
    have := cnt_le ds (if d.1 = 1 then a - 1 else a + 1)
    have h2 : (if d.1 = 1 then a - 1 else a + 1) ≤ a + 1 := by split <;> omega
    rw [cnt, List.length_cons]
    omega
theorem cnt_append : ∀ (ds es : List (Int × List Nat)) (a : Nat), cnt a (ds ++ es) = cnt (cnt a ds) es
  | [], es, a => rfl
  | d :: ds, es, a => by rw [List.cons_append, cnt, cnt, cnt_append]
theorem cnt_rep (x : List Nat) : ∀ (k a : Nat), cnt a (List.replicate k ((1 : Int), x)) = a - k
  | 0, a => rfl
  | k + 1, a => by
    rw [List.replicate_succ, cnt, cnt_rep x k, if_pos rfl]; omega
theorem cnt_zero (ds : List (Int × List Nat)) (x : List Nat) : cnt 0 (ds ++ List.replicate (ds.length + 1) ((1 : Int), x)) = 0 := by
  rw [cnt_append, cnt_rep]
  have := cnt_le ds 0
  omega
section LawH
variable {w : World} {mean : ExcName → Option Value} {mg mb : Str → Option Value} {h₀ : Heap} {L f hp rw ax I : Addr} {lo : Obj} {cd : Value} {s : Shared} {Q : Flow → Shared → Prop} {E : Value → Shared → Prop}
theorem law_assign : ∀ {w : World} {h₀ : Heap} {L f T : Addr} {cd : Value} {m : Str → Option Value} {news : List (Addr × Obj)} {s : Shared} {Q : Unit → Shared → Prop} {E : Value → Shared → Prop} {d : Int} {x : List Nat} {td tw : Tok}
    (_ : (KK w.params).In h₀) (_ : Fr h₀ L s.heap m) (_ : News h₀ L s.heap news) (_ : (T, dTup d x td tw) ∈ news)
    (_ : ∀ h' tk' m', Fr h₀ L h' m' → News h₀ L h' news → m' (Str.ofString "deed") = some (.int d td) → m' (Str.ofString "word") = some (.str (S x) tw) → m' (Str.ofString "row") = m (Str.ofString "row") → m' (Str.ofString "heap") = m (Str.ofString "heap") → Q () { s with heap := h', toks := tk' }),
    wpAny (model PySem.Challenge.rw_oc0301_01.row.prog w) (lawA L f cd) (assign lawTgt (lawEnv L f cd) (.ref T)) Q E s := by
  w_on
  k_fill
  intro w h₀ L f T cd m news s Q E d x td tw X F N hm h
  show wpAny _ _ (assign (Expr.Tuple _ _ _) _ _) _ _ _
  refine unpackN_ F N ⟨_, (N _ hm).1, rfl, _, rfl⟩ rfl rfl rfl fun h1 F1 N1 => ?_
  k_steps
  rename Fr _ _ _ _ => F2
  rename News _ _ _ _ => N2
  exact h _ _ _ F2 N2 rfl rfl rfl rfl
theorem main_loop (B : Below callerA h₀ [] h₀) (X : (KK w.params).In h₀) (Z : Quiet w.params h₀) (T : Top VQ (looseW VQ LQ) mean mg mb h₀) :
    ∀ (vs : List Value) (ds : List (Int × List Nat)) (m : Str → Option Value) (tl : List (Addr × Obj)) (ps : List (List Nat × Tok)) (vals : List Value) (xs : List (List Nat)) (n1 n2 : Nat),
    DeedsIn tl vs ds → (∀ d ∈ ds, (d.1 = 0 ∨ d.1 = 1 ∨ d.1 = 2 ∨ d.1 = 3) ∧ IsWord d.2) → Led tl hp rw → (ax, lo) ∈ tl → (∀ p ∈ tl, p.1 ≠ I) → m (Str.ofString "row") = some (.ref rw) → m (Str.ofString "heap") = some (.ref hp) → RowAll tl vals xs → HInv ps xs → xs.length + ds.length ≤ 80 →
    (∀ (h' : Heap) (tk' : Nat) (m' : Str → Option Value) (ps' : List (List Nat × Tok)) (vals' : List Value) (xs' : List (List Nat)) (n1' n2' : Nat) (tl' : List (Addr × Obj)), Fr h₀ L h' m' → m' (Str.ofString "heap") = some (.ref hp) → News h₀ L h' ((hp, hObj ps' n1') :: (rw, W.listOf vals'.toArray n2') :: tl') → HInv ps' xs' → xs'.length ≤ cnt xs.length ds → Q .next { s with heap := h', toks := tk' }) →
    ItemsRest PySem.Challenge.rw_oc0301_01.row.prog w (lawA L f cd) E h₀ (lawEnv L f cd) lawTgt lawTurn Q s [(I, "list_iterator")] [(ax, lo)] (vs.map .val) m ((hp, hObj ps n1) :: (rw, W.listOf vals.toArray n2) :: tl)
  | [], [], m, tl, ps, vals, xs, n1, n2, hD, hW, O, hax, hI, e1, e2, hR, hH, hl, h =>
    ItemsRest.zero fun h' tk F N => h h' tk m ps vals xs n1 n2 tl F e2 N hH (Nat.le_refl _)
  | [], _ :: _, m, tl, ps, vals, xs, n1, n2, hD, hW, O, hax, hI, e1, e2, hR, hH, hl, h => (show False from hD).elim
  | _ :: _, [], m, tl, ps, vals, xs, n1, n2, hD, hW, O, hax, hI, e1, e2, hR, hH, hl, h => (show False from hD).elim
  | v :: vs, (d, x) :: ds, m, tl, ps, vals, xs, n1, n2, hD, hW, O, hax, hI, e1, e2, hR, hH, hl, h => by
    obtain ⟨⟨T', td, tw, rfl, hT⟩, hD⟩ := hD
    obtain ⟨hd, hx⟩ := hW _ (.head _)
    rw [List.length_cons] at hl
    refine ItemsRest.val fun h1 k1 F1 => AllObj.cons fun it hit => AllObj.nil fun N1 => ?_
    have hpI : I ≠ hp := (news_ne N1 (.tail _ (.head _)) (.head _) (by rw [show it.cls = _ from hit]; exact (show Value.type "list" ≠ Value.type "list_iterator" by decide))).symm
    have hrI : I ≠ rw := (news_ne N1 (.tail _ (.tail _ (.head _))) (.head _) (by rw [show it.cls = _ from hit]; exact (show Value.type "list" ≠ Value.type "list_iterator" by decide))).symm
    have N2 : News h₀ L h1 ((hp, hObj ps n1) :: (rw, W.listOf vals.toArray n2) :: (I, it) :: tl) := fun p hp => N1 p (by
      simp only [List.cons_append, List.nil_append, List.mem_cons] at hp ⊢
      rcases hp with h | h | h | h
      · exact .inr (.inl h)
      · exact .inr (.inr (.inl h))
      · exact .inl h
      · exact .inr (.inr (.inr h)))
    refine law_assign X F1 N2 (.tail _ (.tail _ (.tail _ hT))) fun h2 k2 m2 F2 N3 a1 a2 a3 a4 => ?_
    refine law_turn hd B X Z T F2 N3 ⟨O.ne, fun p hp' => ?_, fun p hp' => ?_⟩ a1 a2 (a3.trans e1) (a4.trans e2) hx (hR.mono fun _ h => .tail _ h) hH (by omega) ?_
    · rcases List.mem_cons.mp hp' with rfl | hp'
      · exact hpI
      · exact O.oh _ hp'
    · rcases List.mem_cons.mp hp' with rfl | hp'
      · exact hrI
      · exact O.or _ hp'
    intro fl h3 k3 m3 ps' vals' xs' n1' n2' tl' hfl F3 b1 b2 N4 O4 hs hR4 hH4 hl4
    have key : UnrEndW h₀ L { s with heap := h1, toks := k1 } [(I, it)] (fun m' n' => SubL [(ax, lo)] n' ∧ ItemsRest PySem.Challenge.rw_oc0301_01.row.prog w (lawA L f cd) E h₀ (lawEnv L f cd) lawTgt lawTurn Q s [(I, "list_iterator")] [(ax, lo)] (vs.map .val) m' n') { s with heap := h3, toks := k3 } := by
      have sub : ∀ p ∈ tl'.filter (fun p => decide (p.1 ≠ I)), p ∈ tl' := fun p hp => (List.mem_filter.mp hp).1
      have keep : ∀ p ∈ tl', p.1 ≠ I → p ∈ tl'.filter (fun p => decide (p.1 ≠ I)) := fun p hp hne => List.mem_filter.mpr ⟨hp, decide_eq_true hne⟩
      have hs2 : ∀ p ∈ tl, p ∈ tl'.filter (fun p => decide (p.1 ≠ I)) := fun p hp => keep p (hs p (.tail _ hp)) (hI p hp)
      have hIt : (I, it) ∈ tl' := hs _ (.head _)
      refine ⟨h3, k3, m3, (hp, hObj ps' n1') :: (rw, W.listOf vals'.toArray n2') :: tl'.filter (fun p => decide (p.1 ≠ I)), rfl, F3, fun p hp => N4 p ?_, fun p hp q hq => ?_, ⟨.tail _ (.tail _ (hs2 _ hax)), trivial⟩, ?_⟩
      · simp only [List.cons_append, List.nil_append, List.mem_cons] at hp ⊢
        rcases hp with h | h | h | h
        · rw [h]; exact .inr (.inr hIt)
        · exact .inl h
        · exact .inr (.inl h)
        · exact .inr (.inr (sub _ h))
      · rw [List.mem_singleton.mp hq]
        rcases List.mem_cons.mp hp with rfl | hp
        · exact hpI.symm
        · rcases List.mem_cons.mp hp with rfl | hp
          · exact hrI.symm
          · exact of_decide_eq_true (List.mem_filter.mp hp).2
      · refine main_loop B X Z T vs ds m3 _ ps' vals' xs' n1' n2' (hD.mono hs2) (fun q hq => hW q (.tail _ hq)) ⟨O.ne, fun p hp => O4.oh p (sub p hp), fun p hp => O4.or p (sub p hp)⟩ (hs2 _ hax) (fun p hp => of_decide_eq_true (List.mem_filter.mp hp).2) b1 b2 ⟨hR4.1, fun i v y hv hy => ?_⟩ hH4 (by split at hl4 <;> omega) ?_
        · obtain ⟨a, r, t, us, n, r1, r2, r3, r4⟩ := hR4.2 i v y hv hy
          refine ⟨a, r, t, us, n, r1, keep _ r2 ?_, keep _ r3 ?_, r4⟩
          · exact news_ne N4 (.tail _ (.tail _ r2)) (.tail _ (.tail _ hIt)) (by rw [show it.cls = _ from hit]; exact (show Value.type "tuple" ≠ Value.type "list_iterator" by decide))
          · exact news_ne N4 (.tail _ (.tail _ r3)) (.tail _ (.tail _ hIt)) (by rw [show it.cls = _ from hit]; exact (show Value.type "list" ≠ Value.type "list_iterator" by decide))
        · intro h5 k5 m5 ps5 vals5 xs5 n5 n5' tl5 F5 c1 N5 hH5 hl5
          refine h h5 k5 m5 ps5 vals5 xs5 n5 n5' tl5 F5 c1 N5 hH5 (Nat.le_trans hl5 ?_)
          rw [cnt]
          exact cnt_mono _ _ _ hl4
    rcases hfl with rfl | rfl <;> exact key
end LawH
end Mine
end TextLawH
section TextLawI
open PySem PySem.W PyProof.Rows PySem.Calls
set_option maxRecDepth 100000
set_option maxHeartbeats 8000000
set_option pp.deepTerms false
set_option pp.maxSteps 3000
set_option linter.unusedVariables false
namespace Mine
def deedTurn : List Stmt := forBody ((fBody (st 39)).getD 1 (.Pass default))
theorem wdig_in (n : Int) : ∀ c ∈ wdig n, c ∈ SIGNS := by
  unfold wdig
  split
  · intro c hc; cases hc
  · intro c hc
    rw [List.mem_singleton.mp hc]
    have hb := fdiv_fmod_facts n 15
    have : (n.fmod 15 - 1).toNat < SIGNS.length := by
      have : SIGNS.length = 14 := rfl
      omega
    rw [List.getD_eq_getElem?_getD, List.getElem?_eq_getElem this]
    exact List.getElem_mem this
theorem wordF_is (x : Int) : IsWord (wordF x) := by
  constructor
  · unfold wordF
    simp only [wordK, List.length_append, List.length_nil]
    have a := wdig_len ((x.fmod 13500).fdiv 4)
    have b := wdig_len (((x.fmod 13500).fdiv 4).fdiv 15)
    have c := wdig_len ((((x.fmod 13500).fdiv 4).fdiv 15).fdiv 15)
    omega
  · intro c hc
    unfold wordF at hc
    simp only [wordK, List.mem_append] at hc
    rcases hc with h | h | h | h
    · exact wdig_in _ _ h
    · exact wdig_in _ _ h
    · exact wdig_in _ _ h
    · cases h
section LawI
local macro_rules | `(tactic| walk_at "eval Name") => `(tactic| (k_here; k_dflt (refine' ld ?k1 ?k2 ?_; (case k1 => k_asm); (case k2 => first | exact rfl | assumption); k_whole)))
local macro_rules | `(tactic| walk_at "call ref") => `(tactic| (k_here; (with_reducible show wpAny _ _ (call (Value.ref 815) _) _ _ _); (refine Hold.out ?_)))
local macro_rules | `(tactic| walk_at "call builtin:list.append") => `(tactic| (refine Hold.out ?_))
theorem deed_turn : ∀ {w : World} {mean : ExcName → Option Value} {mg mb : Str → Option Value} {h₀ : Heap} {L f D : Addr} {cd : Value} {m : Str → Option Value} {tl : List (Addr × Obj)} {n : Nat} {dvs : List Value} {s : Shared} {Q : Flow → Shared → Prop} {E : Value → Shared → Prop} {x : Int} {t : Tok}
    (_ : Below callerA h₀ [] h₀) (_ : (KK w.params).In h₀) (_ : Top VQ (looseW VQ LQ) mean mg mb h₀) (_ : Fr h₀ L s.heap m) (_ : News h₀ L s.heap ((D, W.listOf dvs.toArray n) :: tl)) (_ : ∀ p ∈ tl, p.1 ≠ D) (_ : m (Str.ofString "x") = some (.int x t)) (_ : m (Str.ofString "deeds") = some (.ref D)) (_ : dvs.length ≤ 90)
    (_ : ∀ h' tk' T td tw n', Fr h₀ L h' m → News h₀ L h' ((D, W.listOf (dvs ++ [Value.ref T]).toArray n') :: (T, dTup (x.fmod 4) (wordF x) td tw) :: tl) → T ≠ D → Q .next { s with heap := h', toks := tk' }),
    wpAny (model PySem.Challenge.rw_oc0301_01.row.prog w) (lawA L f cd) (execs deedTurn (lawEnv L f cd)) Q E s := by
  w_on
  k_fill
  intro w mean mg mb h₀ L f D cd m tl n dvs s Q E x t B X T F N off e1 e2 hle h
  show wpAny _ _ (execs (Stmt.Expr _ _ :: _) _) _ _ _
  k_steps
  unfold Hold
  refine' word_spec ?B ?F ?X ?N ?T rfl rfl rfl ?d rfl ?_
  case F => k_asm
  case B => assumption
  case X => k_asm
  case N => k_asm
  case T => k_asm
  case d => k_room
  intro t2 h2 tk2 F2 N2
  try dsimp only
  k_steps
  unfold Hold
  rename News _ _ _ _ => N3
  rename Fr _ _ _ _ => F3
  rename_i D3 h3 lD
  have c1 := news_ne N3 (.head _) (.tail _ (.head _)) (show Value.type "tuple" ≠ Value.type "list" by decide)
  refine gappend (D := D) (vs := dvs) (n := n) (news := (D3, _) :: tl) F3 (fun p hp => N3 p (by
    simp only [List.mem_cons] at hp ⊢
    rcases hp with h | h | h
    · exact .inr (.inl h)
    · exact .inl h
    · exact .inr (.inr h))) (fun p hp => by
    rcases List.mem_cons.mp hp with h | h
    · rw [h]; exact c1
    · exact off p h) (by omega) ?_
  intro h4 F4 N4
  try dsimp only
  k_steps
  exact h _ _ D3 _ _ (n + 1) F4 N4 c1
end LawI
end Mine
end TextLawI
section TextLawJ
open PySem PySem.W PyProof.Rows PySem.Calls
set_option maxRecDepth 100000
set_option maxHeartbeats 8000000
set_option pp.deepTerms false
set_option pp.maxSteps 3000
set_option linter.unusedVariables false
namespace Mine
def Good (ds : List (Int × List Nat)) : Prop := ∀ d ∈ ds, (d.1 = 0 ∨ d.1 = 1 ∨ d.1 = 2 ∨ d.1 = 3) ∧ IsWord d.2
theorem Good.append {ds es : List (Int × List Nat)} (h : Good ds) (k : Good es) : Good (ds ++ es) := fun d hd => (List.mem_append.mp hd).elim (h d) (k d)
theorem deed_loop {w : World} {mean : ExcName → Option Value} {mg mb : Str → Option Value} {h₀ : Heap} {L f D I : Addr} {cd : Value} {s : Shared} {Q : Flow → Shared → Prop} {E : Value → Shared → Prop} {lp : Addr × Obj} (B : Below callerA h₀ [] h₀) (X : (KK w.params).In h₀) (T : Top VQ (looseW VQ LQ) mean mg mb h₀) (hDI : D ≠ I) :
    ∀ (vs : List Value) (ns : List Int) (m : Str → Option Value) (tl : List (Addr × Obj)) (dvs : List Value) (ds : List (Int × List Nat)) (n : Nat),
    IntsAre vs ns → m (Str.ofString "deeds") = some (.ref D) → lp ∈ tl → (∀ p ∈ tl, p.1 ≠ D) → (∀ p ∈ tl, p.1 ≠ I) → DeedsIn tl dvs ds → Good ds → ds.length + ns.length ≤ 20 →
    (∀ (h' : Heap) (tk' : Nat) (m' : Str → Option Value) (tl' : List (Addr × Obj)) (dvs' : List Value) (ds' : List (Int × List Nat)) (n' : Nat), Fr h₀ L h' m' → News h₀ L h' ((D, W.listOf dvs'.toArray n') :: tl') → m' (Str.ofString "deeds") = some (.ref D) → (∀ p ∈ tl', p.1 ≠ D) → DeedsIn tl' dvs' ds' → Good ds' → ds'.length ≤ 20 → Q .next { s with heap := h', toks := tk' }) →
    ListRest PySem.Challenge.rw_oc0301_01.row.prog w (lawA L f cd) E h₀ (lawEnv L f cd) (Str.ofString "x") deedTurn Q s I lp vs m ((D, W.listOf dvs.toArray n) :: tl)
  | _, _, m, tl, dvs, ds, n, .nil, e1, hlp, o1, o2, hD, hG, hl, h => by
    refine ListRest.zero fun h' tk F N => h h' tk m tl dvs ds n F N e1 o1 hD hG (by simpa using hl)
  | _, _, m, tl, dvs, ds, n, .cons (vs := vs) (ns := ns) x t hi, e1, hlp, o1, o2, hD, hG, hl, h => by
    rw [List.length_cons] at hl
    have hlen := hD.len
    refine ListRest.succ fun it h1 k1 hit F1 N1 => ?_
    refine deed_turn (dvs := dvs) (n := n) (D := D) (tl := (I, it) :: tl) (x := x) (t := t) B X T F1 (fun p hp => N1 p ?_) (fun p hp => ?_) rfl (by exact e1) (by omega) ?_
    · simp only [List.mem_cons] at hp ⊢
      rcases hp with h | h | h
      · exact .inr (.inl h)
      · exact .inl h
      · exact .inr (.inr h)
    · rcases List.mem_cons.mp hp with rfl | hp
      · exact hDI.symm
      · exact o1 p hp
    intro h2 k2 T2 td tw n2 F2 N2 hTD
    have hTI : T2 ≠ I := news_ne N2 (.tail _ (.head _)) (.tail _ (.tail _ (.head _))) (by rw [show it.cls = _ from hit]; exact (show Value.type "tuple" ≠ Value.type "list_iterator" by decide))
    refine ⟨h2, k2, _, (D, W.listOf (dvs ++ [Value.ref T2]).toArray n2) :: (T2, dTup (x.fmod 4) (wordF x) td tw) :: tl, rfl, F2, fun p hp => N2 p ?_, fun p hp => ?_, .tail _ (.tail _ hlp), ?_⟩
    · simp only [List.mem_cons] at hp ⊢
      rcases hp with h | h | h | h
      · exact .inr (.inr (.inl h))
      · exact .inl h
      · exact .inr (.inl h)
      · exact .inr (.inr (.inr h))
    · rcases List.mem_cons.mp hp with rfl | hp
      · exact hDI
      · rcases List.mem_cons.mp hp with rfl | hp
        · exact hTI
        · exact o2 p hp
    have hb := fdiv_fmod_facts x 4
    refine deed_loop B X T hDI vs ns _ ((T2, dTup (x.fmod 4) (wordF x) td tw) :: tl) (dvs ++ [Value.ref T2]) (ds ++ [(x.fmod 4, wordF x)]) n2 hi (by exact e1) (.tail _ hlp) (fun p hp => ?_) (fun p hp => ?_) (DeedsIn.append (hD.mono fun _ h => .tail _ h) ⟨⟨T2, td, tw, rfl, .head _⟩, trivial⟩) (hG.append fun d hd => ?_) (by rw [List.length_append, List.length_singleton]; omega) h
    · rcases List.mem_cons.mp hp with rfl | hp
      · exact hTD
      · exact o1 p hp
    · rcases List.mem_cons.mp hp with rfl | hp
      · exact hTI
      · exact o2 p hp
    · rw [List.mem_singleton.mp hd]
      exact ⟨by dsimp only; omega, wordF_is x⟩
theorem foldl_rep {v : Value} : ∀ (k : Nat) (a : Array Value), List.foldl (fun x1 x2 => x1 ++ x2) a (List.replicate k #[v]) = a ++ (List.replicate k v).toArray
  | 0, a => by simp
  | k + 1, a => by
    rw [List.replicate_succ, List.foldl_cons, foldl_rep k]
    apply Array.toList_inj.mp
    rw [Array.toList_append, Array.toList_append, Array.toList_append]
    simp [List.replicate_succ]
theorem words0 : S [35] = Str.ofString "#" ∧ S [35, 32] = Str.ofString "# " ∧ S [] = Str.ofString "" := ⟨rfl, rfl, rfl⟩
theorem good0 : Good [(0, [35]), (0, [35, 32])] := by
  intro d hd
  simp only [List.mem_cons, List.not_mem_nil, or_false] at hd
  rcases hd with rfl | rfl
  · exact ⟨.inl rfl, by decide, by decide⟩
  · exact ⟨.inl rfl, by decide, by decide⟩
theorem good1 (k : Nat) : Good (List.replicate k (1, [])) := by
  intro d hd
  rw [List.eq_of_mem_replicate hd]
  exact ⟨.inr (.inl rfl), by decide, by decide⟩
theorem allLt_mem {d : Nat} : ∀ {l : List (Addr × Obj)}, AllLt d l → ∀ p ∈ l, p.1 < d
  | [], _, p, hp => by cases hp
  | q :: l, h, p, hp => by
    rcases List.mem_cons.mp hp with rfl | hp
    · exact h.1
    · exact allLt_mem h.2 p hp
theorem hinv0 : HInv [] [] := by
  refine ⟨?_, ?_, ?_⟩
  · intro x hx; cases hx
  · intro i _ hi; exact absurd hi (by simp)
  · exact List.Perm.nil
section LawJ
local macro_rules | `(tactic| walk_at "eval Name") => `(tactic| (k_here; k_dflt (refine' ld ?k1 ?k2 ?_; (case k1 => k_asm); (case k2 => first | exact rfl | assumption); k_whole)))
local macro_rules | `(tactic| walk_at "exec For Name Subscript cons nil") => `(tactic| (k_here; (rename Fr _ _ _ _ => lF'); (with_unfolding_all refine' For_invVF lF' ?k1 ?k2 ?_; (case k1 => exact rfl); (case k2 => exact rfl); k_whole)))
local macro_rules | `(tactic| walk_at "pyIter ref") => `(tactic| (refine Hold.out ?_))
local macro_rules | `(tactic| walk_at "exec For Tuple BinOp cons nil") => `(tactic| (refine Hold.out ?_))
local macro_rules | `(tactic| walk_at "call builtin:len") => `(tactic| (refine Hold.out ?_))
local macro_rules | `(tactic| walk_at "binaryOp Mult ref int") => `(tactic| (refine Hold.out ?_))
local macro_rules | `(tactic| walk_at "binaryOp Add ref ref") => `(tactic| (refine Hold.out ?_))
abbrev nil' : Stmt := .Pass default
theorem law_p1 : ∀ {w : World} {mean : ExcName → Option Value} {mg mb : Str → Option Value} {h₀ : Heap} {L f sa : Addr} {cd : Value} {m : Str → Option Value} {vs : List Value} {ns : List Int} {s : Shared} {Q : Flow → Shared → Prop} {rest : List Stmt}
    (_ : Below callerA h₀ [] h₀) (_ : (KK w.params).In h₀) (_ : Top VQ (looseW VQ LQ) mean mg mb h₀) (_ : Fr h₀ L s.heap m) (_ : News h₀ L s.heap []) (_ : m (Str.ofString "script") = some (.ref sa)) (_ : h₀.IsList sa vs.toArray) (_ : IntsAre vs ns) (_ : ns.length ≤ 63)
    (_ : ∀ (h' : Heap) (tk' : Nat) (m' : Str → Option Value) (D : Addr) (tl' : List (Addr × Obj)) (dvs' : List Value) (ds' : List (Int × List Nat)) (n' : Nat), Fr h₀ L h' m' → News h₀ L h' ((D, W.listOf dvs'.toArray n') :: tl') → m' (Str.ofString "deeds") = some (.ref D) → (∀ p ∈ tl', p.1 ≠ D) → DeedsIn tl' dvs' ds' → Good ds' → ds'.length ≤ 20 →
      wpAny (model PySem.Challenge.rw_oc0301_01.row.prog w) (lawA L f cd) (execs rest (lawEnv L f cd)) Q (fun _ _ => False) { s with heap := h', toks := tk' }),
    wpAny (model PySem.Challenge.rw_oc0301_01.row.prog w) (lawA L f cd) (execs ((fBody (st 39)).getD 0 nil' :: (fBody (st 39)).getD 1 nil' :: rest) (lawEnv L f cd)) Q (fun _ _ => False) s := by
  w_on
  k_fill
  intro w mean mg mb h₀ L f sa cd m vs ns s Q rest B X T F N e1 hL hI hle h
  show wpAny _ _ (execs (Stmt.Assign _ _ _ :: Stmt.For _ _ _ _ _ :: _) _) _ _ _
  k_steps
  unfold Hold
  try dsimp only at *
  rename News _ _ _ _ => N1
  rename Fr _ _ _ _ => F1
  rename IntsAre _ (List.take _ _) => hI1
  rename _ ∧ _ ∧ _ => ll
  rename _ < _ ∧ _ < _ => l2
  refine iter_listUnr (n := _) rfl F1 (news := (_, _) :: (_, _) :: (_, _) :: (_, _) :: []) (fun p hp => N1 p (by
    simp only [List.mem_cons] at hp ⊢
    rcases hp with h | h | h | h | h
    · exact .inr (.inl h)
    · exact .inl h
    · exact .inr (.inr (.inl h))
    · exact .inr (.inr (.inr (.inl h)))
    · exact .inr (.inr (.inr (.inr h))))) (.tail _ (.head _)) rfl rfl ?_
  intro I hI
  refine deed_loop (n := 0) (dvs := [_, _]) (ds := [(0, [35]), (0, [35, 32])]) B X T (Nat.ne_of_lt (hI _ (.head _))) _ _ _ _ hI1 rfl (.head _) (fun p hp => ?_) (fun p hp => Nat.ne_of_lt (hI p (.tail _ hp))) ⟨⟨_, _, _, rfl, .tail _ (.tail _ (.head _))⟩, ⟨_, _, _, rfl, .tail _ (.head _)⟩, trivial⟩ good0 (by simp; omega) ?_
  · simp only [List.mem_cons, List.not_mem_nil, or_false] at hp
    rcases hp with rfl | rfl | rfl
    · exact (Nat.ne_of_lt ll.1).symm
    · exact Nat.ne_of_lt l2.1
    · exact Nat.ne_of_lt l2.2
  intro h2 k2 m2 tl2 dvs2 ds2 n2 F2 N2 a1 a2 a3 a4 a5
  k_steps
  exact h _ _ _ _ _ _ _ _ F2 N2 a1 a2 a3 a4 a5
theorem law_p2 : ∀ {w : World} {mean : ExcName → Option Value} {mg mb : Str → Option Value} {h₀ : Heap} {L f D : Addr} {cd : Value} {m : Str → Option Value} {tl : List (Addr × Obj)} {dvs : List Value} {ds : List (Int × List Nat)} {n : Nat} {s : Shared} {Q : Flow → Shared → Prop}
    (_ : Below callerA h₀ [] h₀) (_ : (KK w.params).In h₀) (_ : Quiet w.params h₀) (_ : Top VQ (looseW VQ LQ) mean mg mb h₀) (_ : Fr h₀ L s.heap m) (_ : News h₀ L s.heap ((D, W.listOf dvs.toArray n) :: tl)) (_ : m (Str.ofString "deeds") = some (.ref D)) (_ : ∀ p ∈ tl, p.1 ≠ D) (_ : DeedsIn tl dvs ds) (_ : Good ds) (_ : ds.length ≤ 20)
    (_ : ∀ h' tk' m', Fr h₀ L h' m' → Q (.ret (.bool true)) { s with heap := h', toks := tk' }),
    wpAny (model PySem.Challenge.rw_oc0301_01.row.prog w) (lawA L f cd) (execs [(fBody (st 39)).getD 2 nil', (fBody (st 39)).getD 3 nil', (fBody (st 39)).getD 4 nil', (fBody (st 39)).getD 5 nil'] (lawEnv L f cd)) Q (fun _ _ => False) s := by
  w_on
  k_fill
  intro w mean mg mb h₀ L f D cd m tl dvs ds n s Q B X Z T F N e1 off hD hG hl h
  show wpAny _ _ (execs (Stmt.Assign _ _ _ :: Stmt.Assign _ _ _ :: Stmt.For _ _ _ _ _ :: Stmt.Return _ _ :: []) _) _ _ _
  have hlen := hD.len
  k_steps
  unfold Hold
  try dsimp only at *
  rename News _ _ _ _ => N1
  rename Fr _ _ _ _ => F1
  refine For_turns F1 ?_
  k_steps
  unfold Hold
  try dsimp only at *
  rename News _ _ _ _ => N2
  rename Fr _ _ _ _ => F2
  refine len_list (IsL.isList (n := n) (N2 _ (.tail _ (.tail _ (.tail _ (.tail _ (.head _)))))).1) (by rw [List.size_toArray]; omega) ?_
  rw [List.size_toArray]
  k_steps
  unfold Hold
  try dsimp only at *
  refine mul_list (k := 0) (items := #[_]) F2 N2 (N2 _ (.head _)).1 (by omega) (by omega) (by simp; omega) fun h3 F3 N3 => ?_
  rw [if_neg (by simp), foldl_rep, Array.empty_append, show ((dvs.length : Int) + 1).toNat = dvs.length + 1 by omega] at N3
  k_steps
  unfold Hold
  dsimp only at *
  rename_i hpA _ q1 _ rwA _ q2 _ T1 _ q3 l1 h6 q4
  refine add_arrays F3 N3 (IsL.isList (n := n) (N3 _ (.tail _ (.tail _ (.tail _ (.tail _ (.tail _ (.head _))))))).1) (IsL.isList (n := 0) (N3 _ (.head _)).1) (fun h4 F4 N4 => ?_) (by simp [sizeLine]; omega)
  dsimp only at *
  have z1 : rwA < h6.objs.size := Heap.lt_size (N2 (rwA, _) (.tail _ (.tail _ (.head _)))).1
  have z2 : hpA < h6.objs.size := Heap.lt_size (N2 (hpA, _) (.tail _ (.tail _ (.tail _ (.head _))))).1
  have z3 : rwA < h3.objs.size := Heap.lt_size (N3 (rwA, _) (.tail _ (.tail _ (.tail _ (.head _))))).1
  have z4 : hpA < h3.objs.size := Heap.lt_size (N3 (hpA, _) (.tail _ (.tail _ (.tail _ (.tail _ (.head _)))))).1
  have lt1 : ∀ p ∈ tl, p.1 < hpA := fun p hp => allLt_mem q1.2 p hp
  have lt2 : ∀ p ∈ tl, p.1 < rwA := fun p hp => allLt_mem q2.2.2 p hp
  refine iter_listTurns (n := 0) (vs := dvs ++ List.replicate (dvs.length + 1) (Value.ref T1)) (lo := { cls := .type "list", data := .seq (dvs ++ List.replicate (dvs.length + 1) (Value.ref T1)).toArray })
    (news := (hpA, hObj [] 0) :: (rwA, W.listOf ([] : List Value).toArray 0) :: (h3.objs.size, { cls := .type "list", data := .seq (dvs ++ List.replicate (dvs.length + 1) (Value.ref T1)).toArray }) :: (h6.objs.size, { cls := .type "list", data := .seq (List.replicate (dvs.length + 1) (Value.ref T1)).toArray }) :: (l1, W.listOf #[Value.ref T1] 0) :: (T1, dTup 1 [] (s.toks + 1 + 1) (s.toks + 1 + 1 + 1)) :: (D, W.listOf dvs.toArray n) :: tl) rfl F4 (fun p hp => N4 p ?_) (.tail _ (.tail _ (.head _))) rfl rfl ?_
  · simp only [List.mem_cons] at hp ⊢
    rcases hp with h | h | h | h | h | h | h | h
    · exact .inr (.inr (.inr (.inr (.inr (.inl h)))))
    · exact .inr (.inr (.inr (.inr (.inl h))))
    · exact .inl h
    · exact .inr (.inl h)
    · exact .inr (.inr (.inl h))
    · exact .inr (.inr (.inr (.inl h)))
    · exact .inr (.inr (.inr (.inr (.inr (.inr (.inl h))))))
    · exact .inr (.inr (.inr (.inr (.inr (.inr (.inr h))))))
  intro I hI
  refine main_loop B X Z T _ (ds ++ List.replicate (ds.length + 1) (1, [])) _ _ [] [] [] 0 0 ?_ (hG.append (good1 _)) ⟨?_, fun p hp => ?_, fun p hp => ?_⟩ (.head _) (fun p hp => Nat.ne_of_lt (hI p (.tail _ (.tail _ hp)))) rfl rfl ⟨rfl, fun i v x hv => by simp at hv⟩ hinv0 (by simp; omega) ?_
  · rw [hlen]
    exact DeedsIn.append (hD.mono fun _ h => .tail _ (.tail _ (.tail _ (.tail _ (.tail _ h))))) (DeedsIn.rep (d := (1, [])) ⟨T1, _, _, rfl, .tail _ (.tail _ (.tail _ (.head _)))⟩ _)
  · exact Nat.ne_of_lt q2.1
  · simp only [List.mem_cons] at hp
    rcases hp with rfl | rfl | rfl | rfl | rfl | h
    · exact (Nat.ne_of_lt z4).symm
    · exact (Nat.ne_of_lt z2).symm
    · exact (Nat.ne_of_lt q4.2.2.1).symm
    · exact (Nat.ne_of_lt q3.2.1).symm
    · exact Nat.ne_of_lt q1.1
    · exact Nat.ne_of_lt (lt1 p h)
  · simp only [List.mem_cons] at hp
    rcases hp with rfl | rfl | rfl | rfl | rfl | h
    · exact (Nat.ne_of_lt z3).symm
    · exact (Nat.ne_of_lt z1).symm
    · exact (Nat.ne_of_lt q4.2.1).symm
    · exact (Nat.ne_of_lt q3.1).symm
    · exact Nat.ne_of_lt q2.2.1
    · exact Nat.ne_of_lt (lt2 p h)
  intro h7 k7 m7 ps7 vals7 xs7 n7 n7' tl7 F7 b1 N7 hH7 hl7
  rw [List.length_nil, cnt_zero] at hl7
  have hz : ps7 = [] := List.eq_nil_of_length_eq_zero (by rw [hH7.len]; omega)
  subst hz
  k_steps
  exact h _ _ _ (by assumption)
end LawJ
theorem law_body {w : World} {mean : ExcName → Option Value} {mg mb : Str → Option Value} {h₀ : Heap} {L f sa : Addr} {cd : Value} {m : Str → Option Value} {vs : List Value} {ns : List Int} {s : Shared} {Q : Flow → Shared → Prop} {E : Value → Shared → Prop}
    (B : Below callerA h₀ [] h₀) (X : (KK w.params).In h₀) (Z : Quiet w.params h₀) (T : Top VQ (looseW VQ LQ) mean mg mb h₀) (F : Fr h₀ L s.heap m) (N : News h₀ L s.heap []) (e1 : m (Str.ofString "script") = some (.ref sa)) (hL : h₀.IsList sa vs.toArray) (hI : IntsAre vs ns) (hle : ns.length ≤ 63)
    (h : ∀ h' tk' m', Fr h₀ L h' m' → Q (.ret (.bool true)) { s with heap := h', toks := tk' }) :
    wpAny (model PySem.Challenge.rw_oc0301_01.row.prog w) (lawA L f cd) (execs (fBody (st 39)) (lawEnv L f cd)) Q E s := by
  refine wpAny_noRaise ?_
  show wpAny _ _ (execs ((fBody (st 39)).getD 0 nil' :: (fBody (st 39)).getD 1 nil' :: [(fBody (st 39)).getD 2 nil', (fBody (st 39)).getD 3 nil', (fBody (st 39)).getD 4 nil', (fBody (st 39)).getD 5 nil']) _) _ _ _
  refine law_p1 B X T F N e1 hL hI hle fun h1 k1 m1 D tl dvs ds n F1 N1 a1 a2 a3 a4 a5 => ?_
  exact law_p2 B X Z T F1 N1 a1 a2 a3 a4 a5 fun h2 k2 m2 F2 => h h2 k2 m2 F2
end Mine
end TextLawJ
local macro_rules | `(tactic| k_qdec) => `(tactic| decide +kernel)
open PySem PySem.W PyProof.Rows PySem.Calls Mine
set_option maxRecDepth 100000 in
set_option maxHeartbeats 8000000 in
theorem PySem.Challenge.cw_oc0301_01_holds : PySem.Challenge.rw_oc0301_01.Holds :=
  Mine.hd (by
    w_on
    w_strict (
      k_fill
      intro w s₀ s₁ mg mb G Y fa o pm cd doc dV kV ho hd hcd hD hmg hg args vals as hpre hlay hrd hwl hlo
      have KX : (KK w.params).In s₁.heap := Y.1
      have KZ : Mine.Quiet w.params s₁.heap := Y.2
      k_behind G ho hd hcd hD hmg hpre hlay hrd hwl hlo cd
      (all_goals try k_fold)
      refine law_body (by assumption) KX KZ (by assumption) (by assumption) (by assumption) rfl (by assumption) (by assumption) ?_ ?_
      · omega
      intro h2 k2 m2 F2
      k_steps))
