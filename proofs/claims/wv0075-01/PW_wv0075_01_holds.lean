import PyProof.Rows.All
import Wide.All
import OpenK.AllK
import Wide.FinOn
import Lean
import PySem.Challenge.RW_wv0075_01
open PySem PySem.W PyProof.Rows
set_option Elab.async false
set_option maxRecDepth 100000
noncomputable section

namespace Mine
section PartA1
abbrev pw : Program := PySem.Challenge.pw_wv0075_01
def bE : List Stmt := behindTheImports pw
def nth : List Stmt → Nat → Stmt
  | [], _ => .Pass default
  | s :: _, 0 => s
  | _ :: r, n + 1 => nth r n
def stt (k : Nat) : Stmt := nth bE k
def envE : Env := { scope := pw.main.scope, locals := mainNs, globals := mainNs, cells := [], code := .ref 13, frame := some 14 }
def cE : Code := .body bE envE
def qP : Pos := ⟨0, 0, 0, 0⟩
def B : List Frame := [topFrame qP]

def sv (x : String) (t : Nat) : Value := .str (Str.ofString x) t
def ent (P : Params) (x : String) (t : Nat) (v : Value) : DictEntry := ⟨PyData.keyHash P (Str.ofString x), .str (Str.ofString x) t, v⟩

def fnName : Stmt → Str
  | .FunctionDef n .. => n
  | _ => default
def fnArgs : Stmt → Arguments
  | .FunctionDef _ a .. => a
  | _ => default
def fnBody : Stmt → List Stmt
  | .FunctionDef _ _ b .. => b
  | _ => []
def fnScope : Stmt → Scope
  | .FunctionDef _ _ _ _ _ _ s .. => s
  | _ => default

/-- the start-up's loader, read off the start-up's own object -/
def loaderV (P : Params) : Value := match (boot_o_3 P).data with
  | .dict es _ => ((es.toList[3]?).map (·.val)).getD .none
  | _ => .none
/-- the main namespace: the start-up's entries with the module's own name, then more -/
def mainD (P : Params) (nm : Value) (more : List DictEntry) : Obj :=
  { cls := .type "dict", data := .dict (([ent P "__name__" 165 nm, ent P "__doc__" 166 .none, ent P "__package__" 167 .none, ent P "__loader__" 168 (loaderV P), ent P "__spec__" 169 .none,
      ent P "__annotations__" 170 (.ref 6), ent P "__builtins__" 171 (.ref 4), ent P "__file__" 173 (sv "/claim/cut.py" 172), ent P "__cached__" 174 .none] ++ more).toArray) (9 + more.length) }
def codeTab (fs : List Value) : Obj := { cls := .none, data := .fields fs.toArray }
def preL (P : Params) (m c : Obj) : List Obj :=
  [boot_o_0 P, boot_o_1 P, boot_o_2 P, m, boot_o_4 P, boot_o_5 P, boot_o_6 P, boot_o_7 P, boot_o_8 P, boot_o_9 P, boot_o_10 P,
   { cls := .type "tuple", data := .seq #[] 0 }, c,
   { cls := .type "code", data := .fields #[sv "<module>" 182, sv "<module>" 183, sv "/claim/cut.py" 184, .int 1 0, .int 0 0, .int 0 0, .int 0 0, .int 0 0, .ref 11, .bool false, .int 181 0, .ref 12, .none, .none, .none, .none, .int 185 0, .int 1 0, sv "/claim/cut.py" 186] },
   { cls := .type "frame", slots := #[some (.ref 13), some (.ref 3), some (.ref 3), none, some (sv "__main__" 164), none, some (.ref 0)] }]
def gTup : Obj := { cls := .type "tuple", data := .seq #[] 0 }
def gVars (T : Nat) (vars : List String) : Obj := { cls := .type "tuple", data := .seq ((vars.zipIdx).map fun (x, i) => sv x (T + 3 + i)).toArray 0 }
def gCode (st : Stmt) (b T line nv : Nat) : Obj := { cls := .type "code", data := .fields #[.str (fnName st) T, .str (fnName st) (T + 1), sv "/claim/cut.py" (T + 2), .int line 0, .int 1 0, .int 0 0, .int 0 0, .int 3 0, .ref b, .bool true, .int 181 0, .ref (b + 1), .none, .ref (b + 2), .ref (b + 3), .ref (b + 4), .int (T + 3 + nv : Nat) 0, .int line 0, sv "/claim/cut.py" (T + 4 + nv)] }
def gFn (st : Stmt) (b : Nat) (nm : Value) : Obj := { cls := .type "function", data := .func { name := fnName st, qualname := fnName st, params := fnArgs st, body := .stmts (fnBody st), scope := fnScope st, globals := mainNs, closure := [], defaults := .none, kwdefaults := .none, code := .ref (b + 5), pyModule := nm } }
def fnObjs (st : Stmt) (b T line : Nat) (vars : List String) (nm : Value) : List Obj :=
  [gTup, { cls := .none, data := .fields #[] }, gVars T vars, gTup,
   { cls := .none, data := .func { name := fnName st, qualname := fnName st, params := fnArgs st, body := .stmts (fnBody st), scope := fnScope st, globals := builtinsNs, closure := [], defaults := .none, kwdefaults := .none } },
   gCode st b T line vars.length, gFn st b nm]
def heapOf (l : List Obj) : Heap := { objs := l.toArray }

def nm1 : Value := sv "cpy313.stringprep" 187
def nm2 : Value := sv "law_wv0075_01" 2215
def HA (P : Params) : Heap := heapOf (preL P (mainD P (sv "__main__" 164) []) (codeTab []))
def H0 (P : Params) : Heap := heapOf (preL P (mainD P nm1 []) (codeTab []))

def posOf : Stmt → Pos
  | .Assign _ _ p => p
  | .FunctionDef _ _ _ _ _ _ _ _ _ p => p
  | _ => default

set_option maxHeartbeats 0

theorem run_pre (w : World) (os : OsState) : topGo treeTable pw w 11 (some (.ref 6)) 12 ⟨boot_heap w.params, #[], boot_drawn, boot_toks, os⟩ (topStub pw) = some (⟨HA w.params, #[], {}, 187, os⟩, ⟨denote treeTable cE, cE, qP, B⟩) := by
  kernel_rfl
theorem run_block (w : World) (os : OsState) : segRun treeTable pw w 11 (some (.ref 6)) 1 1 ⟨HA w.params, #[], {}, 187, os⟩ (blockOf bE envE cE qP B) = some (.next, ⟨HA w.params, #[], {}, 187, os⟩, cE, qP) := by
  kernel_rfl
theorem run_0 (w : World) (os : OsState) : segRun treeTable pw w 11 (some (.ref 6)) 1 10 ⟨HA w.params, #[], {}, 187, os⟩ (piecesOf (bE.take 1) envE cE qP B) = some (.next, ⟨H0 w.params, #[], {}, 189, os⟩, cE, ⟨1, 0, 1, 8⟩) := by
  kernel_rfl

def b1a : List (Int × Nat) := [(173, 189), (847, 190), (6150, 191), (6155, 192), (6156, 193), (6157, 194), (8203, 195), (8204, 196), (8205, 197), (8288, 198), (65279, 199)]
def b1b : List (Int × Nat) := [(65024, 205), (65025, 206), (65026, 207), (65027, 208), (65028, 209), (65029, 210), (65030, 211), (65031, 212), (65032, 213), (65033, 214), (65034, 215), (65035, 216), (65036, 217), (65037, 218), (65038, 219), (65039, 220)]
def b1s : List (Int × Nat) := [(65024, 205), (65025, 206), (65026, 207), (65027, 208), (65028, 209), (65029, 210), (6150, 191), (65030, 211), (65031, 212), (65032, 213), (65033, 214), (6155, 192), (6156, 193), (6157, 194), (8203, 195), (8204, 196), (8205, 197), (65034, 215), (65035, 216), (65036, 217), (65037, 218), (65038, 219), (65039, 220), (173, 189), (847, 190), (8288, 198), (65279, 199)]
def iv (x : Int × Nat) : Value := .int x.1 x.2
def stopObj (t : Nat) : Obj := { cls := .type "StopIteration", data := .fields #[.ref t, .none, .none, .none, .bool false, .none] }
def setObj (P : Params) : Obj := { cls := .type "set", data := .set (b1s.map fun x => (x.1, iv x)).toArray 29 { mask := 127, place := #[0, 1, 2, 3, 4, 5, 6, 7, 8, 9, 10, 11, 12, 13, 14, 15, 16, 17, 18, 19, 20, 21, 22, 45, 79, 96, 127], dummies := #[], finger := 0, led := !P.followText "set-order", moves := 2, plain := true } }
def setObjs (P : Params) : List Obj :=
  [{ cls := .type "list", data := .seq (b1a.map iv).toArray 0 },
   { cls := .type "range", data := .fields #[.int 65024 200, .int 65040 201, .int 1 202] },
   { cls := .type "list", data := .seq (b1b.map iv).toArray 18 },
   { cls := .type "range_iterator", data := .fields #[.int 65040 0, .int 0 0, .int 1 0] },
   { cls := .type "tuple", data := .seq #[] 0 }, stopObj 19,
   { cls := .type "list", data := .seq ((b1a ++ b1b).map iv).toArray 0 },
   setObj P,
   { cls := .type "list_iterator", data := .fields #[.none, .int 27 0] },
   { cls := .type "tuple", data := .seq #[] 0 }, stopObj 24]
def e1 (P : Params) : DictEntry := ent P "b1_set" 248 (.ref 22)
def H1 (P : Params) : Heap := heapOf (preL P (mainD P nm1 [e1 P]) (codeTab []) ++ setObjs P)

theorem tSegRun : @segRun = PySem.W.Fast.tw14374325043358763698 := PySem.W.Fast.te14374325043358763698
theorem tTree : treeTable = PySem.W.Fast.tw14364793385576792824 := PySem.W.Fast.te14364793385576792824
theorem tExecs : @execs = PySem.W.Fast.tw12563942051412417395 := PySem.W.Fast.te12563942051412417395

def Run1 (w : World) : Prop := ∀ os, segRun treeTable pw w 11 (some (.ref 6)) 1 999 ⟨H0 w.params, #[], {}, 189, os⟩ (piecesOf ((bE.drop 1).take 1) envE cE ⟨1, 0, 1, 8⟩ B) = some (.next, ⟨H1 w.params, #[], {}, 249, os⟩, cE, ⟨2, 0, 2, 6⟩)
theorem run_1f (w : World) : Run1 (w.withFollow "special-get-raises" false) := by
  intro os; unfold piecesOf; rw [tSegRun, tTree, tExecs]; kernel_rfl
theorem run_1t (w : World) : Run1 (w.withFollow "special-get-raises" true) := by
  intro os; unfold piecesOf; rw [tSegRun, tTree, tExecs]; kernel_rfl
theorem run_1 (w : World) : ∀ os, segRun treeTable pw w 11 (some (.ref 6)) 1 999 ⟨H0 w.params, #[], {}, 189, os⟩ (piecesOf ((bE.drop 1).take 1) envE cE ⟨1, 0, 1, 8⟩ B) = some (.next, ⟨H1 w.params, #[], {}, 249, os⟩, cE, ⟨2, 0, 2, 6⟩) :=
  byRow2 "special-get-raises" (P := Run1) run_1f run_1t w
end PartA1
end Mine

namespace Mine
section PartA2
structure Cfg where
  tb : String → Option Builtin
  p : Program
  w : World
  n₀ : Nat
  ann : Option Value
  bb : List Stmt
  ee : Env
  q0 : Pos

abbrev Cfg.go (C : Cfg) (n : Nat) (s : Shared) (t : Thread) := segGo C.tb C.p C.w C.n₀ C.ann 1 n s t
abbrev Cfg.th (C : Cfg) (x : Sem Fin) (q : Pos) : Thread := ⟨x, .body C.bb C.ee, q, [topFrame C.q0]⟩

theorem go_add (C : Cfg) : ∀ {n m : Nat} {s s' : Shared} {t t' : Thread}, C.go n s t = some (s', t') → C.go (n + m) s t = C.go m s' t'
  | 0, m, s, s', t, t', h => by
    obtain ⟨rfl, rfl⟩ : s = s' ∧ t = t' := by simpa [Cfg.go, segGo] using h
    rw [Nat.zero_add]
  | n + 1, m, s, s', t, t', h => by
    rw [show n + 1 + m = n + m + 1 by omega]
    generalize hr : C.go m s' t' = r
    unfold Cfg.go segGo at h ⊢
    cases ht : endAt 1 t with
    | some x => rw [ht] at h; cases h
    | none =>
      rw [ht] at h
      cases hk : stepOk C.n₀ C.ann t with
      | false => rw [hk] at h; cases h
      | true =>
        rw [hk] at h
        cases hs : step (denote C.tb) C.p C.w s t with
        | halt o s₂ => rw [hs] at h; cases h
        | go s₂ t₂ => rw [hs] at h; exact (go_add C h).trans hr

def Ex (C : Cfg) {α : Type} (m : Sem α) (s : Shared) (q : Pos) (n : Nat) (a : α) (s' : Shared) (q' : Pos) : Prop :=
  ∀ (K : α → Sem Fin) (H : Value → Sem Fin) (gd : Bool → Bool) (lv : List Value → List Value),
    C.go n s (C.th (m.wrap K H gd lv) q) = some (s', C.th (K a) q')

section
variable {C : Cfg} {α β : Type} {s s' s₁ s₂ : Shared} {q q' q₁ q₂ : Pos} {n m : Nat}

theorem Ex.pure {a : α} : Ex C (Pure.pure a : Sem α) s q 0 a s q := fun _ _ _ _ => rfl
theorem Ex.bind {x : Sem α} {f : α → Sem β} {a : α} {b : β} (h1 : Ex C x s q n a s₁ q₁) (h2 : Ex C (f a) s₁ q₁ m b s₂ q₂) : Ex C (x >>= f) s q (n + m) b s₂ q₂ := fun K H gd lv => by
  rw [Sem.bind_eq_wrap', Sem.wrap_wrap]
  exact (go_add C (h1 _ _ _ _)).trans (h2 K H gd lv)
theorem Ex.keep {x : Sem α} {a : α} {vs : List Value} (h : Ex C x s q n a s' q') : Ex C (x.keep vs) s q n a s' q' := fun K H gd lv => by
  rw [Sem.keep_eq_wrap, Sem.wrap_wrap]
  exact h _ _ _ _
theorem Ex.holding {x : Sem α} {a : α} {vs : List Value} (h : Ex C x s q n a s' q') : Ex C (PySem.holding vs x) s q n a s' q' := by
  unfold PySem.holding
  split
  · exact h
  · exact h.keep
theorem Ex.onRaise {x : Sem α} {a : α} {k : Value → Sem Unit} (h : Ex C x s q n a s' q') : Ex C (x.onRaise k) s q n a s' q' := fun K H gd lv => by
  rw [Sem.onRaise_eq_wrap, Sem.wrap_wrap]
  exact h _ _ _ _
theorem Ex.tryCatch {x : Sem α} {a : α} {k : Value → Sem α} (h : Ex C x s q n a s' q') : Ex C (x.tryCatch k) s q n a s' q' := fun K H gd lv => by
  rw [Sem.tryCatch_eq_wrap, Sem.wrap_wrap]
  exact h _ _ _ _
theorem Ex.cast {x : Sem α} {a : α} {n' : Nat} (h : Ex C x s q n a s' q') (e : n = n') : Ex C x s q n' a s' q' := e ▸ h

theorem Ex.rule {tag : String} : Ex C (PySem.rule tag) s q 1 () s q := fun _ _ _ _ => rfl
theorem Ex.point : Ex C PySem.point s q 1 () s q := fun _ _ _ _ => rfl
theorem Ex.standAt {p : Pos} : Ex C (PySem.standAt p) s q 1 () s p := fun _ _ _ _ => rfl
theorem Ex.ask : Ex C PySem.ask s q 1 ⟨C.p, C.w.params⟩ s q := fun _ _ _ _ => rfl
theorem Ex.fresh : Ex C PySem.fresh s q 1 s.toks { s with toks := s.toks + 1 } q := fun _ _ _ _ => rfl
theorem Ex.alloc {o : Obj} : Ex C (PySem.alloc o) s q 1 s.heap.objs.size { s with heap := s.heap.push o } q := fun _ _ _ _ => rfl
theorem Ex.loadPart {a : Addr} {part : Option Value} {o : Obj} (h : s.heap.get? a = some o) : Ex C (PySem.loadPart a part) s q 1 o s q := fun K H gd lv => by
  obtain ⟨heap, gens, drawn, toks, os⟩ := s
  show (match step (denote C.tb) C.p C.w ⟨heap, gens, drawn, toks, os⟩ (C.th (.load a part fun x => K x) q) with
    | .go s' t' => some (s', t')
    | .halt _ _ => none) = _
  have h' : heap.get? a = some o := h
  simp only [Cfg.th, step, h']
theorem Ex.load {a : Addr} {o : Obj} (h : s.heap.get? a = some o) : Ex C (PySem.load a) s q 1 o s q := Ex.loadPart h
theorem Ex.updatePart {a : Addr} {part : Option Value} {f : Obj → Obj} (h : (s.heap.get? a).isSome = true) (hn : Nat.ble C.n₀ a = true) : Ex C (PySem.updatePart a part f) s q 1 () { s with heap := s.heap.update a f } q := fun K H gd lv => by
  obtain ⟨heap, gens, drawn, toks, os⟩ := s
  show (match Nat.ble C.n₀ a || a == mainNs || a == cStatics || C.ann == some (.ref a) with
    | false => none
    | true => (match step (denote C.tb) C.p C.w ⟨heap, gens, drawn, toks, os⟩ (C.th (.update a part f fun x => K x) q) with
    | .go s' t' => some (s', t')
    | .halt _ _ => none)) = _
  have h' : (heap.get? a).isSome = true := h
  rw [hn]
  simp only [Cfg.th, step, h', Bool.true_or, if_true]
theorem Ex.update {a : Addr} {f : Obj → Obj} (h : (s.heap.get? a).isSome = true) (hn : Nat.ble C.n₀ a = true) : Ex C (PySem.update a f) s q 1 () { s with heap := s.heap.update a f } q := Ex.updatePart h hn
theorem Ex.mkInt {i : Int} : Ex C (PySem.mkInt i) s q 1 (.int i s.toks) { s with toks := s.toks + 1 } q := fun _ _ _ _ => rfl
theorem Ex.mkText {x : Str} : Ex C (PySem.mkText x) s q 1 (.str x s.toks) { s with toks := s.toks + 1 } q := fun _ _ _ _ => rfl
end

abbrev TC (p : Program) (w : World) (n₀ : Nat) (ann : Option Value) (bb : List Stmt) (ee : Env) (q0 : Pos) : Cfg := ⟨treeTable, p, w, n₀, ann, bb, ee, q0⟩
theorem tSegGo : @segGo = PySem.W.Fast.tw3277212676724774461 := PySem.W.Fast.te3277212676724774461
theorem tTree2 : treeTable = PySem.W.Fast.tw14364793385576792824 := PySem.W.Fast.te14364793385576792824

section
variable {p : Program} {n₀ : Nat} {ann : Option Value} {bb : List Stmt} {ee : Env} {q0 : Pos}

theorem ex_callHash (w : World) : ∀ (i : Int) (t : Tok) (r : Sem Value) (s : Shared) (q : Pos), Ex (TC p w n₀ ann bb ee q0) (callSpecialIfBoundUnlessNone? (.int i t) "__hash__" r) s q 5 (some (.int (rawHash i) s.toks)) { s with toks := s.toks + 1 } q := by
  refine byRow2 "special-get-raises" (P := fun w => ∀ (i : Int) (t : Tok) (r : Sem Value) (s : Shared) (q : Pos), Ex (TC p w n₀ ann bb ee q0) (callSpecialIfBoundUnlessNone? (.int i t) "__hash__" r) s q 5 (some (.int (rawHash i) s.toks)) { s with toks := s.toks + 1 } q) ?_ ?_ w
  · intro w i t r ⟨heap, gens, drawn, toks, os⟩ q K H gd lv
    unfold Cfg.go
    rw [tSegGo]
    dsimp only [TC]
    rw [tTree2]
    kernel_rfl
  · intro w i t r ⟨heap, gens, drawn, toks, os⟩ q K H gd lv
    unfold Cfg.go
    rw [tSegGo]
    dsimp only [TC]
    rw [tTree2]
    kernel_rfl
theorem special_int_hash (i : Int) (t : Tok) : specialOf (.int i t) "__hash__" = pure (some (.builtin "int.__hash__")) := by kernel_rfl

theorem ex_pyHash {w : World} {i : Int} {t : Tok} {s : Shared} {q : Pos} : Ex (TC p w n₀ ann bb ee q0) (pyHash (.int i t)) s q 5 (hashInt i) { s with toks := s.toks + 1 } q := by
  show Ex _ (pyHashByItsType (.int i t)) _ _ _ _ _ _
  unfold pyHashByItsType
  refine (Ex.bind (n := 0) (m := 5) (a := ()) (s₁ := s) (q₁ := q) ?_ ?_).cast rfl
  · rw [cRoomFor, if_neg (by exact Bool.false_ne_true)]; exact Ex.pure
  rw [special_int_hash]
  refine (Ex.bind (n := 0) (m := 5) Ex.pure ?_).cast rfl
  rw [if_neg (by exact Bool.false_ne_true)]
  refine (Ex.bind (n := 0) (m := 5) Ex.pure ?_).cast rfl
  rw [if_neg (by exact Bool.false_ne_true)]
  refine (Ex.bind (n := 5) (m := 0) (ex_callHash w _ _ _ _ _) ?_).cast rfl
  show Ex _ (pyHashByItsType.reduced (rawHash i)) _ _ _ _ _ _
  unfold pyHashByItsType.reduced
  have hr := rawHash_range i
  rw [if_pos (by rw [decide_eq_true hr.1, decide_eq_true hr.2]; rfl)]
  exact Ex.pure
end
end PartA2
end Mine

namespace Mine
section PartA3
def dictO (es : List DictEntry) (n : Nat) : Obj := { cls := .type "dict", data := .dict es.toArray n }
def hset (h : Heap) (a : Addr) (o : Obj) : Heap := ⟨h.objs.setIfInBounds a o, h.life⟩

theorem objs_of_get {h : Heap} {a : Addr} {o : Obj} (e : h.get? a = some o) : h.objs[a]? = some o := by
  unfold Heap.get? at e
  split at e
  · cases e
  · exact e
theorem upd_eq {h : Heap} {a : Addr} {o : Obj} {f : Obj → Obj} (e : h.get? a = some o) : h.update a f = hset h a (f o) := by
  have e' := objs_of_get e
  obtain ⟨objs, life⟩ := h
  show Heap.mk _ _ = Heap.mk _ _
  refine congrArg (Heap.mk · life) ?_
  apply Array.ext_getElem?
  intro i
  rw [Array.getElem?_modify, Array.getElem?_setIfInBounds]
  by_cases q : a = i
  · subst q
    have : objs[a]? = some o := e'
    have lt : a < objs.size := by
      rcases Nat.lt_or_ge a objs.size with g | g
      · exact g
      · rw [Array.getElem?_eq_none g] at this; cases this
    rw [if_pos rfl, if_pos rfl, this, if_pos lt]; rfl
  · rw [if_neg q, if_neg q]
theorem hset_get {h : Heap} {a : Addr} {es : List DictEntry} {n : Nat} (lt : a < h.objs.size) : (hset h a (dictO es n)).get? a = some (dictO es n) := by
  unfold Heap.get? hset
  dsimp only
  rw [Array.getElem?_setIfInBounds, if_pos rfl, if_pos lt]
  rfl
theorem hset_hset {h : Heap} {a : Addr} {o o' : Obj} : hset (hset h a o) a o' = hset h a o' := by
  unfold hset
  dsimp only
  rw [Array.setIfInBounds_setIfInBounds]
theorem hset_size {h : Heap} {a : Addr} {o : Obj} : (hset h a o).objs.size = h.objs.size := by
  unfold hset
  dsimp only
  rw [Array.size_setIfInBounds]
theorem lt_of_get {h : Heap} {a : Addr} {o : Obj} (e : h.get? a = some o) : a < h.objs.size := by
  have e' := objs_of_get e
  rcases Nat.lt_or_ge a h.objs.size with g | g
  · exact g
  · rw [Array.getElem?_eq_none g] at e'; cases e'
theorem map_dictO {es : List DictEntry} {n : Nat} {e : DictEntry} : Obj.mapDictKeys (·.push e) (dictO es n) = dictO (es ++ [e]) (n + 1) := by
  show Obj.mk _ _ (Data.dict _ _) _ = Obj.mk _ _ (Data.dict _ _) _
  dsimp only
  rw [List.push_toArray]

theorem places_nil {es : List DictEntry} {h : Int} (hno : ∀ e ∈ es, e.hash ≠ h) : placesWithHash es.toArray.size (fun i => es.toArray[i]?.map (·.hash)) h = [] := by
  unfold placesWithHash
  rw [List.filter_eq_nil_iff]
  intro i _ hi
  dsimp only at hi
  rw [List.getElem?_toArray] at hi
  cases hx : es[i]? with
  | none => rw [hx] at hi; cases hi
  | some e =>
    rw [hx] at hi
    have := eq_of_beq hi
    exact hno e (List.mem_of_getElem? hx) (Option.some.inj this)

section
variable {C : Cfg} {s : Shared} {q : Pos} {d : Addr} {es : List DictEntry} {n : Nat} {i : Int} {t : Tok}

theorem ex_entries {part : Option Value} (ho : s.heap.get? d = some (dictO es n)) : Ex C (dictEntries d part) s q 1 es.toArray s q := by
  unfold dictEntries
  exact Ex.bind (n := 1) (m := 0) (Ex.loadPart ho) Ex.pure
theorem ex_epoch {part : Option Value} (ho : s.heap.get? d = some (dictO es n)) : Ex C (dictEpoch d part) s q 1 n s q := by
  unfold dictEpoch
  exact Ex.bind (n := 1) (m := 0) (Ex.loadPart ho) Ex.pure
theorem ex_find {h : Int} (ho : s.heap.get? d = some (dictO es n)) (hno : ∀ e ∈ es, e.hash ≠ h) : Ex C (dictFind d (.int i t) h) s q 1 none s q := by
  unfold dictFind
  refine Ex.holding ?_
  refine Ex.bind (n := 1) (m := 0) (ex_entries ho) ?_
  dsimp only
  rw [places_nil hno]
  exact Ex.pure
theorem ex_push {part : Option Value} {e : DictEntry} (ho : s.heap.get? d = some (dictO es n)) (hsz : es.length ≤ sizeLine) (hn : Nat.ble C.n₀ d = true) :
    Ex C (updateDictKeys d (·.push e) part) s q 3 () { s with heap := hset s.heap d (dictO (es ++ [e]) (n + 1)) } q := by
  unfold updateDictKeys
  refine Ex.bind (n := 1) (m := 2) (Ex.loadPart ho) ?_
  show Ex C (updatePart d part _ >>= fun _ => lookBehind d part) _ _ _ _ _ _
  have hu := upd_eq (f := Obj.mapDictKeys (·.push e)) ho
  rw [map_dictO] at hu
  have h1 := Ex.updatePart (C := C) (s := s) (q := q) (part := part) (f := Obj.mapDictKeys (·.push e)) (by rw [ho]; rfl : (s.heap.get? d).isSome = true) hn
  rw [hu] at h1
  refine Ex.bind (n := 1) (m := 1) h1 ?_
  unfold lookBehind
  refine Ex.bind (n := 1) (m := 0) (Ex.loadPart (o := dictO (es ++ [e]) (n + 1)) (hset_get (lt_of_get ho))) ?_
  have : (dictO (es ++ [e]) (n + 1)).data.pastItsLine = none := by
    show (if (es ++ [e]).toArray.size > sizeLine + 1 then _ else _) = _
    rw [if_neg]
    rw [List.size_toArray, List.length_append, List.length_singleton]
    omega
  rw [this]
  exact Ex.pure
theorem ex_put {h : Int} {v : Value} (ho : s.heap.get? d = some (dictO es n)) (hno : ∀ e ∈ es, e.hash ≠ h) (hsz : es.length ≤ sizeLine) (hn : Nat.ble C.n₀ d = true) :
    Ex C (dictPut d h (.int i t) v) s q 4 () { s with heap := hset s.heap d (dictO (es ++ [⟨h, .int i t, v⟩]) (n + 1)) } q := by
  unfold dictPut
  refine Ex.bind (n := 1) (m := 3) (ex_find ho hno) ?_
  exact ex_push ho hsz hn
end

section
variable {p : Program} {w : World} {n₀ : Nat} {ann : Option Value} {bb : List Stmt} {ee : Env} {q0 : Pos} {s : Shared} {q : Pos} {d : Addr} {es : List DictEntry} {n : Nat} {i : Int} {t : Tok}
theorem ex_set {v : Value} (ho : s.heap.get? d = some (dictO es n)) (hno : ∀ e ∈ es, e.hash ≠ hashInt i) (hsz : es.length ≤ sizeLine) (hn : Nat.ble n₀ d = true) :
    Ex (TC p w n₀ ann bb ee q0) (dictSet d (.int i t) v) s q 10 () { s with heap := hset s.heap d (dictO (es ++ [⟨hashInt i, .int i t, v⟩]) (n + 1)), toks := s.toks + 1 } q := by
  unfold dictSet
  refine Ex.holding (Ex.bind (n := 5) (m := 5) ex_pyHash ?_)
  unfold dictSetHashed
  refine Ex.holding (Ex.bind (n := 1) (m := 4) (ex_find (s := { s with toks := s.toks + 1 }) ho hno) ?_)
  refine Ex.bind (n := 1) (m := 3) Ex.rule ?_
  exact ex_push (s := { s with toks := s.toks + 1 }) ho hsz hn

def pr (pos : Pos) (x : Int × Str) : Sem Value × Sem Value := (mkInt x.1, do let v ← mkText x.2; standAt pos; pure v)
def ents : Nat → List (Int × Str) → List DictEntry
  | _, [] => []
  | T, x :: r => ⟨hashInt x.1, .int x.1 T, .str x.2 (T + 1)⟩ :: ents (T + 3) r
theorem ents_length : ∀ {T : Nat} {c : List (Int × Str)}, (ents T c).length = c.length
  | _, [] => rfl
  | T, _ :: r => by rw [ents, List.length_cons, List.length_cons, ents_length]

abbrev Apart (c : List (Int × Str)) : Prop := c.Pairwise fun x y => hashInt x.1 ≠ hashInt y.1

theorem ex_fill {pos : Pos} : ∀ (c : List (Int × Str)) (es : List DictEntry) (n : Nat) (s : Shared), s.heap.get? d = some (dictO es n) → (∀ x ∈ c, ∀ e ∈ es, e.hash ≠ hashInt x.1) → Apart c → es.length + c.length ≤ sizeLine → Nat.ble n₀ d = true →
    Ex (TC p w n₀ ann bb ee q0) (forIn (c.map (pr pos)) PUnit.unit fun (x : Sem Value × Sem Value) (_ : PUnit) => (match x with
      | (k, v) => do
        let kv ← k
        let vv ← holding [kv] v
        holding [kv, vv] (dictSet d kv vv)
        pure (ForInStep.yield PUnit.unit) : Sem (ForInStep PUnit))) s pos (13 * c.length) PUnit.unit { s with heap := hset s.heap d (dictO (es ++ ents s.toks c) (n + c.length)), toks := s.toks + 3 * c.length } pos
  | [], es, n, s, ho, _, _, _, _ => by
    have : hset s.heap d (dictO (es ++ ents s.toks []) (n + 0)) = s.heap := by
      show Heap.mk _ _ = _
      have e' := objs_of_get ho
      obtain ⟨⟨objs, life⟩, _, _, _, _⟩ := s
      refine congrArg (Heap.mk · life) ?_
      apply Array.ext_getElem?
      intro i
      rw [Array.getElem?_setIfInBounds]
      by_cases q : d = i
      · subst q
        rw [if_pos rfl]
        have e'' : objs[d]? = some (dictO es n) := e'
        have lt := lt_of_get ho
        rw [if_pos lt, e'', ents, List.append_nil]; rfl
      · rw [if_neg q]
    show Ex _ _ _ _ _ _ ⟨hset s.heap d (dictO (es ++ ents s.toks []) (n + 0)), _, _, _, _⟩ _
    rw [this]
    exact Ex.pure
  | x :: r, es, n, s, ho, hno, ha, hsz, hn => by
    rw [List.length_cons] at hsz
    rw [List.map_cons, List.forIn_cons]
    refine (Ex.bind (n := 13) (m := 13 * r.length) (a := ForInStep.yield PUnit.unit) (q₁ := pos) (s₁ := { s with heap := hset s.heap d (dictO (es ++ [⟨hashInt x.1, .int x.1 s.toks, .str x.2 (s.toks + 1)⟩]) (n + 1)), toks := s.toks + 3 }) ?_ ?_).cast (by rw [List.length_cons]; omega)
    · show Ex _ (mkInt x.1 >>= fun kv => _) _ _ _ _ _ _
      refine Ex.bind (n := 1) (m := 12) Ex.mkInt ?_
      refine Ex.bind (n := 2) (m := 10) (a := .str x.2 (s.toks + 1)) (s₁ := { s with toks := s.toks + 2 }) (q₁ := pos) (Ex.holding (Ex.bind (n := 1) (m := 1) Ex.mkText (Ex.bind (n := 1) (m := 0) Ex.standAt Ex.pure))) ?_
      refine Ex.bind (n := 10) (m := 0) (Ex.holding (ex_set (s := { s with toks := s.toks + 2 }) ho (hno x (.head _)) (by omega) hn)) Ex.pure
    · have ih := ex_fill (pos := pos) r (es ++ [⟨hashInt x.1, .int x.1 s.toks, .str x.2 (s.toks + 1)⟩]) (n + 1) { s with heap := hset s.heap d (dictO (es ++ [⟨hashInt x.1, .int x.1 s.toks, .str x.2 (s.toks + 1)⟩]) (n + 1)), toks := s.toks + 3 }
        (hset_get (lt_of_get ho)) (fun y hy e he => by
          rcases List.mem_append.mp he with h | h
          · exact hno y (.tail _ hy) e h
          · obtain rfl := List.mem_singleton.mp h
            exact (List.pairwise_cons.mp ha).1 y hy) (List.pairwise_cons.mp ha).2 (by rw [List.length_append, List.length_singleton]; omega) hn
      have e1 : hset (hset s.heap d (dictO (es ++ [⟨hashInt x.1, .int x.1 s.toks, .str x.2 (s.toks + 1)⟩]) (n + 1))) d (dictO ((es ++ [⟨hashInt x.1, .int x.1 s.toks, .str x.2 (s.toks + 1)⟩]) ++ ents (s.toks + 3) r) (n + 1 + r.length)) =
          hset s.heap d (dictO (es ++ ents s.toks (x :: r)) (n + (x :: r).length)) := by
        rw [hset_hset, List.append_assoc, List.length_cons, show n + 1 + r.length = n + (r.length + 1) by omega]; rfl
      have e2 : s.toks + 3 + 3 * r.length = s.toks + 3 * (x :: r).length := by rw [List.length_cons]; omega
      rw [← e1, ← e2]
      exact ih
end
end PartA3
end Mine

namespace Mine
section PartA4
def pushAll (h : Heap) (l : List Obj) : Heap := ⟨h.objs ++ l.toArray, h.life⟩
theorem pushAll_push {h : Heap} {l : List Obj} {o : Obj} : (pushAll h l).push o = pushAll h (l ++ [o]) := by
  unfold pushAll
  show Heap.mk _ _ = Heap.mk _ _
  rw [← Array.append_push, List.push_toArray]
theorem push_one {h : Heap} {o : Obj} : h.push o = pushAll h [o] := by
  obtain ⟨objs, life⟩ := h
  show Heap.mk _ _ = Heap.mk _ _
  refine congrArg (Heap.mk · life) ?_
  apply Array.ext_getElem?
  intro i
  rw [Array.getElem?_push, Array.getElem?_append]
  by_cases h1 : i = objs.size
  · subst h1; simp
  · by_cases h2 : i < objs.size
    · simp [h1, h2]
    · rw [if_neg h1, if_neg h2]
      rw [Array.getElem?_eq_none (by omega), Array.getElem?_eq_none (by simp; omega)]
theorem pushAll_size {h : Heap} {l : List Obj} : (pushAll h l).objs.size = h.objs.size + l.length := by
  unfold pushAll
  simp
theorem pushAll_hset {h : Heap} {o o' : Obj} {l : List Obj} : hset (pushAll h (o :: l)) h.objs.size o' = pushAll h (o' :: l) := by
  unfold pushAll hset
  show Heap.mk _ _ = Heap.mk _ _
  refine congrArg (Heap.mk · h.life) ?_
  apply Array.ext_getElem?
  intro i
  rw [Array.getElem?_setIfInBounds, Array.getElem?_append, Array.getElem?_append]
  by_cases q : h.objs.size = i
  · subst q; simp
  · by_cases h2 : i < h.objs.size
    · simp [q, h2]
    · rw [if_neg q, if_neg h2, if_neg h2]
      obtain ⟨k, hk⟩ : ∃ k, i - h.objs.size = k + 1 := ⟨i - h.objs.size - 1, by omega⟩
      rw [hk]
      simp
theorem pushAll_main {h : Heap} {es : List DictEntry} {n : Nat} {l : List Obj} : (pushAll h (dictO es n :: l)).get? h.objs.size = some (dictO es n) := by
  unfold Heap.get? pushAll
  dsimp only
  rw [Array.getElem?_append]
  simp
  rfl
theorem pushAll_last {h : Heap} {x : Obj} {es : List DictEntry} {n : Nat} {l : List Obj} : (pushAll h (x :: (l ++ [dictO es n]))).get? (h.objs.size + (l.length + 1)) = some (dictO es n) := by
  unfold Heap.get? pushAll
  dsimp only
  rw [Array.getElem?_append, if_neg (by omega), show h.objs.size + (l.length + 1) - h.objs.size = l.length + 1 by omega]
  simp
  rfl

section
variable {p : Program} {w : World} {n₀ : Nat} {ann : Option Value} {bb : List Stmt} {ee : Env} {q0 : Pos}

theorem hset_push {h : Heap} {o o' : Obj} : hset (h.push o) h.objs.size o' = h.push o' := by
  rw [push_one, push_one, pushAll_hset]
theorem push_get {h : Heap} {es : List DictEntry} {n : Nat} : (h.push (dictO es n)).get? h.objs.size = some (dictO es n) := by
  rw [push_one]; exact pushAll_main

theorem ex_subLong {pos : Pos} {c : List (Int × Str)} {s : Shared} (hl : ¬ c.length ≤ 15) (ha : Apart c) (hsz : c.length ≤ sizeLine) (hn : Nat.ble n₀ s.heap.objs.size = true) :
    Ex (TC p w n₀ ann bb ee q0) (subDict (c.map (pr pos))) s pos (2 + 13 * c.length) s.heap.objs.size { s with heap := s.heap.push (dictO (ents s.toks c) c.length), toks := s.toks + 3 * c.length } pos := by
  unfold subDict
  refine (Ex.bind (n := 1) (m := 1 + 13 * c.length) Ex.alloc ?_).cast (by omega)
  refine Ex.bind (n := 1 + 13 * c.length) (m := 0) (a := ()) (s₁ := { s with heap := s.heap.push (dictO (ents s.toks c) c.length), toks := s.toks + 3 * c.length }) (q₁ := pos) (Ex.holding ?_) Ex.pure
  rw [if_neg (by rw [List.length_map]; exact hl)]
  refine Ex.bind (n := 1) (m := 13 * c.length) Ex.rule ?_
  refine Ex.bind (n := 13 * c.length) (m := 0) (a := PUnit.unit) ?_ Ex.pure
  have h := ex_fill (p := p) (w := w) (ann := ann) (bb := bb) (ee := ee) (q0 := q0) (pos := pos) c [] 0 { s with heap := s.heap.push (dictO [] 0) } push_get (fun _ _ e he => nomatch he) ha (by rw [List.length_nil]; omega) hn
  dsimp only at h
  rw [hset_push, Nat.zero_add, List.nil_append] at h
  exact h

def vals : Nat → List (Int × Str) → List (Value × Value)
  | _, [] => []
  | T, x :: r => (.int x.1 T, .str x.2 (T + 1)) :: vals (T + 2) r
def ents2 : Nat → List (Int × Str) → List DictEntry
  | _, [] => []
  | T, x :: r => ⟨hashInt x.1, .int x.1 T, .str x.2 (T + 1)⟩ :: ents2 (T + 2) r
theorem ents2_length : ∀ {T : Nat} {c : List (Int × Str)}, (ents2 T c).length = c.length
  | _, [] => rfl
  | T, _ :: r => by rw [ents2, List.length_cons, List.length_cons, ents2_length]

theorem ex_pairs {C : Cfg} {pos : Pos} : ∀ (c : List (Int × Str)) (s : Shared), Ex C (evalPairs (c.map (pr pos))) s pos (3 * c.length) (vals s.toks c) { s with toks := s.toks + 2 * c.length } pos
  | [], s => Ex.pure
  | x :: r, s => by
    rw [List.map_cons]
    show Ex C (evalPairs ((mkInt x.1, do let v ← mkText x.2; standAt pos; Pure.pure v) :: r.map (pr pos))) _ _ _ _ _ _
    unfold evalPairs
    refine (Ex.bind (n := 1) (m := 2 + 3 * r.length) Ex.mkInt ?_).cast (by rw [List.length_cons]; omega)
    refine Ex.bind (n := 2) (m := 3 * r.length) (a := .str x.2 (s.toks + 1)) (s₁ := { s with toks := s.toks + 2 }) (q₁ := pos) (Ex.holding (Ex.bind (n := 1) (m := 1) Ex.mkText (Ex.bind (n := 1) (m := 0) Ex.standAt Ex.pure))) ?_
    have ih := ex_pairs (C := C) (pos := pos) r { s with toks := s.toks + 2 }
    dsimp only at ih
    rw [show s.toks + 2 + 2 * r.length = s.toks + 2 * (x :: r).length by rw [List.length_cons]; omega] at ih
    exact Ex.bind (n := 3 * r.length) (m := 0) (Ex.holding ih) Ex.pure

theorem ex_fill2 {pos : Pos} : ∀ (c : List (Int × Str)) (T : Nat) (es : List DictEntry) (n : Nat) (s : Shared), s.heap.get? d = some (dictO es n) → (∀ x ∈ c, ∀ e ∈ es, e.hash ≠ hashInt x.1) → Apart c → es.length + c.length ≤ sizeLine → Nat.ble n₀ d = true →
    Ex (TC p w n₀ ann bb ee q0) (forIn (vals T c) PUnit.unit fun (x : Value × Value) (_ : PUnit) => (match x with
      | (k, v) => do
        dictSet d k v
        pure (ForInStep.yield PUnit.unit) : Sem (ForInStep PUnit))) s pos (10 * c.length) PUnit.unit { s with heap := hset s.heap d (dictO (es ++ ents2 T c) (n + c.length)), toks := s.toks + c.length } pos
  | [], T, es, n, s, ho, _, _, _, _ => by
    have h0 := ex_fill (p := p) (w := w) (n₀ := n₀) (ann := ann) (bb := bb) (ee := ee) (q0 := q0) (pos := pos) [] es n s ho (fun _ h => nomatch h) .nil (by simp; omega) (by assumption)
    exact h0
  | x :: r, T, es, n, s, ho, hno, ha, hsz, hn => by
    rw [List.length_cons] at hsz
    show Ex _ (forIn ((Value.int x.1 T, Value.str x.2 (T + 1)) :: vals (T + 2) r) _ _) _ _ _ _ _ _
    rw [List.forIn_cons]
    refine (Ex.bind (n := 10) (m := 10 * r.length) (a := ForInStep.yield PUnit.unit) (q₁ := pos) (s₁ := { s with heap := hset s.heap d (dictO (es ++ [⟨hashInt x.1, .int x.1 T, .str x.2 (T + 1)⟩]) (n + 1)), toks := s.toks + 1 }) ?_ ?_).cast (by rw [List.length_cons]; omega)
    · exact Ex.bind (n := 10) (m := 0) (ex_set ho (hno x (.head _)) (by omega) hn) Ex.pure
    · have ih := ex_fill2 (pos := pos) r (T + 2) (es ++ [⟨hashInt x.1, .int x.1 T, .str x.2 (T + 1)⟩]) (n + 1) { s with heap := hset s.heap d (dictO (es ++ [⟨hashInt x.1, .int x.1 T, .str x.2 (T + 1)⟩]) (n + 1)), toks := s.toks + 1 }
        (hset_get (lt_of_get ho)) (fun y hy e he => by
          rcases List.mem_append.mp he with h | h
          · exact hno y (.tail _ hy) e h
          · obtain rfl := List.mem_singleton.mp h
            exact (List.pairwise_cons.mp ha).1 y hy) (List.pairwise_cons.mp ha).2 (by rw [List.length_append, List.length_singleton]; omega) hn
      have e1 : hset (hset s.heap d (dictO (es ++ [⟨hashInt x.1, .int x.1 T, .str x.2 (T + 1)⟩]) (n + 1))) d (dictO ((es ++ [⟨hashInt x.1, .int x.1 T, .str x.2 (T + 1)⟩]) ++ ents2 (T + 2) r) (n + 1 + r.length)) =
          hset s.heap d (dictO (es ++ ents2 T (x :: r)) (n + (x :: r).length)) := by
        rw [hset_hset, List.append_assoc, List.length_cons, show n + 1 + r.length = n + (r.length + 1) by omega]; rfl
      have e2 : s.toks + 1 + r.length = s.toks + (x :: r).length := by rw [List.length_cons]; omega
      rw [← e1, ← e2]
      exact ih

theorem ex_subShort {pos : Pos} {c : List (Int × Str)} {s : Shared} (hl : c.length ≤ 15) (ha : Apart c) (hsz : c.length ≤ sizeLine) (hn : Nat.ble n₀ s.heap.objs.size = true) :
    Ex (TC p w n₀ ann bb ee q0) (subDict (c.map (pr pos))) s pos (1 + 13 * c.length) s.heap.objs.size { s with heap := s.heap.push (dictO (ents2 s.toks c) c.length), toks := s.toks + 3 * c.length } pos := by
  unfold subDict
  refine Ex.bind (n := 1) (m := 13 * c.length) Ex.alloc ?_
  refine Ex.bind (n := 13 * c.length) (m := 0) (a := ()) (s₁ := { s with heap := s.heap.push (dictO (ents2 s.toks c) c.length), toks := s.toks + 3 * c.length }) (q₁ := pos) (Ex.holding ?_) Ex.pure
  rw [if_pos (by rw [List.length_map]; exact hl)]
  refine (Ex.bind (n := 3 * c.length) (m := 10 * c.length) (ex_pairs c _) ?_).cast (by omega)
  refine Ex.holding ?_
  refine Ex.bind (n := 10 * c.length) (m := 0) (a := PUnit.unit) ?_ Ex.pure
  have h := ex_fill2 (p := p) (w := w) (ann := ann) (bb := bb) (ee := ee) (q0 := q0) (pos := pos) c s.toks [] 0 { s with heap := s.heap.push (dictO [] 0), toks := s.toks + 2 * c.length } push_get (fun _ _ e he => nomatch he) ha (by rw [List.length_nil]; omega) hn
  dsimp only at h
  rw [hset_push, Nat.zero_add, List.nil_append, show s.toks + 2 * c.length + c.length = s.toks + 3 * c.length by omega] at h
  exact h
end
end PartA4
end Mine

namespace Mine
section PartA5
theorem sub_dict : isSubtype (.type "dict") (.type "dict") = pure true := by kernel_rfl
theorem look_iter : typeLookup (.type "dict") "__iter__" = pure (some (.builtin "dict.__iter__")) := by kernel_rfl

theorem hset_other {h : Heap} {a b : Addr} {o : Obj} (ne : a ≠ b) : (hset h a o).get? b = h.get? b := by
  unfold Heap.get? hset
  dsimp only
  rw [Array.getElem?_setIfInBounds, if_neg ne]

section
variable {C : Cfg} {pos : Pos} {d a : Addr}
theorem ex_mergeLoop {es' : List DictEntry} {n' : Nat} (hda : d ≠ a) (hn : Nat.ble C.n₀ d = true) : ∀ (todo done es : List DictEntry) (n : Nat) (s : Shared), es' = done ++ todo → s.heap.get? d = some (dictO es n) → s.heap.get? a = some (dictO es' n') →
    (∀ e' ∈ todo, ∀ e ∈ es, e.hash ≠ e'.hash) → todo.Pairwise (fun x y => x.hash ≠ y.hash) → (∀ e ∈ todo, ∃ i t, e.key = .int i t) → es.length + todo.length ≤ sizeLine →
    Ex C (forIn (List.range' done.length todo.length) PUnit.unit fun (i : Nat) (_ : PUnit) => (do
        let es ← dictEntries a
        match es[i]? with
          | some e => do
            holding [e.key, e.val]
                (if false = true then do
                  let r ← dictFind d e.key e.hash
                  if r.isSome = true then do
                      rule "dict.merge.duplicate-key"
                      let x ← newExc (Value.type "KeyError") [e.key]
                      raiseNew x
                      dictPut d e.hash e.key e.val
                    else dictPut d e.hash e.key e.val
                else dictPut d e.hash e.key e.val)
            let r ← dictEpoch a
            if (r != n') = true then do
                unsupported "dict.changed-during-merge"
                pure (ForInStep.yield PUnit.unit)
              else pure (ForInStep.yield PUnit.unit)
          | _ => do
            unsupported "dict.changed-during-merge"
            pure (ForInStep.yield PUnit.unit) : Sem (ForInStep PUnit))) s pos (6 * todo.length) PUnit.unit { s with heap := hset s.heap d (dictO (es ++ todo) (n + todo.length)) } pos
  | [], done, es, n, s, _, ho, _, _, _, _, hsz => by
    have : hset s.heap d (dictO (es ++ []) (n + 0)) = s.heap := by
      rw [List.append_nil]
      show Heap.mk _ _ = _
      have e' := objs_of_get ho
      obtain ⟨⟨objs, life⟩, _, _, _, _⟩ := s
      refine congrArg (Heap.mk · life) ?_
      apply Array.ext_getElem?
      intro i
      rw [Array.getElem?_setIfInBounds]
      by_cases q : d = i
      · subst q
        rw [if_pos rfl]
        have e'' : objs[d]? = some (dictO es n) := e'
        have lt := lt_of_get ho
        rw [if_pos lt, e'']; rfl
      · rw [if_neg q]
    show Ex _ _ _ _ _ _ ⟨hset s.heap d (dictO (es ++ []) (n + 0)), _, _, _, _⟩ _
    rw [this]
    exact Ex.pure
  | e :: todo, done, es, n, s, he, ho, ha, hno, hap, hk, hsz => by
    rw [List.length_cons] at hsz
    rw [List.length_cons, List.range'_succ, List.forIn_cons]
    refine (Ex.bind (n := 6) (m := 6 * todo.length) (a := ForInStep.yield PUnit.unit) (q₁ := pos) (s₁ := { s with heap := hset s.heap d (dictO (es ++ [e]) (n + 1)) }) ?_ ?_).cast (by omega)
    · refine Ex.bind (n := 1) (m := 5) (ex_entries ha) ?_
      have hi : es'.toArray[done.length]? = some e := by
        rw [List.getElem?_toArray, he, List.getElem?_append_right (Nat.le_refl _), Nat.sub_self]; rfl
      rw [hi]
      dsimp only
      rw [if_neg Bool.false_ne_true]
      obtain ⟨i, t, hkey⟩ := hk e (.head _)
      obtain ⟨eh, ek, ev⟩ := e
      dsimp only at hkey
      subst hkey
      refine Ex.bind (n := 4) (m := 1) (Ex.holding (ex_put ho (hno _ (.head _)) (by omega) hn)) ?_
      refine Ex.bind (n := 1) (m := 0) (ex_epoch (n := n') (es := es') ((hset_other hda).trans ha)) ?_
      rw [if_neg (by simp)]
      exact Ex.pure
    · have ih := ex_mergeLoop hda hn todo (done ++ [e]) (es ++ [e]) (n + 1) { s with heap := hset s.heap d (dictO (es ++ [e]) (n + 1)) } (by rw [he, List.append_assoc]; rfl) (hset_get (lt_of_get ho)) ((hset_other hda).trans ha)
        (fun y hy x hx => by
          rcases List.mem_append.mp hx with h | h
          · exact hno y (.tail _ hy) x h
          · obtain rfl := List.mem_singleton.mp h
            exact (List.pairwise_cons.mp hap).1 y hy) (List.pairwise_cons.mp hap).2 (fun x hx => hk x (.tail _ hx)) (by rw [List.length_append, List.length_singleton]; omega)
      dsimp only at ih
      rw [hset_hset, List.append_assoc, List.length_append, List.length_singleton, show n + 1 + todo.length = n + (todo.length + 1) by omega] at ih
      exact ih

theorem ex_merge {es es' : List DictEntry} {n n' : Nat} {s : Shared} (hda : d ≠ a) (hn : Nat.ble C.n₀ d = true) (h1 : (a == sysModules) = false) (ho : s.heap.get? d = some (dictO es n)) (ha : s.heap.get? a = some (dictO es' n')) (hne : es ≠ [])
    (hno : ∀ e' ∈ es', ∀ e ∈ es, e.hash ≠ e'.hash) (hap : es'.Pairwise (fun x y => x.hash ≠ y.hash)) (hk : ∀ e ∈ es', ∃ i t, e.key = .int i t) (hsz : es.length + es'.length ≤ sizeLine) :
    Ex C (mergeMapping d (.ref a) false) s pos (5 + 6 * es'.length) () { s with heap := hset s.heap d (dictO (es ++ es') (n + es'.length)) } pos := by
  unfold mergeMapping
  refine (Ex.bind (n := 1) (m := 4 + 6 * es'.length) (a := true) (s₁ := s) (q₁ := pos) ?_ ?_).cast (by omega)
  · unfold isInstance
    refine Ex.bind (n := 1) (m := 0) (a := .type "dict") (s₁ := s) (q₁ := pos) (Ex.bind (n := 1) (m := 0) (Ex.loadPart ha) Ex.pure) ?_
    rw [sub_dict]; exact Ex.pure
  rw [if_pos rfl]
  refine (Ex.bind (n := 1) (m := 3 + 6 * es'.length) (a := some (.builtin "dict.__iter__")) (s₁ := s) (q₁ := pos) ?_ ?_).cast (by omega)
  · unfold specialOf
    refine Ex.bind (n := 1) (m := 0) (a := .type "dict") (s₁ := s) (q₁ := pos) (Ex.bind (n := 1) (m := 0) (Ex.loadPart ha) Ex.pure) ?_
    show Ex _ (typeLookup _ _) _ _ _ _ _ _
    rw [look_iter]; exact Ex.pure
  refine (Ex.bind (n := 0) (m := 3 + 6 * es'.length) (a := true) (s₁ := s) (q₁ := pos) ?_ ?_).cast (by omega)
  · rw [show (some (Value.builtin "dict.__iter__") == some (Value.builtin "dict.__iter__")) = true from by decide]; exact Ex.pure
  dsimp only
  rw [if_neg (by rw [h1]; exact Bool.false_ne_true)]
  refine (Ex.bind (n := 1) (m := 2 + 6 * es'.length) (ex_entries ho) ?_).cast (by omega)
  rw [if_neg (by rw [Array.isEmpty_iff_size_eq_zero, List.size_toArray, List.length_eq_zero_iff]; exact hne)]
  refine (Ex.bind (n := 1) (m := 1 + 6 * es'.length) (ex_entries ha) ?_).cast (by omega)
  refine (Ex.bind (n := 1) (m := 6 * es'.length) (ex_epoch ha) ?_).cast (by omega)
  refine Ex.bind (n := 6 * es'.length) (m := 0) (a := PUnit.unit) (s₁ := { s with heap := hset s.heap d (dictO (es ++ es') (n + es'.length)) }) (q₁ := pos) ?_ Ex.pure
  rw [List.size_toArray, List.range_eq_range']
  exact ex_mergeLoop hda hn es' [] es n s rfl ho ha hno hap hk hsz
end
end PartA5
end Mine

namespace Mine
section PartA6
abbrev Pr := Sem Value × Sem Value
def it (x : Pr) : Option (Sem Value) × Sem Value := (some x.1, x.2)
def flushT (run : List Pr) (main : Option Addr) : Sem (Option Addr) :=
  if run.isEmpty = true then pure main
  else
    match main with
    | none => do
      let r ← subDict run
      pure (some r)
    | some d => do
      let sub ← holding [Value.ref d] (subDict run)
      (holding [Value.ref d, Value.ref sub] (mergeMapping d (Value.ref sub) false)).onRaise fun x => do
          let _ ← holding [Value.ref d, x] (runValue (Code.builtin "proto.let_go" {}))
          pure ()
      pure (some d)

abbrev Body := Option (Sem Value) × Sem Value → Option Addr × List Pr → Sem (ForInStep (Option Addr × List Pr))
def GoodBody (body : Body) : Prop := ∀ (x : Pr) (main : Option Addr) (run : List Pr), body (it x) (main, run) =
  if ((run ++ [(x.1, x.2)]).length == 17) = true then (do
    let m ← flushT (run ++ [(x.1, x.2)]) main
    pure (ForInStep.yield (m, [])))
  else pure (ForInStep.yield (main, run ++ [(x.1, x.2)]))

theorem forIn_chunk {body : Body} (hb : GoodBody body) (rest : List (Option (Sem Value) × Sem Value)) (main : Option Addr) : ∀ (c run : List Pr), run.length + c.length = 17 → c ≠ [] →
    forIn (c.map it ++ rest) (main, run) body = (do let m ← flushT (run ++ c) main; forIn rest (m, []) body)
  | [], _, _, h => absurd rfl h
  | [x], run, h, _ => by
    rw [List.map_cons, List.map_nil, List.cons_append, List.nil_append, List.forIn_cons, hb]
    rw [if_pos (by rw [List.length_append, List.length_singleton]; rw [List.length_singleton] at h; rw [h]; rfl)]
    show (do let r ← (do let m ← flushT (run ++ [x]) main; pure (ForInStep.yield (m, []))); _) = _
    simp only [bind_assoc, pure_bind]
  | x :: y :: c, run, h, _ => by
    rw [List.map_cons, List.cons_append, List.forIn_cons, hb]
    rw [if_neg (by
      rw [List.length_cons, List.length_cons] at h
      rw [List.length_append, List.length_singleton]
      have : (run.length + 1 == 17) = false := beq_eq_false_iff_ne.mpr (by omega)
      rw [this]; exact Bool.false_ne_true), pure_bind]
    have ih := forIn_chunk hb rest main (y :: c) (run ++ [(x.1, x.2)]) (by rw [List.length_append, List.length_singleton]; rw [List.length_cons] at h; omega) (by simp)
    show forIn ((y :: c).map it ++ rest) (main, run ++ [(x.1, x.2)]) body = _
    rw [ih, List.append_assoc]; rfl

theorem forIn_tail {body : Body} (hb : GoodBody body) (main : Option Addr) : ∀ (c run : List Pr), run.length + c.length < 17 → forIn (c.map it) (main, run) body = pure (main, run ++ c)
  | [], run, _ => by rw [List.map_nil, List.forIn_nil, List.append_nil]
  | x :: c, run, h => by
    rw [List.map_cons, List.forIn_cons, hb]
    rw [if_neg (by
      rw [List.length_cons] at h
      rw [List.length_append, List.length_singleton]
      have : (run.length + 1 == 17) = false := beq_eq_false_iff_ne.mpr (by omega)
      rw [this]; exact Bool.false_ne_true), pure_bind]
    have ih := forIn_tail hb main c (run ++ [(x.1, x.2)]) (by rw [List.length_append, List.length_singleton]; rw [List.length_cons] at h; omega)
    show forIn (c.map it) (main, run ++ [(x.1, x.2)]) body = _
    rw [ih, List.append_assoc]; rfl

/-- the display, chunk by chunk -/
def chunks : List (List Pr) → Option Addr → Sem (Option Addr)
  | [], m => pure m
  | c :: cs, m => do
    let m' ← flushT c m
    chunks cs m'

theorem forIn_chunks {body : Body} (hb : GoodBody body) (last : List Pr) (hl : last.length < 17) : ∀ (cs : List (List Pr)) (main : Option Addr), (∀ c ∈ cs, c.length = 17) →
    forIn (cs.flatten.map it ++ last.map it) (main, []) body = (do let m ← chunks cs main; pure (m, last))
  | [], main, _ => by
    rw [List.flatten_nil, List.map_nil, List.nil_append, forIn_tail hb main last [] (by simpa using hl)]
    show _ = (do let m ← pure main; pure (m, last))
    rw [pure_bind]; rfl
  | c :: cs, main, h => by
    rw [List.flatten_cons, List.map_append, List.append_assoc, forIn_chunk hb _ main c [] (by simpa using h c (.head _)) (by have := h c (.head _); intro e; rw [e] at this; cases this)]
    show _ = (do let m ← (do let m' ← flushT c main; chunks cs m'); pure (m, last))
    rw [bind_assoc]
    refine congrArg _ (funext fun m => ?_)
    exact forIn_chunks hb last hl cs m (fun x hx => h x (.tail _ hx))

theorem display_chunks (cs : List (List Pr)) (last : List Pr) (h : ∀ c ∈ cs, c.length = 17) (hl : last.length < 17) :
    dictDisplay (cs.flatten.map it ++ last.map it) = (do
      let m ← chunks cs none
      match ← flushT last m with
      | some d => pure (.ref d)
      | none => newDict) := by
  unfold dictDisplay
  dsimp only
  rw [forIn_chunks (fun x main run => by rfl) last hl cs none h, bind_assoc]
  simp only [pure_bind]
  rfl
end PartA6
end Mine

namespace Mine
section PartA7
theorem ents_mem : ∀ {T : Nat} {c : List (Int × Str)} {e : DictEntry}, e ∈ ents T c → ∃ x ∈ c, e.hash = hashInt x.1 ∧ ∃ t, e.key = .int x.1 t
  | T, x :: r, e, h => by
    rw [ents] at h
    rcases List.mem_cons.mp h with rfl | h
    · exact ⟨x, .head _, rfl, T, rfl⟩
    · obtain ⟨y, hy, r⟩ := ents_mem h
      exact ⟨y, .tail _ hy, r⟩
theorem ents2_mem : ∀ {T : Nat} {c : List (Int × Str)} {e : DictEntry}, e ∈ ents2 T c → ∃ x ∈ c, e.hash = hashInt x.1 ∧ ∃ t, e.key = .int x.1 t
  | T, x :: r, e, h => by
    rw [ents2] at h
    rcases List.mem_cons.mp h with rfl | h
    · exact ⟨x, .head _, rfl, T, rfl⟩
    · obtain ⟨y, hy, r⟩ := ents2_mem h
      exact ⟨y, .tail _ hy, r⟩
theorem ents_apart : ∀ {T : Nat} {c : List (Int × Str)}, Apart c → (ents T c).Pairwise fun x y => x.hash ≠ y.hash
  | _, [], _ => .nil
  | T, x :: r, h => by
    rw [ents]
    refine List.pairwise_cons.mpr ⟨fun e he => ?_, ents_apart (List.pairwise_cons.mp h).2⟩
    obtain ⟨y, hy, e1, _⟩ := ents_mem he
    rw [e1]
    exact (List.pairwise_cons.mp h).1 y hy
theorem ents2_apart : ∀ {T : Nat} {c : List (Int × Str)}, Apart c → (ents2 T c).Pairwise fun x y => x.hash ≠ y.hash
  | _, [], _ => .nil
  | T, x :: r, h => by
    rw [ents2]
    refine List.pairwise_cons.mpr ⟨fun e he => ?_, ents2_apart (List.pairwise_cons.mp h).2⟩
    obtain ⟨y, hy, e1, _⟩ := ents2_mem he
    rw [e1]
    exact (List.pairwise_cons.mp h).1 y hy
theorem ents_append : ∀ {T : Nat} {c r : List (Int × Str)}, ents T (c ++ r) = ents T c ++ ents (T + 3 * c.length) r
  | T, [], r => rfl
  | T, x :: c, r => by
    rw [List.cons_append, ents, ents, ents_append, List.cons_append, List.length_cons, show T + 3 + 3 * c.length = T + 3 * (c.length + 1) by omega]

section
variable {p : Program} {w : World} {n₀ : Nat} {ann : Option Value} {bb : List Stmt} {ee : Env} {q0 : Pos} {pos : Pos} {h₀ : Heap}

theorem ex_join {es es' : List DictEntry} {n n' k : Nat} {subs : List Obj} {s : Shared} {c : List Pr} {T' : Nat} (hc : c ≠ []) (hn : Nat.ble n₀ h₀.objs.size = true) (hsys : sysModules < h₀.objs.size) (hs : s.heap = pushAll h₀ (dictO es n :: subs))
    (hsub : Ex (TC p w n₀ ann bb ee q0) (subDict c) s pos k s.heap.objs.size { s with heap := s.heap.push (dictO es' n'), toks := T' } pos)
    (hne : es ≠ []) (hno : ∀ e' ∈ es', ∀ e ∈ es, e.hash ≠ e'.hash) (hap : es'.Pairwise (fun x y => x.hash ≠ y.hash)) (hk : ∀ e ∈ es', ∃ i t, e.key = .int i t) (hsz : es.length + es'.length ≤ sizeLine) :
    Ex (TC p w n₀ ann bb ee q0) (flushT c (some h₀.objs.size)) s pos (k + (5 + 6 * es'.length)) (some h₀.objs.size)
      { s with heap := pushAll h₀ (dictO (es ++ es') (n + es'.length) :: (subs ++ [dictO es' n'])), toks := T' } pos := by
  unfold flushT
  rw [if_neg (by rw [List.isEmpty_iff]; exact hc)]
  dsimp only
  have hsize : s.heap.objs.size = h₀.objs.size + (subs.length + 1) := by rw [hs, pushAll_size, List.length_cons]
  refine Ex.bind (n := k) (m := 5 + 6 * es'.length) (Ex.holding hsub) ?_
  have hh : s.heap.push (dictO es' n') = pushAll h₀ (dictO es n :: (subs ++ [dictO es' n'])) := by rw [hs, pushAll_push]; rfl
  have hm := ex_merge (C := TC p w n₀ ann bb ee q0) (pos := pos) (d := h₀.objs.size) (a := s.heap.objs.size) (es := es) (es' := es') (n := n) (n' := n') (s := { s with heap := s.heap.push (dictO es' n'), toks := T' })
    (Nat.ne_of_lt (by rw [hsize]; omega)) hn (beq_eq_false_iff_ne.mpr (Nat.ne_of_gt (by rw [hsize]; exact Nat.lt_of_lt_of_le hsys (Nat.le_add_right _ _)))) (by show (s.heap.push (dictO es' n')).get? _ = _; rw [hh]; exact pushAll_main) (by show (s.heap.push (dictO es' n')).get? _ = _; rw [hh, hsize]; exact pushAll_last)
    hne hno hap hk hsz
  dsimp only at hm
  rw [hh, pushAll_hset] at hm
  exact Ex.bind (n := 5 + 6 * es'.length) (m := 0) (by rw [hh]; exact Ex.onRaise (Ex.holding hm)) Ex.pure

def subsOf : Nat → List (List (Int × Str)) → List Obj
  | _, [] => []
  | T, c :: cs => dictO (ents T c) 17 :: subsOf (T + 51) cs

theorem ex_chunks (hn : Nat.ble n₀ h₀.objs.size = true) (hsys : sysModules < h₀.objs.size) : ∀ (cs : List (List (Int × Str))) (es : List DictEntry) (n : Nat) (subs : List Obj) (s : Shared),
    (∀ c ∈ cs, c.length = 17) → (∀ x ∈ cs.flatten, ∀ e ∈ es, e.hash ≠ hashInt x.1) → Apart cs.flatten → es ≠ [] → es.length + cs.flatten.length ≤ sizeLine → s.heap = pushAll h₀ (dictO es n :: subs) →
    Ex (TC p w n₀ ann bb ee q0) (chunks (cs.map (·.map (pr pos))) (some h₀.objs.size)) s pos (330 * cs.length) (some h₀.objs.size)
      { s with heap := pushAll h₀ (dictO (es ++ ents s.toks cs.flatten) (n + 17 * cs.length) :: (subs ++ subsOf s.toks cs)), toks := s.toks + 51 * cs.length } pos
  | [], es, n, subs, s, _, _, _, _, _, hs => by
    have : ({ s with heap := pushAll h₀ (dictO (es ++ ents s.toks ([] : List (List (Int × Str))).flatten) (n + 17 * 0) :: (subs ++ subsOf s.toks [])), toks := s.toks + 51 * 0 } : Shared) = s := by
      rw [List.flatten_nil, ents, subsOf, List.append_nil, List.append_nil, Nat.mul_zero, Nat.add_zero, Nat.add_zero, ← hs]
    rw [List.length_nil, this]
    exact Ex.pure
  | c :: cs, es, n, subs, s, hc, hno, hap, hne, hsz, hs => by
    rw [List.flatten_cons] at hno hap hsz
    have hc17 := hc c (.head _)
    obtain ⟨ap1, ap2, ap3⟩ := List.pairwise_append.mp hap
    rw [List.length_append] at hsz
    have hsub := ex_subLong (p := p) (w := w) (n₀ := n₀) (ann := ann) (bb := bb) (ee := ee) (q0 := q0) (pos := pos) (c := c) (s := s) (by omega) ap1 (by omega)
      (by rw [hs, pushAll_size]; exact Nat.ble_eq_true_of_le (Nat.le_trans (Nat.le_of_ble_eq_true hn) (Nat.le_add_right _ _)))
    have hj := ex_join (h₀ := h₀) (es := es) (subs := subs) (n := n) (by intro e; rw [List.map_eq_nil_iff] at e; rw [e] at hc17; cases hc17) hn hsys hs hsub hne
      (fun e' he' e he => by
        obtain ⟨x, hx, e1, _⟩ := ents_mem he'
        rw [e1]
        exact hno x (List.mem_append_left _ hx) e he) (ents_apart ap1) (fun e he => by obtain ⟨x, _, _, t, ht⟩ := ents_mem he; exact ⟨x.1, t, ht⟩) (by rw [ents_length]; omega)
    rw [ents_length, hc17] at hj
    show Ex _ (flushT (c.map (pr pos)) (some h₀.objs.size) >>= fun m' => chunks (cs.map (·.map (pr pos))) m') _ _ _ _ _ _
    have ih := ex_chunks hn hsys cs (es ++ ents s.toks c) (n + 17) (subs ++ [dictO (ents s.toks c) 17])
      { s with heap := pushAll h₀ (dictO (es ++ ents s.toks c) (n + 17) :: (subs ++ [dictO (ents s.toks c) 17])), toks := s.toks + 51 } (fun x hx => hc x (.tail _ hx))
      (fun x hx e he => by
        rcases List.mem_append.mp he with h | h
        · exact hno x (List.mem_append_right _ hx) e h
        · obtain ⟨y, hy, e1, _⟩ := ents_mem h
          rw [e1]
          exact ap3 y hy x hx) ap2 (by intro e; rw [List.append_eq_nil_iff] at e; exact hne e.1) (by rw [List.length_append, ents_length]; omega) rfl
    dsimp only at ih
    have e1 : (es ++ ents s.toks c) ++ ents (s.toks + 51) cs.flatten = es ++ ents s.toks (c :: cs).flatten := by
      rw [List.flatten_cons, ents_append, hc17, List.append_assoc]
    have e2 : n + 17 + 17 * cs.length = n + 17 * (c :: cs).length := by rw [List.length_cons]; omega
    have e3 : (subs ++ [dictO (ents s.toks c) 17]) ++ subsOf (s.toks + 51) cs = subs ++ subsOf s.toks (c :: cs) := by rw [List.append_assoc]; rfl
    have e4 : s.toks + 51 + 51 * cs.length = s.toks + 51 * (c :: cs).length := by rw [List.length_cons]; omega
    rw [e1, e2, e3, e4] at ih
    exact (Ex.bind (n := 330) (m := 330 * cs.length) hj ih).cast (by rw [List.length_cons]; omega)

/-- the whole display -/
theorem ex_display {s : Shared} (c : List (Int × Str)) (cs : List (List (Int × Str))) (last : List (Int × Str)) (hn : Nat.ble n₀ s.heap.objs.size = true) (hsys : sysModules < s.heap.objs.size)
    (hc : ∀ x ∈ c :: cs, x.length = 17) (hl : last.length ≤ 15) (hl0 : last ≠ []) (hap : Apart ((c :: cs).flatten ++ last)) (hsz : (c :: cs).flatten.length + last.length ≤ sizeLine) :
    Ex (TC p w n₀ ann bb ee q0) (dictDisplay ((((c :: cs).flatten ++ last).map (pr pos)).map it)) s pos (223 + (330 * cs.length + (1 + 13 * last.length + (5 + 6 * last.length)))) (.ref s.heap.objs.size)
      { s with heap := pushAll s.heap (dictO (ents s.toks (c :: cs).flatten ++ ents2 (s.toks + 51 + 51 * cs.length) last) (17 + 17 * cs.length + last.length) ::
          (subsOf (s.toks + 51) cs ++ [dictO (ents2 (s.toks + 51 + 51 * cs.length) last) last.length])), toks := s.toks + 51 + 51 * cs.length + 3 * last.length } pos := by
  have hsplit : (((c :: cs).flatten ++ last).map (pr pos)).map it = ((c :: cs).map (·.map (pr pos))).flatten.map it ++ (last.map (pr pos)).map it := by
    rw [List.map_append, List.map_append, List.map_flatten]
  rw [hsplit, display_chunks _ _ (by
    intro x hx
    obtain ⟨y, hy, rfl⟩ := List.mem_map.mp hx
    rw [List.length_map]
    exact hc y hy) (by rw [List.length_map]; omega)]
  have hc17 := hc c (.head _)
  obtain ⟨ap1, ap2, ap3⟩ := List.pairwise_append.mp hap
  rw [List.flatten_cons] at ap1 ap3 hsz
  obtain ⟨ap4, ap5, ap6⟩ := List.pairwise_append.mp ap1
  rw [List.length_append] at hsz
  refine (Ex.bind (n := 223 + 330 * cs.length) (m := 1 + 13 * last.length + (5 + 6 * last.length)) (a := some s.heap.objs.size) (q₁ := pos)
    (s₁ := { s with heap := pushAll s.heap (dictO (ents s.toks (c :: cs).flatten) (17 + 17 * cs.length) :: subsOf (s.toks + 51) cs), toks := s.toks + 51 + 51 * cs.length }) ?_ ?_).cast (by omega)
  · show Ex _ (flushT (c.map (pr pos)) none >>= fun m' => chunks (cs.map (·.map (pr pos))) m') _ _ _ _ _ _
    have h1 := ex_subLong (p := p) (w := w) (n₀ := n₀) (ann := ann) (bb := bb) (ee := ee) (q0 := q0) (pos := pos) (c := c) (s := s) (by omega) ap4 (by omega) hn
    rw [hc17] at h1
    have h2 : Ex (TC p w n₀ ann bb ee q0) (flushT (c.map (pr pos)) none) s pos 223 (some s.heap.objs.size) { s with heap := s.heap.push (dictO (ents s.toks c) 17), toks := s.toks + 51 } pos := by
      unfold flushT
      rw [if_neg (by rw [List.isEmpty_iff, List.map_eq_nil_iff]; intro e; rw [e] at hc17; cases hc17)]
      exact Ex.bind (n := 223) (m := 0) h1 Ex.pure
    have h3 := ex_chunks (p := p) (w := w) (ann := ann) (bb := bb) (ee := ee) (q0 := q0) (pos := pos) hn hsys cs (ents s.toks c) 17 [] { s with heap := s.heap.push (dictO (ents s.toks c) 17), toks := s.toks + 51 } (fun x hx => hc x (.tail _ hx))
      (fun x hx e he => by
        obtain ⟨y, hy, e1, _⟩ := ents_mem he
        rw [e1]
        exact ap6 y hy x hx) ap5 (by intro e; have := congrArg List.length e; rw [ents_length, hc17] at this; cases this) (by rw [ents_length]; omega) push_one
    dsimp only at h3
    have e1 : ents s.toks c ++ ents (s.toks + 51) cs.flatten = ents s.toks (c :: cs).flatten := by rw [List.flatten_cons, ents_append, hc17]
    rw [e1, List.nil_append] at h3
    exact Ex.bind (n := 223) (m := 330 * cs.length) h2 h3
  · have h1 := ex_subShort (p := p) (w := w) (n₀ := n₀) (ann := ann) (bb := bb) (ee := ee) (q0 := q0) (pos := pos) (c := last)
      (s := { s with heap := pushAll s.heap (dictO (ents s.toks (c :: cs).flatten) (17 + 17 * cs.length) :: subsOf (s.toks + 51) cs), toks := s.toks + 51 + 51 * cs.length }) hl ap2 (by omega)
      (by rw [pushAll_size]; exact Nat.ble_eq_true_of_le (Nat.le_trans (Nat.le_of_ble_eq_true hn) (Nat.le_add_right _ _)))
    have h2 := ex_join (h₀ := s.heap) (n := 17 + 17 * cs.length) (subs := subsOf (s.toks + 51) cs) (es := ents s.toks (c :: cs).flatten) (by intro e; rw [List.map_eq_nil_iff] at e; exact hl0 e) hn hsys rfl h1
      (by intro e; have := congrArg List.length e; rw [ents_length, List.flatten_cons, List.length_append, hc17] at this; simp at this)
      (fun e' he' e he => by
        obtain ⟨x, hx, e1, _⟩ := ents2_mem he'
        obtain ⟨y, hy, e2, _⟩ := ents_mem he
        rw [e1, e2]
        exact ap3 y hy x hx) (ents2_apart ap2) (fun e he => by obtain ⟨x, _, _, t, ht⟩ := ents2_mem he; exact ⟨x.1, t, ht⟩) (by rw [ents_length, ents2_length, List.flatten_cons, List.length_append]; omega)
    rw [ents2_length] at h2
    exact Ex.bind (n := 1 + 13 * last.length + (5 + 6 * last.length)) (m := 0) h2 Ex.pure
end
end PartA7
end Mine

namespace Mine
section PartA8
def fn1 : List Obj := fnObjs (stt 2) 26 249 3 ["code"] nm1
def e2 (P : Params) : DictEntry := ent P "in_table_b1" 255 (.ref 32)
def ct1 : List Value := [.int 3 0, .int 0 0, .ref 31]
def L2 (P : Params) : List Obj := preL P (mainD P nm1 [e1 P, e2 P]) (codeTab ct1) ++ setObjs P ++ fn1
def H2 (P : Params) : Heap := heapOf (L2 P)

set_option maxHeartbeats 0
theorem run_2 (w : World) (os : OsState) : segRun treeTable pw w 11 (some (.ref 6)) 1 30 ⟨H1 w.params, #[], {}, 249, os⟩ (piecesOf ((bE.drop 2).take 1) envE cE ⟨2, 0, 2, 6⟩ B) = some (.next, ⟨H2 w.params, #[], {}, 256, os⟩, cE, ⟨3, 0, 4, 30⟩) := by
  unfold piecesOf; rw [tSegRun, Mine.tTree, tExecs]; kernel_rfl

-- the table, read off the text
def dKeys : Stmt → List (Option Expr)
  | .Assign _ (.Dict ks _ _) _ => ks
  | _ => []
def dVals : Stmt → List Expr
  | .Assign _ (.Dict _ vs _) _ => vs
  | _ => []
def dPos : Stmt → Pos
  | .Assign _ (.Dict _ _ p) _ => p
  | _ => default
def dTargets : Stmt → List Expr
  | .Assign ts _ _ => ts
  | _ => []
def tabOf : List (Option Expr) → List Expr → Option (List (Int × Str))
  | [], [] => some []
  | some (.Constant (.int i) _ _) :: ks, .Constant (.str s) _ _ :: vs => match tabOf ks vs with
    | some r => some ((i, s) :: r)
    | none => none
  | _, _ => none
def tab : List (Int × Str) := (tabOf (dKeys (stt 3)) (dVals (stt 3))).getD []

theorem items_eq {env : Env} {pos : Pos} : ∀ (ks : List (Option Expr)) (vs : List Expr) (t : List (Int × Str)), tabOf ks vs = some t →
    (evalEachOpt ks env).zip ((evalEach vs env).map fun v => do let x ← v; standAt pos; pure x) = (t.map (pr pos)).map it
  | [], [], t, h => by cases h; rfl
  | some (.Constant (.int i) _ _) :: ks, .Constant (.str s) _ _ :: vs, t, h => by
    cases hr : tabOf ks vs with
    | none => simp only [tabOf, hr] at h; cases h
    | some r =>
      simp only [tabOf, hr] at h
      cases h
      have ih := items_eq (env := env) (pos := pos) ks vs r hr
      show ((some (mkInt i) :: evalEachOpt ks env).zip (((mkText s) :: evalEach vs env).map fun v => do let x ← v; standAt pos; pure x)) = _
      rw [List.map_cons, List.zip_cons_cons, ih]
      rfl

theorem tab_some : tabOf (dKeys (stt 3)) (dVals (stt 3)) = some tab := by kernel_rfl
theorem st3_eq : stt 3 = .Assign (dTargets (stt 3)) (.Dict (dKeys (stt 3)) (dVals (stt 3)) (dPos (stt 3))) (posOf (stt 3)) := by kernel_rfl

def okTab : Int → List (Int × Str) → Bool
  | _, [] => true
  | a, x :: r => decide (a < x.1) && decide (x.1 < 1114112) && okTab x.1 r
theorem okTab_lt : ∀ {a : Int} {t : List (Int × Str)}, okTab a t = true → ∀ x ∈ t, a < x.1 ∧ x.1 < 1114112
  | _, [], _, x, hx => nomatch hx
  | a, y :: r, h, x, hx => by
    simp only [okTab, Bool.and_eq_true, decide_eq_true_eq] at h
    rcases List.mem_cons.mp hx with rfl | hx
    · exact h.1
    · have := okTab_lt h.2 x hx
      omega
theorem hashInt_small {k : Int} (h0 : 0 ≤ k) (h1 : k < 1114112) : hashInt k = k := by
  have e : (k.natAbs % (2 ^ 61 - 1 : Nat) : Nat) = k.natAbs := Nat.mod_eq_of_lt (by omega)
  have e2 : rawHash k = k := by
    unfold rawHash
    dsimp only
    have : ((k.natAbs : Int) % ((2 ^ 61 - 1 : Nat) : Int)) = k := by
      rw [← Int.natCast_emod, e]; omega
    rw [this, if_neg (show ¬ k < 0 by omega)]
    rw [if_neg]
    intro q
    have := eq_of_beq q
    omega
  unfold hashInt
  rw [e2, if_neg]
  intro q
  have := eq_of_beq q
  omega
theorem okTab_apart : ∀ {a : Int} {t : List (Int × Str)}, -1 ≤ a → okTab a t = true → Apart t
  | _, [], _, _ => .nil
  | a, y :: r, ha, h => by
    have hh := h
    simp only [okTab, Bool.and_eq_true, decide_eq_true_eq] at h
    refine List.pairwise_cons.mpr ⟨fun x hx => ?_, okTab_apart (by omega) h.2⟩
    have h1 := okTab_lt h.2 x hx
    rw [hashInt_small (by omega) h.1.2, hashInt_small (by omega) h1.2]
    omega
theorem tab_ok : okTab 0 tab = true := by kernel_rfl
theorem tab_len : tab.length = 650 := by kernel_rfl

def chunkN : Nat → List (Int × Str) → List (List (Int × Str))
  | 0, _ => []
  | k + 1, l => l.take 17 :: chunkN k (l.drop 17)
theorem chunkN_flat : ∀ (k : Nat) (l : List (Int × Str)), (chunkN k l).flatten ++ l.drop (17 * k) = l
  | 0, l => by simp [chunkN]
  | k + 1, l => by
    rw [chunkN, List.flatten_cons, List.append_assoc]
    have := chunkN_flat k (l.drop 17)
    rw [List.drop_drop, show 17 + 17 * k = 17 * (k + 1) by omega] at this
    rw [this, List.take_append_drop]
theorem chunkN_len : ∀ (k : Nat) (l : List (Int × Str)), 17 * k ≤ l.length → ∀ c ∈ chunkN k l, c.length = 17
  | 0, _, _, c, hc => nomatch hc
  | k + 1, l, h, c, hc => by
    rw [chunkN] at hc
    rcases List.mem_cons.mp hc with rfl | hc
    · rw [List.length_take]; omega
    · exact chunkN_len k (l.drop 17) (by rw [List.length_drop]; omega) c hc
def tabC : List (Int × Str) := tab.take 17
def tabCs : List (List (Int × Str)) := chunkN 37 (tab.drop 17)
def tabL : List (Int × Str) := tab.drop 646
theorem chunkN_count : ∀ (k : Nat) (l : List (Int × Str)), (chunkN k l).length = k
  | 0, _ => rfl
  | k + 1, l => by rw [chunkN, List.length_cons, chunkN_count]
theorem tab_split : (tabC :: tabCs).flatten ++ tabL = tab := chunkN_flat 38 tab
theorem tabCs_len : tabCs.length = 37 := chunkN_count 37 _
theorem tabL_len : tabL.length = 4 := by unfold tabL; rw [List.length_drop, tab_len]

def mainEs : List DictEntry := ents 256 (tabC :: tabCs).flatten ++ ents2 2194 tabL
def dictObjs : List Obj := dictO mainEs 650 :: (subsOf 307 tabCs ++ [dictO (ents2 2194 tabL) 4])

theorem heapOf_pushAll (l l' : List Obj) : pushAll (heapOf l) l' = heapOf (l ++ l') := by
  unfold pushAll heapOf
  rw [List.append_toArray]

theorem L2_size (P : Params) : (heapOf (L2 P)).objs.size = 33 := by kernel_rfl
theorem ex_dict (w : World) (os : OsState) (pos : Pos) : Ex (TC pw w 11 (some (.ref 6)) bE envE qP) (dictDisplay ((tab.map (pr pos)).map it)) ⟨H2 w.params, #[], {}, 256, os⟩ pos 12515 (.ref 33)
    ⟨heapOf (L2 w.params ++ dictObjs), #[], {}, 2206, os⟩ pos := by
  have h := ex_display (p := pw) (w := w) (n₀ := 11) (ann := some (.ref 6)) (bb := bE) (ee := envE) (q0 := qP) (pos := pos) (s := ⟨H2 w.params, #[], {}, 256, os⟩) tabC tabCs tabL
    (by show Nat.ble 11 (heapOf (L2 w.params)).objs.size = true; rw [L2_size]; rfl) (by show sysModules < (heapOf (L2 w.params)).objs.size; rw [L2_size]; decide)
    (chunkN_len 38 tab (by rw [tab_len]; decide)) (by rw [tabL_len]; decide) (by intro e; have := tabL_len; rw [e] at this; cases this) (by rw [tab_split]; exact okTab_apart (by decide) tab_ok)
    (by rw [← List.length_append, tab_split, tab_len]; decide)
  rw [tab_split, tabCs_len, tabL_len] at h
  dsimp only at h
  rw [show (H2 w.params).objs.size = 33 from L2_size _, show pushAll (H2 w.params) _ = _ from heapOf_pushAll (L2 w.params) _] at h
  exact h
end PartA8
end Mine

namespace Mine
section PartA9
set_option maxHeartbeats 0

def e3 (P : Params) : DictEntry := ent P "b3_exceptions" 2206 (.ref 33)
def H3 (P : Params) : Heap := heapOf (preL P (mainD P nm1 [e1 P, e2 P, e3 P]) (codeTab ct1) ++ setObjs P ++ fn1 ++ dictObjs)

theorem ex_tail (w : World) (os : OsState) (pos : Pos) : Ex (TC pw w 11 (some (.ref 6)) bE envE qP) (assignStores envE (.ref 33) none ((assignEach (dTargets (stt 3)) envE).map (·.2)))
    ⟨heapOf (L2 w.params ++ dictObjs), #[], {}, 2206, os⟩ pos 7 .next ⟨H3 w.params, #[], {}, 2207, os⟩ ⟨5, 0, 5, 13⟩ := by
  intro K H gd lv
  unfold Cfg.go
  rw [tSegGo]
  dsimp only [TC]
  rw [Mine.tTree]
  kernel_rfl
theorem swaps3 : swapsWithSole (dTargets (stt 3)) (.Dict (dKeys (stt 3)) (dVals (stt 3)) (dPos (stt 3))) (posOf (stt 3)).line envE = pure false := by kernel_rfl
theorem swapped3 : swappedStores (dTargets (stt 3)) (.Dict (dKeys (stt 3)) (dVals (stt 3)) (dPos (stt 3))) envE = pure none := by kernel_rfl

theorem ex_stt3 (w : World) (os : OsState) (pos : Pos) : Ex (TC pw w 11 (some (.ref 6)) bE envE qP) (exec (stt 3) envE) ⟨H2 w.params, #[], {}, 256, os⟩ pos 12524 .next ⟨H3 w.params, #[], {}, 2207, os⟩ ⟨5, 0, 5, 13⟩ := by
  rw [st3_eq, arm_exec_Assign, swaps3]
  refine Ex.bind (n := 1) (m := 12523) Ex.standAt ?_
  rw [pure_bind, if_neg Bool.false_ne_true, arm_eval_Dict, swapped3]
  refine Ex.bind (n := 12516) (m := 7) (a := .ref 33) (s₁ := ⟨heapOf (L2 w.params ++ dictObjs), #[], {}, 2206, os⟩) (q₁ := dPos (stt 3)) ?_ ?_
  · refine Ex.bind (n := 1) (m := 12515) Ex.standAt ?_
    rw [items_eq _ _ _ tab_some]
    exact ex_dict w os _
  · rw [pure_bind]
    exact ex_tail w os _

theorem run_3 (w : World) (os : OsState) : segRun treeTable pw w 11 (some (.ref 6)) 1 12525 ⟨H2 w.params, #[], {}, 256, os⟩ (piecesOf ((bE.drop 3).take 1) envE cE ⟨3, 0, 4, 30⟩ B) = some (.next, ⟨H3 w.params, #[], {}, 2207, os⟩, cE, ⟨5, 0, 5, 13⟩) := by
  have e : (bE.drop 3).take 1 = [stt 3] := by kernel_rfl
  have h : Ex (TC pw w 11 (some (.ref 6)) bE envE qP) (execs [stt 3] envE) ⟨H2 w.params, #[], {}, 256, os⟩ ⟨3, 0, 4, 30⟩ 12524 .next ⟨H3 w.params, #[], {}, 2207, os⟩ ⟨5, 0, 5, 13⟩ := by
    rw [show execs [stt 3] envE = (exec (stt 3) envE >>= fun f => match f with | .next => execs [] envE | f => pure f) from by first | rfl | (rw [execs]; rfl) | (rw [execs_cons]; rfl)]
    exact Ex.bind (n := 12524) (m := 0) (ex_stt3 w os _) Ex.pure
  rw [e]
  refine (seg_go (n := 12524) (N := 1) (h doneF deadEnd id id) ?_)
  rfl
end PartA9
end Mine

namespace Mine
section PartA10
set_option maxHeartbeats 0

def fn2 : List Obj := fnObjs (stt 4) 72 2207 6 ["code", "r"] nm1
def fn3 : List Obj := fnObjs (stt 6) 79 2217 12 ["code"] nm2
def fn4 : List Obj := fnObjs (stt 7) 86 2224 16 ["code", "script_gaps", "black_gaps"] nm2
def fn5 : List Obj := fnObjs (stt 8) 93 2233 20 ["script", "plain", "small", "joined", "number", "code", "place", "sign", "due"] nm2
def e4 (P : Params) : DictEntry := ent P "map_table_b3" 2214 (.ref 78)
def e5 (P : Params) : DictEntry := ent P "_law_nothing" 2223 (.ref 85)
def e6 (P : Params) : DictEntry := ent P "_law_gap" 2232 (.ref 92)
def e7 (P : Params) : DictEntry := ent P "law" 2247 (.ref 99)
def ct2 : List Value := ct1 ++ [.int 6 0, .int 0 0, .ref 77]
def ct3 : List Value := ct2 ++ [.int 12 0, .int 0 0, .ref 84]
def ct4 : List Value := ct3 ++ [.int 16 0, .int 0 0, .ref 91]
def ct5 : List Value := ct4 ++ [.int 20 0, .int 0 0, .ref 98]
def H4 (P : Params) : Heap := heapOf (preL P (mainD P nm1 [e1 P, e2 P, e3 P, e4 P]) (codeTab ct2) ++ setObjs P ++ fn1 ++ dictObjs ++ fn2)
def H5 (P : Params) : Heap := heapOf (preL P (mainD P nm2 [e1 P, e2 P, e3 P, e4 P]) (codeTab ct2) ++ setObjs P ++ fn1 ++ dictObjs ++ fn2)
def H6 (P : Params) : Heap := heapOf (preL P (mainD P nm2 [e1 P, e2 P, e3 P, e4 P, e5 P]) (codeTab ct3) ++ setObjs P ++ fn1 ++ dictObjs ++ fn2 ++ fn3)
def H7 (P : Params) : Heap := heapOf (preL P (mainD P nm2 [e1 P, e2 P, e3 P, e4 P, e5 P, e6 P]) (codeTab ct4) ++ setObjs P ++ fn1 ++ dictObjs ++ fn2 ++ fn3 ++ fn4)
def mainE (P : Params) : Obj := mainD P nm2 [e1 P, e2 P, e3 P, e4 P, e5 P, e6 P, e7 P]
def L8 (P : Params) : List Obj := preL P (mainE P) (codeTab ct5) ++ setObjs P ++ fn1 ++ dictObjs ++ fn2 ++ fn3 ++ fn4 ++ fn5
def H8 (P : Params) : Heap := heapOf (L8 P)

theorem run_4 (w : World) (os : OsState) : segRun treeTable pw w 11 (some (.ref 6)) 1 31 ⟨H3 w.params, #[], {}, 2207, os⟩ (piecesOf ((bE.drop 4).take 1) envE cE ⟨5, 0, 5, 13⟩ B) = some (.next, ⟨H4 w.params, #[], {}, 2215, os⟩, cE, ⟨6, 0, 10, 23⟩) := by
  unfold piecesOf; rw [tSegRun, Mine.tTree, tExecs]; kernel_rfl
theorem run_5 (w : World) (os : OsState) : segRun treeTable pw w 11 (some (.ref 6)) 1 10 ⟨H4 w.params, #[], {}, 2215, os⟩ (piecesOf ((bE.drop 5).take 1) envE cE ⟨6, 0, 10, 23⟩ B) = some (.next, ⟨H5 w.params, #[], {}, 2217, os⟩, cE, ⟨11, 0, 11, 8⟩) := by
  unfold piecesOf; rw [tSegRun, Mine.tTree, tExecs]; kernel_rfl
theorem run_6 (w : World) (os : OsState) : segRun treeTable pw w 11 (some (.ref 6)) 1 30 ⟨H5 w.params, #[], {}, 2217, os⟩ (piecesOf ((bE.drop 6).take 1) envE cE ⟨11, 0, 11, 8⟩ B) = some (.next, ⟨H6 w.params, #[], {}, 2224, os⟩, cE, ⟨12, 0, 15, 48⟩) := by
  unfold piecesOf; rw [tSegRun, Mine.tTree, tExecs]; kernel_rfl
theorem run_7 (w : World) (os : OsState) : segRun treeTable pw w 11 (some (.ref 6)) 1 32 ⟨H6 w.params, #[], {}, 2224, os⟩ (piecesOf ((bE.drop 7).take 1) envE cE ⟨12, 0, 15, 48⟩ B) = some (.next, ⟨H7 w.params, #[], {}, 2233, os⟩, cE, ⟨16, 0, 19, 102⟩) := by
  unfold piecesOf; rw [tSegRun, Mine.tTree, tExecs]; kernel_rfl
theorem run_8 (w : World) (os : OsState) : segRun treeTable pw w 11 (some (.ref 6)) 1 38 ⟨H7 w.params, #[], {}, 2233, os⟩ (piecesOf ((bE.drop 8).take 1) envE cE ⟨16, 0, 19, 102⟩ B) = some (.next, ⟨H8 w.params, #[], {}, 2248, os⟩, cE, ⟨20, 0, 36, 15⟩) := by
  unfold piecesOf; rw [tSegRun, Mine.tTree, tExecs]; kernel_rfl
theorem run_fin (w : World) (os : OsState) : topRun treeTable pw w 11 (some (.ref 6)) 2 ⟨H8 w.params, #[], {}, 2248, os⟩ ⟨doneF .next, cE, ⟨20, 0, 36, 15⟩, B⟩ = some ⟨H8 w.params, #[], {}, 2248, os⟩ := by
  kernel_rfl

theorem run_all (w : World) (os : OsState) : topRun treeTable pw w 11 (some (.ref 6)) (12 + (1 + (10 + (999 + (30 + (12525 + (31 + (10 + (30 + (32 + (38 + 2))))))))))) ⟨boot_heap w.params, #[], boot_drawn, boot_toks, os⟩ (topStub pw) = some ⟨H8 w.params, #[], {}, 2248, os⟩ := by
  refine go_top (run_pre w os) (piece_block (run_block w os) ?_)
  show topRun treeTable pw w 11 (some (.ref 6)) _ _ (restOf bE envE cE qP B) = _
  rw [show bE = (bE.drop 0).take 1 ++ ((bE.drop 1).take 1 ++ ((bE.drop 2).take 1 ++ ((bE.drop 3).take 1 ++ ((bE.drop 4).take 1 ++ ((bE.drop 5).take 1 ++ ((bE.drop 6).take 1 ++ ((bE.drop 7).take 1 ++ ((bE.drop 8).take 1 ++ [])))))))) from by kernel_rfl]
  exact piece_app (run_0 w os) (piece_app (run_1 w os) (piece_app (run_2 w os) (piece_app (run_3 w os) (piece_app (run_4 w os) (piece_app (run_5 w os) (piece_app (run_6 w os) (piece_app (run_7 w os) (piece_app (run_8 w os) (piece_nil (run_fin w os))))))))))

theorem run_size (w : World) : ((boot_heap w.params).isNs mainGlobals && (#[] : Array GenState).size == 0, (boot_heap w.params).objs.size, (boot_heap w.params).nsMap mainGlobals "__annotations__") = (true, 11, some (.ref 6)) := by
  kernel_rfl
theorem run_open (N : Nat) (hN : Nat.ble 600 N = true) (w : World) : (fencedOpening treeTable pw w N).map (fun s => (s.heap, s.gens, s.drawn, s.toks)) = some (boot_heap w.params, #[], boot_drawn, boot_toks) :=
  boot_open (p := pw) (by kernel_rfl) hN (fun s => by kernel_rfl) w
end PartA10
end Mine

namespace Mine
section PartB1
set_option maxHeartbeats 0

def K (P : Params) : Frag :=
  [Prod.mk (nat_lit 2) (boot_o_2 P), Prod.mk (nat_lit 3) (mainE P), Prod.mk (nat_lit 6) (boot_o_6 P), Prod.mk (nat_lit 22) (setObj P),
   Prod.mk (nat_lit 26) gTup, Prod.mk (nat_lit 28) (gVars 249 ["code"]), Prod.mk (nat_lit 29) gTup, Prod.mk (nat_lit 31) (gCode (stt 2) 26 249 3 1), Prod.mk (nat_lit 32) (gFn (stt 2) 26 nm1),
   Prod.mk (nat_lit 33) (dictO mainEs 650),
   Prod.mk (nat_lit 72) gTup, Prod.mk (nat_lit 74) (gVars 2207 ["code", "r"]), Prod.mk (nat_lit 75) gTup, Prod.mk (nat_lit 77) (gCode (stt 4) 72 2207 6 2), Prod.mk (nat_lit 78) (gFn (stt 4) 72 nm1),
   Prod.mk (nat_lit 79) gTup, Prod.mk (nat_lit 81) (gVars 2217 ["code"]), Prod.mk (nat_lit 82) gTup, Prod.mk (nat_lit 84) (gCode (stt 6) 79 2217 12 1), Prod.mk (nat_lit 85) (gFn (stt 6) 79 nm2),
   Prod.mk (nat_lit 86) gTup, Prod.mk (nat_lit 88) (gVars 2224 ["code", "script_gaps", "black_gaps"]), Prod.mk (nat_lit 89) gTup, Prod.mk (nat_lit 91) (gCode (stt 7) 86 2224 16 3), Prod.mk (nat_lit 92) (gFn (stt 7) 86 nm2),
   Prod.mk (nat_lit 93) gTup, Prod.mk (nat_lit 95) (gVars 2233 ["script", "plain", "small", "joined", "number", "code", "place", "sign", "due"]), Prod.mk (nat_lit 96) gTup, Prod.mk (nat_lit 98) (gCode (stt 8) 93 2233 20 9), Prod.mk (nat_lit 99) (gFn (stt 8) 93 nm2)]
def Kas : List Addr := [2, 3, 6, 22, 26, 28, 29, 31, 32, 33, 72, 74, 75, 77, 78, 79, 81, 82, 84, 85, 86, 88, 89, 91, 92, 93, 95, 96, 98, 99]
theorem Kas_eq (P : Params) : Kas = (K P).map (·.1) := by kernel_rfl
def KH : Hook := kHook K Kas Kas_eq

def q : Program := { pw with main := { pw.main with body := [stt 0, stt 2, stt 4, stt 5, stt 6, stt 7, stt 8] } }
def loose : List Str := [Str.ofString "b1_set", Str.ofString "b3_exceptions"]
abbrev rr : RowW := PySem.Challenge.rw_wv0075_01.row.toRowW


abbrev Xt : Shared → Bool := fun s => xlAt q [] s && recOk (RowW.records rr) s
theorem looks1 (w : World) (os : OsState) : (staticsOk (importedModules pw.main.body) (boot_heap w.params) (H8 w.params) && namesBound pw (H8 w.params) && gensDone ⟨H8 w.params, #[], {}, 2248, os⟩ && laidKept (boot_heap w.params) (H8 w.params)) = true := by
  kernel_rfl
theorem looks3 (w : World) (os : OsState) : KH.obs ⟨H8 w.params, #[], {}, 2248, os⟩ = KH.val w := by
  kernel_rfl
theorem looks2 (w : World) (os : OsState) : openSeen q loose (importedModules pw.main.body) Xt true ⟨H8 w.params, #[], {}, 2248, os⟩ = openGood q loose := by
  rw [show @openSeen = PySem.W.Fast.tw4187177175401517315 from PySem.W.Fast.te4187177175401517315]
  kernel_rfl
end PartB1
end Mine

namespace Mine
section PartB2
set_option maxHeartbeats 0
theorem left : LeftO pw q loose Xt KH.obs KH.val 30000 true :=
  LeftO.of_pieces (run_open 30000 rfl) run_size run_all rfl (fun w => funext fun os => looks_pair (looks1 w os) (looks_pair (looks2 w os) (looks3 w os)))
end PartB2
end Mine

namespace Mine
section PartB4
set_option maxHeartbeats 0

-- the two tables, read plainly
def inB1 (c : Int) : Bool := (b1s.map (·.1)).contains c
def look (c : Int) : Option Str := (tab.find? fun x => x.1 == c).map (·.2)
def f33 (k : Int) : Option Value := findBy Value.isInt mainEs.toArray k

theorem ents_find {k : Int} : ∀ (c : List (Int × Str)) (T : Nat), match c.find? fun x => x.1 == k with
    | some x => ∃ t, ((ents T c).find? fun e => Value.isInt k e.key).map (·.val) = some (.str x.2 t)
    | none => ((ents T c).find? fun e => Value.isInt k e.key) = none
  | [], T => by rw [List.find?_nil]; rfl
  | x :: c, T => by
    have e : ents T (x :: c) = ⟨hashInt x.1, .int x.1 T, .str x.2 (T + 1)⟩ :: ents (T + 3) c := rfl
    rw [e, List.find?_cons, List.find?_cons]
    have e2 : Value.isInt k (Value.int x.1 T) = (x.1 == k) := rfl
    dsimp only
    rw [e2]
    cases h : x.1 == k with
    | true => exact ⟨T + 1, rfl⟩
    | false => exact ents_find c (T + 3)
theorem ents2_find {k : Int} : ∀ (c : List (Int × Str)) (T : Nat), match c.find? fun x => x.1 == k with
    | some x => ∃ t, ((ents2 T c).find? fun e => Value.isInt k e.key).map (·.val) = some (.str x.2 t)
    | none => ((ents2 T c).find? fun e => Value.isInt k e.key) = none
  | [], T => by rw [List.find?_nil]; rfl
  | x :: c, T => by
    have e : ents2 T (x :: c) = ⟨hashInt x.1, .int x.1 T, .str x.2 (T + 1)⟩ :: ents2 (T + 2) c := rfl
    rw [e, List.find?_cons, List.find?_cons]
    have e2 : Value.isInt k (Value.int x.1 T) = (x.1 == k) := rfl
    dsimp only
    rw [e2]
    cases h : x.1 == k with
    | true => exact ⟨T + 1, rfl⟩
    | false => exact ents2_find c (T + 2)
theorem f33_is (k : Int) : match look k with
    | some s => ∃ t, f33 k = some (.str s t)
    | none => f33 k = none := by
  unfold look f33 findBy
  rw [List.find?_toArray, ← tab_split]
  unfold mainEs
  rw [List.find?_append, List.find?_append]
  have h1 := ents_find (k := k) (tabC :: tabCs).flatten 256
  have h2 := ents2_find (k := k) tabL 2194
  generalize (tabC :: tabCs).flatten.find? (fun x => x.1 == k) = a at h1 ⊢
  generalize tabL.find? (fun x => x.1 == k) = b at h2 ⊢
  generalize List.find? (fun e => Value.isInt k e.key) (ents 256 (tabC :: tabCs).flatten) = c at h1 ⊢
  generalize List.find? (fun e => Value.isInt k e.key) (ents2 2194 tabL) = d at h2 ⊢
  cases a with
  | some x =>
    obtain ⟨t, ht⟩ := h1
    cases c with
    | none => cases ht
    | some e => exact ⟨t, ht⟩
  | none =>
    dsimp only at h1
    subst h1
    cases b with
    | some x => obtain ⟨t, ht⟩ := h2; exact ⟨t, ht⟩
    | none => dsimp only at h2; subst h2; rfl

section
variable {prog : Program} {w : World} {A : Around} {E : Value → Shared → Prop} {s : Shared} {h₀ : Heap} {L : Addr} {m : Str → Option Value}

theorem keys33 : KeysOf (intKind prog w) mainEs.toArray := by
  intro e he
  have he : e ∈ mainEs := List.mem_toArray.mp he
  unfold mainEs at he
  rcases List.mem_append.mp he with h | h
  · obtain ⟨x, _, h1, t, h2⟩ := ents_mem h
    exact ⟨x.1, by rw [h2]; exact beq_self_eq_true x.1, h1⟩
  · obtain ⟨x, _, h1, t, h2⟩ := ents2_mem h
    exact ⟨x.1, by rw [h2]; exact beq_self_eq_true x.1, h1⟩
theorem map33 {h : Heap} (e : h.get? 33 = some (dictO mainEs 650)) : h.MapOf (intKind prog w) 33 f33 :=
  ⟨_, mainEs.toArray, 650, e, ⟨rfl, rfl, rfl⟩, rfl, keys33, fun _ => rfl⟩
theorem set22 {h : Heap} (e : h.get? 22 = some (setObj w.params)) : h.SetOf (intKind prog w) 22 inB1 27 := by
  refine ⟨_, (b1s.map fun x => (x.1, iv x)).toArray, 29, _, e, ⟨rfl, rfl, rfl⟩, rfl, ?_, ?_, by decide, rfl, rfl⟩
  · intro x hx
    obtain ⟨y, hy, rfl⟩ := List.mem_map.mp hx
    refine ⟨⟨y.1, beq_self_eq_true y.1, ?_⟩, rfl⟩
    have : ∀ y ∈ b1s, y.1 = hashInt y.1 := by decide +kernel
    exact this y hy
  · intro k
    unfold inB1
    rw [List.contains_iff_mem]
    constructor
    · intro hk
      obtain ⟨y, hy, rfl⟩ := List.mem_map.mp hk
      exact ⟨(y.1, iv y), List.mem_map_of_mem hy, beq_self_eq_true y.1⟩
    · rintro ⟨e, he, hk⟩
      obtain ⟨y, hy, rfl⟩ := List.mem_map.mp he
      have : y.1 = k := eq_of_beq hk
      subst this
      exact List.mem_map_of_mem hy

theorem in22 {i : Int} {t : Tok} {Q : Value → Shared → Prop} (F : Fr h₀ L s.heap m) (X : (K w.params).In h₀) (h : Q (.bool (inB1 i)) { s with toks := s.toks + 1 }) :
    wpAny (model prog w) A (compareOp .In (.int i t) (.ref 22)) Q E s :=
  wpAny_inSet_of (intKind_is prog w i t) rfl (set22 ((X.keeps F.keep) 22 (setObj w.params) rfl)) h
theorem meth33 {pl : Sem Bool} {Q : Value × List Value → Shared → Prop} (F : Fr h₀ L s.heap m) (X : (K w.params).In h₀) (h : Q (.builtin "dict.get", [.ref 33]) s) :
    wpAny (model prog w) A (getMethod (.ref 33) "get" pl) Q E s :=
  have hm := map33 (prog := prog) (w := w) ((X.keeps F.keep) 33 (dictO mainEs 650) rfl)
  getMethod_builtin hm.typeIs PySem.F.plainAttrs_dict PySem.F.slot_dict_get PySem.F.type_dict_get hm.noDict h
theorem get33 {i : Int} {t : Tok} {Q : Value → Shared → Prop} (F : Fr h₀ L s.heap m) (X : (K w.params).In h₀) (h1 : ∀ x u, look i = some x → Q (.str x u) { s with toks := s.toks + 1 }) (h2 : look i = none → Q .none { s with toks := s.toks + 1 }) :
    wpAny (model prog w) A (call (.builtin "dict.get") [.ref 33, .int i t]) Q E s := by
  have hm := map33 (prog := prog) (w := w) ((X.keeps F.keep) 33 (dictO mainEs 650) rfl)
  refine call_meetsIn PySem.F.slot_dict_get hm.typeIs PySem.F.entry_dict_get (PySem.F.args_dict_get_2 _ _) (meets_dict_get (intKind prog w) 33 (intKind_is prog w i t) (by decide)) ⟨_, hm, ?_⟩
  have hf := f33_is i
  cases hl : look i with
  | some x =>
    rw [hl] at hf
    obtain ⟨u, hu⟩ := hf
    rw [hu]
    exact h1 x u hl
  | none =>
    rw [hl] at hf
    rw [show f33 i = none from hf]
    exact h2 hl
end
end PartB4
end Mine

namespace Mine
section PartC0
open PySem.Calls
set_option maxHeartbeats 0
def inB1T (x : Str) : Bool := inB1 ((x.cps.getD 0 0 : Nat) : Int)
def nothingB (c : Int) : Bool := if (65024 ≤ c ∧ c ≤ 65039) ∨ (6155 ≤ c ∧ c ≤ 6157) ∨ (8203 ≤ c ∧ c ≤ 8205) then true else [173, 847, 6150, 8288, 65279].any fun y => y == c
def gapB (c : Int) : Bool := [119965, 119968, 119969, 119971, 119972, 119975, 119976, 119981, 120070, 120075, 120076, 120085, 120093, 120122, 120127, 120133, 120135, 120136, 120137, 120145].any fun y => y == c
def mapB3 (x : Str) : Str := match look ((x.cps.getD 0 0 : Nat) : Int) with
  | some r => r
  | none => Txt.lower x
theorem mapB3_some {x r : Str} (h : look ((x.cps.getD 0 0 : Nat) : Int) = some r) : r = mapB3 x := by unfold mapB3; rw [h]
theorem mapB3_none {x : Str} (h : look ((x.cps.getD 0 0 : Nat) : Int) = none) : Txt.lower x = mapB3 x := by unfold mapB3; rw [h]
def fixB (c : Int) : Int := if 55296 ≤ c ∧ c ≤ 57343 then 65 else c
def dueS (p : Int) : Str := if p.fmod 52 < 26 ∧ gapB (119808 + p) = false then Txt.item (Str.ofString "abcdefghijklmnopqrstuvwxyz0123456789_- ") (p.fmod 26) else ⟨#[(119808 + p).toNat]⟩

theorem fix_in {c : Int} {t : Tok} (h1 : 55296 ≤ c) (h2 : c ≤ 57343) : Value.int 65 t = Value.int (fixB c) t := by unfold fixB; rw [if_pos ⟨h1, h2⟩]
theorem fix_out {c : Int} {t : Tok} (h : ¬ (55296 ≤ c ∧ c ≤ 57343)) : Value.int c t = Value.int (fixB c) t := by unfold fixB; rw [if_neg h]
theorem fix_range (n : Int) : 0 ≤ fixB (n.fmod 1114112) ∧ fixB (n.fmod 1114112) ≤ 1114111 := by
  have h0 := Int.fmod_nonneg_of_pos n (show (0 : Int) < 1114112 by decide)
  have h1 := Int.fmod_lt_of_pos n (show (0 : Int) < 1114112 by decide)
  unfold fixB
  split <;> omega
end PartC0
end Mine

namespace Mine
section PartG2
open PySem.Calls
set_option maxHeartbeats 0

-- the set of signs that are mapped to nothing
theorem in_eq (c : Int) : inB1 c = nothingB c := by
  rw [Bool.eq_iff_iff]
  unfold inB1 nothingB b1s
  simp only [List.map_cons, List.map_nil, List.contains_iff_mem, List.mem_cons, List.not_mem_nil, or_false]
  split
  · rename_i h
    simp only [iff_true]
    omega
  · rename_i h
    simp only [List.any_cons, List.any_nil, Bool.or_false, Bool.or_eq_true, beq_iff_eq]
    omega
theorem law_in (n : Int) : inB1T ⟨#[(fixB (n.fmod 1114112)).toNat]⟩ = nothingB (fixB (n.fmod 1114112)) := by
  have h := fix_range n
  rw [← in_eq]
  unfold inB1T
  show inB1 (((fixB (n.fmod 1114112)).toNat : Nat) : Int) = _
  rw [Int.toNat_of_nonneg h.1]

-- lower of one sign
theorem lower_one (c : Nat) (h : (c == 0x3A3) = false) : Txt.lower ⟨#[c]⟩ = ⟨(Unicode.lowerOf c).toArray⟩ := by
  have e : Unicode.lowerAt #[c] 0 = Unicode.lowerOf c := by
    unfold Unicode.lowerAt
    show (if (c == 0x3A3 && _) = true then _ else _) = _
    rw [h]; rfl
  unfold Txt.lower placed
  simp [e]
theorem shifted_none (lo hi : Nat) : ∀ (l : List (Nat × Nat × Nat)), l.all (fun x => decide (x.2.1 < lo) || decide (hi ≤ x.1)) = true → ∀ c, lo ≤ c → c < hi → Unicode.shifted l c = none
  | [], _, _, _, _ => rfl
  | (a, b, t) :: r, h, c, h0, h1 => by
    simp only [List.all_cons, Bool.and_eq_true, Bool.or_eq_true, decide_eq_true_eq] at h
    unfold Unicode.shifted
    split
    · rfl
    · rw [if_neg (by omega)]
      exact shifted_none lo hi r (by simpa using h.2) c h0 h1
theorem lower_all : PySem.UnicodeData.oneLower.all (fun x => decide (x.2.1 < 119808) || decide (120484 ≤ x.1)) = true := by kernel_rfl
theorem lower_math (c : Nat) (h0 : 119808 ≤ c) (h1 : c < 120484) : Txt.lower ⟨#[c]⟩ = ⟨#[c]⟩ := by
  rw [lower_one c (beq_eq_false_iff_ne.mpr (by omega))]
  unfold Unicode.lowerOf Unicode.image
  have e : PySem.UnicodeData.severalLower.lookup c = none := by
    show (match c == 0x130 with | true => some _ | false => none) = none
    rw [beq_eq_false_iff_ne.mpr (by omega)]
  rw [e, shifted_none 119808 120484 _ lower_all c h0 h1]
  rfl

-- the table, alphabet by alphabet
def rhsA (a : Nat) : List (Int × Str) := (List.range 26).filterMap fun j => if gapB ((119808 + (52 * a + j) : Nat) : Int) then none else some (((119808 + (52 * a + j) : Nat) : Int), ⟨#[97 + j]⟩)
theorem seg_eq : (List.range 13).map (fun a => tab.filter fun x => decide (((119808 + 52 * a : Nat) : Int) ≤ x.1) && decide (x.1 < ((119860 + 52 * a : Nat) : Int))) = (List.range 13).map rhsA := by kernel_rfl
theorem seg_at {a : Nat} (ha : a < 13) : (tab.filter fun x => decide (((119808 + 52 * a : Nat) : Int) ≤ x.1) && decide (x.1 < ((119860 + 52 * a : Nat) : Int))) = rhsA a := by
  have h := congrArg (fun l => l[a]?) seg_eq
  simpa [List.getElem?_map, List.getElem?_range ha] using h
theorem look_seg {a : Nat} (ha : a < 13) {c : Int} (h0 : ((119808 + 52 * a : Nat) : Int) ≤ c) (h1 : c < ((119860 + 52 * a : Nat) : Int)) : look c = ((rhsA a).find? fun x => x.1 == c).map (·.2) := by
  unfold look
  rw [← seg_at ha, List.find?_filter]
  refine congrArg (fun p => (List.find? p tab).map (·.2)) (funext fun x => ?_)
  cases hx : x.1 == c with
  | false => simp
  | true =>
    have := eq_of_beq hx
    subst this
    rw [decide_eq_true h0, decide_eq_true h1]; simp

def due2 (p : Nat) : Str := if p % 52 < 26 ∧ gapB ((119808 + p : Nat) : Int) = false then ⟨#[97 + p % 26]⟩ else ⟨#[119808 + p]⟩
theorem sign_chk : ((List.range 13).all fun a => (List.range 52).all fun j => decide ((match ((rhsA a).find? fun x => x.1 == ((119808 + (52 * a + j) : Nat) : Int)).map (·.2) with
    | some r => r
    | none => (⟨#[119808 + (52 * a + j)]⟩ : Str)) = due2 (52 * a + j))) = true := by kernel_rfl
theorem item_chk : ((List.range 26).all fun j => decide (Txt.item (Str.ofString "abcdefghijklmnopqrstuvwxyz0123456789_- ") (j : Int) = (⟨#[97 + j]⟩ : Str))) = true := by kernel_rfl
theorem dueS_nat (p : Nat) : dueS (p : Int) = due2 p := by
  unfold dueS due2
  rw [Int.fmod_eq_emod_of_nonneg _ (by decide), Int.fmod_eq_emod_of_nonneg _ (by decide)]
  have e : (119808 + (p : Int)) = ((119808 + p : Nat) : Int) := by omega
  rw [e]
  by_cases h : p % 52 < 26 ∧ gapB ((119808 + p : Nat) : Int) = false
  · rw [if_pos h, if_pos ⟨by omega, h.2⟩]
    have hi := of_decide_eq_true (List.all_eq_true.mp item_chk (p % 26) (List.mem_range.mpr (Nat.mod_lt _ (by decide))))
    rw [← hi]
    congr 1
  · rw [if_neg h, if_neg (fun q => h ⟨by omega, q.2⟩)]
    rw [Int.toNat_natCast]
theorem sign_nat (p : Nat) (hp : p < 676) : mapB3 ⟨#[119808 + p]⟩ = due2 p := by
  have ha : p / 52 < 13 := by omega
  have hj : p % 52 < 52 := Nat.mod_lt _ (by decide)
  have hpj : 52 * (p / 52) + p % 52 = p := Nat.div_add_mod p 52
  have hc := of_decide_eq_true (List.all_eq_true.mp (List.all_eq_true.mp sign_chk (p / 52) (List.mem_range.mpr ha)) (p % 52) (List.mem_range.mpr hj))
  rw [hpj] at hc
  have hl := look_seg ha (c := ((119808 + p : Nat) : Int)) (by omega) (by omega)
  unfold mapB3
  show (match look ((119808 + p : Nat) : Int) with | some r => r | none => Txt.lower ⟨#[119808 + p]⟩) = _
  rw [hl, ← hc]
  rw [lower_math (119808 + p) (by omega) (by omega)]
theorem law_sign (n : Int) : mapB3 ⟨#[(119808 + n.fmod 676).toNat]⟩ = dueS (n.fmod 676) := by
  have h0 := Int.fmod_nonneg_of_pos n (show (0 : Int) < 676 by decide)
  have h1 := Int.fmod_lt_of_pos n (show (0 : Int) < 676 by decide)
  obtain ⟨p, hp⟩ := Int.eq_ofNat_of_zero_le h0
  rw [hp] at h1 ⊢
  rw [dueS_nat p, show (119808 + (p : Int)).toNat = 119808 + p by omega]
  exact sign_nat p (by omega)

-- plain signs
theorem tab_low : tab.all (fun x => decide (180 < x.1)) = true := by kernel_rfl
theorem look_low {c : Int} (h : c ≤ 180) : look c = none := by
  unfold look
  rw [Option.map_eq_none_iff, List.find?_eq_none]
  intro x hx hq
  have h1 := of_decide_eq_true (List.all_eq_true.mp tab_low x hx)
  have h2 := eq_of_beq hq
  omega
theorem plain_chk : ((List.range 39).all fun k => decide ((((Txt.item (Str.ofString "ABCDEFGHIJKLMNOPQRSTUVWXYZ0123456789_- ") (k : Int)).cps.getD 0 0 : Nat) : Int) ≤ 180) &&
    decide (Txt.lower (Txt.item (Str.ofString "ABCDEFGHIJKLMNOPQRSTUVWXYZ0123456789_- ") (k : Int)) = Txt.item (Str.ofString "abcdefghijklmnopqrstuvwxyz0123456789_- ") (k : Int))) = true := by kernel_rfl
theorem law_plain (n : Int) : mapB3 (Txt.item (Str.ofString "ABCDEFGHIJKLMNOPQRSTUVWXYZ0123456789_- ") (n.fmod 39)) = Txt.item (Str.ofString "abcdefghijklmnopqrstuvwxyz0123456789_- ") (n.fmod 39) := by
  have h0 := Int.fmod_nonneg_of_pos n (show (0 : Int) < 39 by decide)
  have h1 := Int.fmod_lt_of_pos n (show (0 : Int) < 39 by decide)
  obtain ⟨k, hk⟩ := Int.eq_ofNat_of_zero_le h0
  rw [hk] at h1 ⊢
  have hc := List.all_eq_true.mp plain_chk k (List.mem_range.mpr (by omega))
  rw [Bool.and_eq_true, decide_eq_true_eq, decide_eq_true_eq] at hc
  unfold mapB3
  rw [look_low hc.1]
  exact hc.2

theorem law_j0 : mapB3 (Str.ofString "ﬀ") = Str.ofString "ff" := by kernel_rfl
theorem law_j1 : mapB3 (Str.ofString "ﬁ") = Str.ofString "fi" := by kernel_rfl
theorem law_j2 : mapB3 (Str.ofString "ﬂ") = Str.ofString "fl" := by kernel_rfl
theorem law_j3 : mapB3 (Str.ofString "ﬃ") = Str.ofString "ffi" := by kernel_rfl
theorem law_j4 : mapB3 (Str.ofString "ﬄ") = Str.ofString "ffl" := by kernel_rfl
theorem law_j5 : mapB3 (Str.ofString "ﬆ") = Str.ofString "st" := by kernel_rfl
theorem law_j6 : mapB3 (Str.ofString "ß") = Str.ofString "ss" := by kernel_rfl
end PartG2
end Mine

namespace Mine
section PartC1
open PySem.Calls
set_option maxHeartbeats 0

local macro_rules | `(tactic| walk_at "compareOp In int ref") => `(tactic| (k_here; k_dflt (refine' Mine.in22 ?k1 ?k2 ?_; (case k1 => k_asm); (case k2 => k_asm))))

/-- a def of the text's, called with one argument: its value -/
abbrev Claim1 (p : Program) (loose : List Str) (w : World) (f : Addr) (pre : Prop) (v : Value) (R : Tok → Value) : Prop :=
  ∀ (news : List (Addr × Obj)) (mean : ExcName → Option Value) (mg mb : Str → Option Value) (dp un : Nat) (gd : Option (List Code)) (cn : Str) (cs : Scope) (a : Addr) (ccd : Value) (cl : List (Str × Addr)) (outer : List Env) (A₀ : Around) (base h₀ : Heap) (L : Addr) (m : Str → Option Value) (s : Shared) (Q E : Value → Shared → Prop),
    Below A₀ base outer h₀ → Fr h₀ L s.heap m → (K w.params).In h₀ → News h₀ L s.heap news → Top p loose mean mg mb h₀ → cs.kind = .function →
    pre → dp + 1 < recursionLimit → un + 8 < cLine → CbRet h₀ L m news s Q R →
      wpAny (model PySem.Challenge.rw_wv0075_01.row.prog w) (ktrTop dp un gd cn cs L a ccd cl outer) (call (.ref f) [v]) Q E s

theorem claim_in (p : Program) (loose : List Str) (w : World) (x : Str) (t : Tok) : Claim1 p loose w 32 (x.length = 1) (.str x t) (fun _ => .bool (inB1T x)) := by
  unfold Claim1; k_fill; dsimp only [CbRet]; intros
  rename_i hret
  have cbI : CbIn 32 := CbIn.mk
  refine wpAny_call ?_
  k_dflt cell_enter
  k_steps
  all_goals cb_end hret

theorem claim_nothing (p : Program) (loose : List Str) (w : World) (x : Int) (t : Tok) : Claim1 p loose w 85 True (.int x t) (fun _ => .bool (nothingB x)) := by
  unfold Claim1; k_fill; dsimp only [CbRet]; intros
  rename_i hret
  have cbI : CbIn 85 := CbIn.mk
  k_with "tree" => (unfold nothingB; first | rw [if_pos (by omega)] | rw [if_neg (by omega)])
  refine wpAny_call ?_
  k_dflt cell_enter
  k_steps
  all_goals cb_end hret
theorem claim_gap (p : Program) (loose : List Str) (w : World) (x : Int) (t : Tok) : Claim1 p loose w 92 True (.int x t) (fun _ => .bool (gapB x)) := by
  unfold Claim1; k_fill; dsimp only [CbRet]; intros
  rename_i hret
  have cbI : CbIn 92 := CbIn.mk
  refine wpAny_call ?_
  k_dflt cell_enter
  k_steps
  all_goals cb_end hret
end PartC1
end Mine

namespace Mine
section PartC2
open PySem.Calls
set_option maxHeartbeats 0
local macro_rules | `(tactic| walk_at "getMethod ref") => `(tactic| (k_here; k_dflt (refine' Mine.meth33 ?k1 ?k2 ?_; (case k1 => k_asm); (case k2 => k_asm))))
local macro_rules | `(tactic| walk_at "call builtin:dict.get") => `(tactic| (k_here; k_dflt (refine' Mine.get33 ?k1 ?k2 ?h1 ?h2; (case k1 => k_asm); (case k2 => k_asm); (case' h1 => intro r9 u9 hr9); (case' h2 => intro hr9))))

theorem claim_b3 (p : Program) (loose : List Str) (w : World) (x : Str) (t : Tok) : Claim1 p loose w 78 (x.length = 1) (.str x t) (fun u => .str (mapB3 x) u) := by
  unfold Claim1; k_fill; dsimp only [CbRet]; intros
  rename_i hret
  have cbI : CbIn 78 := CbIn.mk
  k_with "tree" => first | exact mapB3_none (by assumption) | exact mapB3_some (by assumption)
  refine wpAny_call ?_
  k_dflt cell_enter
  k_steps
  all_goals cb_end hret
end PartC2
end Mine

namespace Mine
section PartD0
open PySem.Calls
set_option maxHeartbeats 0

theorem due_small {p : Int} {t : Tok} (h1 : p.fmod 52 < 26) (h2 : gapB (119808 + p) = false) : Value.str (Txt.item (Str.ofString "abcdefghijklmnopqrstuvwxyz0123456789_- ") (p.fmod 26)) t = Value.str (dueS p) t := by unfold dueS; rw [if_pos ⟨h1, h2⟩]
theorem due_sign1 {p : Int} {t : Tok} (h1 : ¬ p.fmod 52 < 26) : Value.str ⟨#[(119808 + p).toNat]⟩ t = Value.str (dueS p) t := by unfold dueS; rw [if_neg (fun h => h1 h.1)]
theorem due_sign2 {p : Int} {t : Tok} (h2 : gapB (119808 + p) = true) : Value.str ⟨#[(119808 + p).toNat]⟩ t = Value.str (dueS p) t := by unfold dueS; rw [if_neg (fun h => by rw [h2] at h; cases h.2)]


section
variable {prog : Program} {w : World} {A : Around} {E : Value → Shared → Prop} {s : Shared} {h₀ : Heap} {L : Addr} {m : Str → Option Value} {news : List (Addr × Obj)} {Q : Value → Shared → Prop}
def EndV (h₀ : Heap) (L : Addr) (m : Str → Option Value) (news : List (Addr × Obj)) (s : Shared) (V : Tok → Value) (v : Value) (s' : Shared) : Prop :=
  ∃ t h' tk', v = V t ∧ s' = { s with heap := h', toks := tk' } ∧ Fr h₀ L h' m ∧ News h₀ L h' news
theorem endV {V : Tok → Value} {v : Value} {t : Tok} {h' : Heap} {tk' : Nat} (e : v = V t) (F : Fr h₀ L h' m) (N : News h₀ L h' news) : EndV h₀ L m news s V v { s with heap := h', toks := tk' } :=
  ⟨t, h', tk', e, rfl, F, N⟩
theorem join_val {M : Model} {T : Sem Value} {V : Tok → Value} (h1 : wpAny M A T (EndV h₀ L m news s V) E s) (h2 : ∀ t h' tk', Fr h₀ L h' m → News h₀ L h' news → Q (V t) { s with heap := h', toks := tk' }) : wpAny M A T Q E s :=
  wpAny_mono h1 (by rintro v s' ⟨t, h', tk', rfl, rfl, F, N⟩; exact h2 t h' tk' F N) fun _ _ e => e
theorem join_code {M : Model} {T : Sem Value} {n : Int} {tc : Tok} (F : Fr h₀ L s.heap m) (N : News h₀ L s.heap news) (hc : m (Str.ofString "code") = some (.int (n.fmod 1114112) tc))
    (h1 : wpAny M A T (EndV h₀ L m news s fun t => .int (fixB (n.fmod 1114112)) t) E s)
    (h2 : ∀ t h' tk', 0 ≤ fixB (n.fmod 1114112) ∧ fixB (n.fmod 1114112) ≤ 1114111 → Fr h₀ L h' m → News h₀ L h' news → Q (.int (fixB (n.fmod 1114112)) t) { s with heap := h', toks := tk' }) : wpAny M A T Q E s :=
  join_val h1 fun t h' tk' => h2 t h' tk' (fix_range n)
theorem join_due {M : Model} {T : Sem Value} {p : Int} {tc : Tok} (F : Fr h₀ L s.heap m) (N : News h₀ L s.heap news) (hc : m (Str.ofString "place") = some (.int p tc)) (hs : (m (Str.ofString "sign")).isSome = true)
    (h1 : wpAny M A T (EndV h₀ L m news s fun t => .str (dueS p) t) E s)
    (h2 : ∀ t h' tk', Fr h₀ L h' m → News h₀ L h' news → Q (.str (dueS p) t) { s with heap := h', toks := tk' }) : wpAny M A T Q E s :=
  join_val h1 h2
theorem isnot_same {M : Model} {a b : Bool} (e : a = b) (h : Q (.bool false) s) : wpAny M A (compareOp .IsNot (.bool a) (.bool b)) Q E s := by
  subst e
  exact wpAny_isNot_self rfl h
theorem ne_same {x y : Str} {t u : Tok} (e : x = y) (h : Q (.bool false) s) : wpAny (model prog w) A (compareOp .NotEq (.str x t) (.str y u)) Q E s := by
  subst e
  exact ne_str (by rw [bne_self_eq_false]; exact h)
end
end PartD0
end Mine

namespace Mine
section PartE1
open PySem.Calls
set_option maxHeartbeats 0

def forB : Stmt → List Stmt
  | .For _ _ b _ _ => b
  | _ => []
def valOf : Stmt → Expr
  | .Assign _ v _ => v
  | _ => .Constant .none 0 default
def lawSt (k : Nat) : Stmt := nth (forB (nth (fnBody (stt 8)) 3)) k
abbrev envL (L fa : Addr) (cd : Value) : Env := envOf (fnName (stt 8)) (fnScope (stt 8)) L fa cd

section
variable {prog : Program} {w : World} {A : Around} {E : Value → Shared → Prop} {s : Shared} {h₀ : Heap} {L : Addr} {m : Str → Option Value} {news : List (Addr × Obj)} {Q : Value → Shared → Prop}
theorem sub_list7 {value slice : Expr} {l : Addr} {v0 v1 v2 v3 v4 v5 v6 : Value} {k : Int} {u : Tok} (hL : s.heap.IsList l #[v0, v1, v2, v3, v4, v5, v6]) (h0 : 0 ≤ k) (h7 : k < 7)
    (c0 : k = ((0 : Nat) : Int) → Q v0 s) (c1 : k = ((1 : Nat) : Int) → Q v1 s) (c2 : k = ((2 : Nat) : Int) → Q v2 s) (c3 : k = ((3 : Nat) : Int) → Q v3 s) (c4 : k = ((4 : Nat) : Int) → Q v4 s) (c5 : k = ((5 : Nat) : Int) → Q v5 s) (c6 : k = ((6 : Nat) : Int) → Q v6 s)
    (hs : subscripted slice false (.ref l) (.int k u) = operate [.ref l, .int k u] (getItem (.ref l) (.int k u)) := by with_unfolding_all rfl) :
    wpAny (model prog w) A (subscriptTail value slice (.ref l) (.int k u)) Q E s := by
  have hk : k = (0 : Nat) ∨ k = (1 : Nat) ∨ k = (2 : Nat) ∨ k = (3 : Nat) ∨ k = (4 : Nat) ∨ k = (5 : Nat) ∨ k = (6 : Nat) := by omega
  have go : ∀ v, #[v0, v1, v2, v3, v4, v5, v6][k.toNat]? = some v → Q v s → wpAny (model prog w) A (subscriptTail value slice (.ref l) (.int k u)) Q E s := fun v hv hq =>
    tail_any hL.typeIs slot_list_getitem.lookup (wpAny_getItem_list hL h0 (by omega) hv hq) hs
  rcases hk with h | h | h | h | h | h | h
  · exact go v0 (by rw [h]; rfl) (c0 h)
  · exact go v1 (by rw [h]; rfl) (c1 h)
  · exact go v2 (by rw [h]; rfl) (c2 h)
  · exact go v3 (by rw [h]; rfl) (c3 h)
  · exact go v4 (by rw [h]; rfl) (c4 h)
  · exact go v5 (by rw [h]; rfl) (c5 h)
  · exact go v6 (by rw [h]; rfl) (c6 h)
theorem fmod7 (n : Int) : 0 ≤ n.fmod 7 ∧ n.fmod 7 < 7 := ⟨Int.fmod_nonneg_of_pos n (by decide), Int.fmod_lt_of_pos n (by decide)⟩
end

theorem sub_at {value slice : Expr} {l : Addr} {items : List Value} {k : Int} {u : Tok} {prog : Program} {w : World} {A : Around} {E : Value → Shared → Prop} {s : Shared} {Q : Value → Shared → Prop} {v : Value} (j : Nat) (hL : s.heap.IsList l items.toArray) (hk : k = (j : Int)) (hj : j < 64) (hv : items[j]? = some v) (h : Q v s)
    (hs : subscripted slice false (.ref l) (.int k u) = operate [.ref l, .int k u] (getItem (.ref l) (.int k u)) := by with_unfolding_all rfl) :
    wpAny (model prog w) A (subscriptTail value slice (.ref l) (.int k u)) Q E s :=
  tail_any hL.typeIs slot_list_getitem.lookup (wpAny_getItem_list hL (by omega) (by omega) (by rw [hk, List.getElem?_toArray]; exact hv) h) hs

local macro_rules | `(tactic| walk_at "call ref") => `(tactic| (k_here; k_dflt ((first | refine' Mine.claim_in _ _ _ _ _ _ _ _ _ _ _ _ _ _ _ _ _ _ _ _ _ _ _ _ _ _ ?k1 ?k2 ?k3 ?k4 ?k5 ?kK ?kp ?kd ?ku ?_ | refine' Mine.claim_nothing _ _ _ _ _ _ _ _ _ _ _ _ _ _ _ _ _ _ _ _ _ _ _ _ _ _ ?k1 ?k2 ?k3 ?k4 ?k5 ?kK ?kp ?kd ?ku ?_ | refine' Mine.claim_gap _ _ _ _ _ _ _ _ _ _ _ _ _ _ _ _ _ _ _ _ _ _ _ _ _ _ ?k1 ?k2 ?k3 ?k4 ?k5 ?kK ?kp ?kd ?ku ?_ | refine' Mine.claim_b3 _ _ _ _ _ _ _ _ _ _ _ _ _ _ _ _ _ _ _ _ _ _ _ _ _ _ ?k1 ?k2 ?k3 ?k4 ?k5 ?kK ?kp ?kd ?ku ?_); (case k1 => k_asm); (case k2 => k_asm); (case k3 => k_asm); (case k4 => k_asm); (case k5 => k_asm); (case kK => first | exact rfl | assumption); (case kp => first | trivial | rfl | (rw [len_item]) | decide +kernel); (case kd => ktr_room); (case ku => ktr_units); intro t9 h9 tk9 F9 N9; (try dsimp only); (try k_sweep))))
local macro_rules | `(tactic| walk_at "eval Name") => `(tactic| (k_here; k_dflt (refine' nameX_L ?F ?v ?_ ?a ?b; (case F => k_asm); (case a => rfl); (case b => rfl); (case v => assumption); k_whole)))
local macro_rules | `(tactic| walk_at "compareOp IsNot bool bool") => `(tactic| (k_here; k_dflt (refine' Mine.isnot_same (Mine.law_in _) ?_)))
local macro_rules | `(tactic| walk_at "compareOp NotEq str str") => `(tactic| (k_here; k_dflt (first | refine' Mine.ne_same (Mine.law_sign _) ?_ | refine' Mine.ne_same (Mine.law_plain _) ?_ | refine' Mine.ne_same Mine.law_j0 ?_ | refine' Mine.ne_same Mine.law_j1 ?_ | refine' Mine.ne_same Mine.law_j2 ?_ | refine' Mine.ne_same Mine.law_j3 ?_ | refine' Mine.ne_same Mine.law_j4 ?_ | refine' Mine.ne_same Mine.law_j5 ?_ | refine' Mine.ne_same Mine.law_j6 ?_)))

theorem seg2 {w : World} {L fa : Addr} {cd : Value} {m : Str → Option Value} {n : Int} {tc : Tok} {p : Program} {loose : List Str} {mean : ExcName → Option Value} {mg mb : Str → Option Value} {news : List (Addr × Obj)} {A₀ : Around} {base h₀ : Heap} {s : Shared} {Q : Flow → Shared → Prop} {E : Value → Shared → Prop} :
    Below A₀ base [] h₀ → Fr h₀ L s.heap m → (K w.params).In h₀ → News h₀ L s.heap news → Top p loose mean mg mb h₀ → m (Str.ofString "code") = some (.int (fixB (n.fmod 1114112)) tc) →
    (∀ h' tk', Fr h₀ L h' m → News h₀ L h' news → Q .next { s with heap := h', toks := tk' }) →
    wpAny (model PySem.Challenge.rw_wv0075_01.row.prog w) (callerA.deeper (envL L fa cd)) (exec (lawSt 2) (envL L fa cd)) Q E s := by
  k_fill
  intro B F X N T hc hret
  have hr := fix_range n
  rw [show lawSt 2 = Stmt.If _ _ _ _ from rfl]
  unfold envL
  rw [show fnScope (stt 8) = Scope.mk _ _ _ _ _ from rfl]
  k_steps
  all_goals (first | exact hret _ _ (by k_asm) (by k_asm))

theorem seg1 {w : World} {L fa : Addr} {cd : Value} {m : Str → Option Value} {n : Int} {p : Program} {loose : List Str} {mean : ExcName → Option Value} {mg mb : Str → Option Value} {news : List (Addr × Obj)} {A₀ : Around} {base h₀ : Heap} {s : Shared} {E : Value → Shared → Prop} {tc : Tok} {Q : Value → Shared → Prop} :
    Below A₀ base [] h₀ → Fr h₀ L s.heap m → (K w.params).In h₀ → News h₀ L s.heap news → Top p loose mean mg mb h₀ → m (Str.ofString "code") = some (.int (n.fmod 1114112) tc) →
    (∀ t h' tk', Fr h₀ L h' m → News h₀ L h' news → Q (.int (fixB (n.fmod 1114112)) t) { s with heap := h', toks := tk' }) →
    wpAny (model PySem.Challenge.rw_wv0075_01.row.prog w) (callerA.deeper (envL L fa cd)) (eval (valOf (lawSt 1)) (envL L fa cd)) Q E s := by
  k_fill
  intro B F X N T hc hret
  rw [show valOf (lawSt 1) = Expr.IfExp _ _ _ _ from rfl]
  unfold envL
  rw [show fnScope (stt 8) = Scope.mk _ _ _ _ _ from rfl]
  refine join_val (V := fun t => .int (fixB (n.fmod 1114112)) t) (news := news) ?_ hret
  k_steps
  all_goals (refine' endV ?e ?F ?N; (case F => k_asm); (case N => k_asm); (case e => first | exact fix_in (by omega) (by omega) | exact fix_out (by omega)))

theorem seg5 {w : World} {L fa : Addr} {cd : Value} {m : Str → Option Value} {n : Int} {p : Program} {loose : List Str} {mean : ExcName → Option Value} {mg mb : Str → Option Value} {news : List (Addr × Obj)} {A₀ : Around} {base h₀ : Heap} {s : Shared} {E : Value → Shared → Prop} {tp ts tsm : Tok} {Q : Value → Shared → Prop} :
    Below A₀ base [] h₀ → Fr h₀ L s.heap m → (K w.params).In h₀ → News h₀ L s.heap news → Top p loose mean mg mb h₀ → m (Str.ofString "place") = some (.int (n.fmod 676) tp) → m (Str.ofString "sign") = some (.str ⟨#[(119808 + n.fmod 676).toNat]⟩ ts) → m (Str.ofString "small") = some (.str (Str.ofString "abcdefghijklmnopqrstuvwxyz0123456789_- ") tsm) →
    (∀ t h' tk', Fr h₀ L h' m → News h₀ L h' news → Q (.str (dueS (n.fmod 676)) t) { s with heap := h', toks := tk' }) →
    wpAny (model PySem.Challenge.rw_wv0075_01.row.prog w) (callerA.deeper (envL L fa cd)) (eval (valOf (lawSt 5)) (envL L fa cd)) Q E s := by
  k_fill
  intro B F X N T hp hs hm hret
  have hr0 := Int.fmod_nonneg_of_pos n (show (0 : Int) < 676 by decide)
  have hr1 := Int.fmod_lt_of_pos n (show (0 : Int) < 676 by decide)
  rw [show valOf (lawSt 5) = Expr.IfExp _ _ _ _ from rfl]
  unfold envL
  rw [show fnScope (stt 8) = Scope.mk _ _ _ _ _ from rfl]
  refine join_val (V := fun t => .str (dueS (n.fmod 676)) t) (news := news) ?_ hret
  k_steps
  all_goals (refine' endV ?e ?F ?N; (case F => k_asm); (case N => k_asm); (case e => first | exact due_small (by omega) (by first | assumption | simp_all) | exact due_sign1 (by omega) | exact due_sign2 (by first | assumption | simp_all)))

theorem seg6 {w : World} {L fa : Addr} {cd : Value} {m : Str → Option Value} {n : Int} {p : Program} {loose : List Str} {mean : ExcName → Option Value} {mg mb : Str → Option Value} {news : List (Addr × Obj)} {A₀ : Around} {base h₀ : Heap} {s : Shared} {E : Value → Shared → Prop} {ts td : Tok} {Q : Flow → Shared → Prop} :
    Below A₀ base [] h₀ → Fr h₀ L s.heap m → (K w.params).In h₀ → News h₀ L s.heap news → Top p loose mean mg mb h₀ → m (Str.ofString "sign") = some (.str ⟨#[(119808 + n.fmod 676).toNat]⟩ ts) → m (Str.ofString "due") = some (.str (dueS (n.fmod 676)) td) →
    (∀ h' tk', Fr h₀ L h' m → News h₀ L h' news → Q .next { s with heap := h', toks := tk' }) →
    wpAny (model PySem.Challenge.rw_wv0075_01.row.prog w) (callerA.deeper (envL L fa cd)) (exec (lawSt 6) (envL L fa cd)) Q E s := by
  k_fill
  intro B F X N T hs hd hret
  rw [show lawSt 6 = Stmt.If _ _ _ _ from rfl]
  unfold envL
  rw [show fnScope (stt 8) = Scope.mk _ _ _ _ _ from rfl]
  k_steps
  all_goals (first | exact hret _ _ (by k_asm) (by k_asm))

local macro_rules | `(tactic| walk_at "subscriptTail Name BinOp ref int") => `(tactic| (k_here; k_dflt (first | refine' Mine.sub_at 0 (News.isList (by k_asm) (by assumption)) (by assumption) (by decide) (by rfl) ?_ | refine' Mine.sub_at 1 (News.isList (by k_asm) (by assumption)) (by assumption) (by decide) (by rfl) ?_ | refine' Mine.sub_at 2 (News.isList (by k_asm) (by assumption)) (by assumption) (by decide) (by rfl) ?_ | refine' Mine.sub_at 3 (News.isList (by k_asm) (by assumption)) (by assumption) (by decide) (by rfl) ?_ | refine' Mine.sub_at 4 (News.isList (by k_asm) (by assumption)) (by assumption) (by decide) (by rfl) ?_ | refine' Mine.sub_at 5 (News.isList (by k_asm) (by assumption)) (by assumption) (by decide) (by rfl) ?_ | refine' Mine.sub_at 6 (News.isList (by k_asm) (by assumption)) (by assumption) (by decide) (by rfl) ?_ | (refine' Mine.sub_list7 (News.isList (by k_asm) (by assumption)) (by assumption) (by assumption) ?_ ?_ ?_ ?_ ?_ ?_ ?_ <;> intro hk9))))
local macro_rules | `(tactic| walk_at "subscriptTail") => `(tactic| (k_here; (with_reducible show wpAny _ _ (subscriptTail _ _ (Value.ref _) (Value.int _ _)) _ _ _); k_dflt (refine' item_tupleT ?t ?a ?b ?c ?d ?_; (case t => exact News.isTup (by k_asm) (by assumption)); (case a => decide); (case b => decide); (case c => rfl); (case d => rfl); k_whole)))

def listO (vs : List Value) (ep : Nat) : Obj := { cls := .type "list", data := .seq vs.toArray ep }
def tupO (vs : List Value) (ep : Nat) : Obj := { cls := .type "tuple", data := .seq vs.toArray ep }

theorem seg7 {w : World} {L fa : Addr} {cd : Value} {m : Str → Option Value} {n : Int} {p : Program} {loose : List Str} {mean : ExcName → Option Value} {mg mb : Str → Option Value} {news : List (Addr × Obj)} {A₀ : Around} {base h₀ : Heap} {s : Shared} {E : Value → Shared → Prop} {tn tpl tsm : Tok} {l d0 d1 d2 d3 d4 d5 d6 : Addr} {a0 b0 a1 b1 a2 b2 a3 b3 a4 b4 a5 b5 a6 b6 : Tok} {ep e0 e1 e2 e3 e4 e5 e6 : Nat} {Q : Flow → Shared → Prop} :
    Below A₀ base [] h₀ → Fr h₀ L s.heap m → (K w.params).In h₀ → News h₀ L s.heap news → Top p loose mean mg mb h₀ → m (Str.ofString "number") = some (.int n tn) → m (Str.ofString "plain") = some (.str (Str.ofString "ABCDEFGHIJKLMNOPQRSTUVWXYZ0123456789_- ") tpl) → m (Str.ofString "small") = some (.str (Str.ofString "abcdefghijklmnopqrstuvwxyz0123456789_- ") tsm) → m (Str.ofString "joined") = some (.ref l) →
    (l, ({ cls := .type "list", data := .seq #[.ref d0, .ref d1, .ref d2, .ref d3, .ref d4, .ref d5, .ref d6] ep } : Obj)) ∈ news →
    (d0, ({ cls := .type "tuple", data := .seq #[.str (Str.ofString "ﬀ") a0, .str (Str.ofString "ff") b0] e0 } : Obj)) ∈ news →
    (d1, ({ cls := .type "tuple", data := .seq #[.str (Str.ofString "ﬁ") a1, .str (Str.ofString "fi") b1] e1 } : Obj)) ∈ news →
    (d2, ({ cls := .type "tuple", data := .seq #[.str (Str.ofString "ﬂ") a2, .str (Str.ofString "fl") b2] e2 } : Obj)) ∈ news →
    (d3, ({ cls := .type "tuple", data := .seq #[.str (Str.ofString "ﬃ") a3, .str (Str.ofString "ffi") b3] e3 } : Obj)) ∈ news →
    (d4, ({ cls := .type "tuple", data := .seq #[.str (Str.ofString "ﬄ") a4, .str (Str.ofString "ffl") b4] e4 } : Obj)) ∈ news →
    (d5, ({ cls := .type "tuple", data := .seq #[.str (Str.ofString "ﬆ") a5, .str (Str.ofString "st") b5] e5 } : Obj)) ∈ news →
    (d6, ({ cls := .type "tuple", data := .seq #[.str (Str.ofString "ß") a6, .str (Str.ofString "ss") b6] e6 } : Obj)) ∈ news →
    (∀ h' tk', Fr h₀ L h' m → News h₀ L h' news → Q .next { s with heap := h', toks := tk' }) →
    wpAny (model PySem.Challenge.rw_wv0075_01.row.prog w) (callerA.deeper (envL L fa cd)) (exec (lawSt 7) (envL L fa cd)) Q E s := by
  k_fill
  intro B F X N T hn hp hs hj hl h0 h1 h2 h3 h4 h5 h6 hret
  have q0 := (fmod7 n).1
  have q7 := (fmod7 n).2
  have g0 := Int.fmod_nonneg_of_pos n (show (0 : Int) < 39 by decide)
  have g1 := Int.fmod_lt_of_pos n (show (0 : Int) < 39 by decide)
  rw [show lawSt 7 = Stmt.If _ _ _ _ from rfl]
  unfold envL
  rw [show fnScope (stt 8) = Scope.mk _ _ _ _ _ from rfl]
  k_steps
  all_goals (first | exact hret _ _ (by k_asm) (by k_asm))
end PartE1
end Mine

open PySem.Calls
local macro_rules | `(tactic| walk_at "eval IfExp") => `(tactic| (k_here; k_dflt (first | (refine' Mine.seg1 ?B ?F ?X ?N ?T ?c ?_; (case B => k_asm); (case F => k_asm); (case X => k_asm); (case N => k_asm); (case T => k_asm); (case c => exact rfl); intro t9 h9 tk9 F9 N9; (try dsimp only); (try k_sweep)) | (refine' Mine.seg5 ?B ?F ?X ?N ?T ?c ?d ?e ?_; (case B => k_asm); (case F => k_asm); (case X => k_asm); (case N => k_asm); (case T => k_asm); (case c => exact rfl); (case d => exact rfl); (case e => exact rfl); intro t9 h9 tk9 F9 N9; (try dsimp only); (try k_sweep)))))
local macro_rules | `(tactic| walk_at "exec If") => `(tactic| (k_here; k_dflt (first | (refine' Mine.seg2 ?B ?F ?X ?N ?T ?c ?_; (case B => k_asm); (case F => k_asm); (case X => k_asm); (case N => k_asm); (case T => k_asm); (case c => exact rfl); intro h9 tk9 F9 N9; (try dsimp only); (try k_sweep)) | (refine' Mine.seg6 ?B ?F ?X ?N ?T ?c ?d ?_; (case B => k_asm); (case F => k_asm); (case X => k_asm); (case N => k_asm); (case T => k_asm); (case c => exact rfl); (case d => exact rfl); intro h9 tk9 F9 N9; (try dsimp only); (try k_sweep)) | (refine' Mine.seg7 ?B ?F ?X ?N ?T ?c ?d ?e ?f ?l ?m0 ?m1 ?m2 ?m3 ?m4 ?m5 ?m6 ?_; (case B => k_asm); (case F => k_asm); (case X => k_asm); (case N => k_asm); (case T => k_asm); (case c => exact rfl); (case d => exact rfl); (case e => exact rfl); (case f => exact rfl); (case l => k_mem); (case m0 => k_mem); (case m1 => k_mem); (case m2 => k_mem); (case m3 => k_mem); (case m4 => k_mem); (case m5 => k_mem); (case m6 => k_mem); intro h9 tk9 F9 N9; (try dsimp only); (try k_sweep)))))

set_option maxHeartbeats 0 in
theorem PySem.Challenge.cw_wv0075_01_holds : PySem.Challenge.rw_wv0075_01.Holds := by
  w_on
  o_law
  refine holds_open (q := Mine.q) (loose := Mine.loose) (Xt := Mine.Xt) (XP := XL Mine.q []) (Yf := Mine.KH.obs) (Ya := Mine.KH.val) (YP := (kHook Mine.K Mine.Kas Mine.Kas_eq).says) (N := 30000) Mine.left Mine.KH.of Mine.KH.keeps (fun s e => xl_of s (Bool.and_eq_true_iff.mp e).1) XL.keeps (by rfl) (by rfl) (by rfl) (fun s e => recFacts_of (Bool.and_eq_true_iff.mp e).2) (by rfl) (by first | assumption | decide +kernel) (by decide +kernel) ⟨rfl, rfl, rfl, rfl, rfl, by decide +kernel⟩ ?hw ?hc
  case hw => w_witness2
  k_fill
  intro w s₀ s₁ mg mb G Y fa o pm cd doc dV kV ho hd hcd hD hmg hg args vals as hpre hlay hrd hwl hlo
  have KX : (Mine.K w.params).In s₁.heap := Y
  k_behind G ho hd hcd hD hmg hpre hlay hrd hwl hlo cd
  all_goals try k_fold
  k_steps
  all_goals (try k_data)
